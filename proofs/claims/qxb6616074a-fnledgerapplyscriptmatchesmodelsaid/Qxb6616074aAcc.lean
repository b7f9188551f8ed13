/-
  OWN TEXT. The small functions on the road: the guards over the script, the maker of a ledger, its readers.
-/
import Derived.Test.Qxb6616074aApply3
namespace Go.Proofs.Qxb6616074a
open Go.RowKit Go.MapKept Go.ChangeMaps

/-- one entry of a script: kind, transaction, stamp -/
abbrev EntD := Int × ByteArray × Int

/-- the script's cells -/
structure ScrAt (w : World) (a : Option Addr) (sb so n : Nat) (es : Nat → EntD) : Prop where
  addr : 0 < n → a = some ⟨sb, so, none⟩
  k : ∀ i, i < n → w.cell? ⟨sb, so + i * 3, none⟩ = some (.int .u8 (es i).1)
  t : ∀ i, i < n → w.cell? ⟨sb, so + i * 3 + 1, none⟩ = some (.string (es i).2.1)
  s : ∀ i, i < n → w.cell? ⟨sb, so + i * 3 + 2, none⟩ = some (.int .u64 (es i).2.2)

def ZzbPost (w : World) (n : Nat) (es : Nat → EntD) (e : Ending) (w' : World) : Prop := (∃ b, e = .returned (.bool b) ∧ (b = true → n ≤ 1048576 ∧ ∀ i, i < n → (es i).2.1.size ≤ 1048576)) ∧ w' = w
def BoolPost (w : World) (e : Ending) (w' : World) : Prop := (∃ b, e = .returned (.bool b)) ∧ w' = w

set_option maxRecDepth 100000 in
set_option maxHeartbeats 1000000 in
theorem zzb_calls (a : Option Addr) (sb so n cap : Nat) (es : Nat → EntD) (w : World) (h : ScrAt w a sb so n es) :
    Calls Try.prog 5 #[.slice a n cap] w (ZzbPost w n es) := by
  by_cases hbig : (1048576 : Int) < (n : Int)
  · go_enter Try.func5, Try.ntmps5
    go_wp2
    go_ret
    exact ⟨⟨false, rfl, by simp⟩, rfl⟩
  · have hb2 : ¬ (1048576 : Int) < (n : Int) := hbig
    go_enter Try.func5, Try.ntmps5
    go_wp2
    go_loop [3, 4] (fun z i => ∃ (k : Nat) (q : Int), k ≤ n ∧ i = .int .i64 k ∧ z = .int .i64 q ∧ 0 ≤ q ∧ q ≤ 1048576 ∧ ∀ j, j < k → (es j).2.1.size ≤ 1048576) (fun _ i => n - (intOf i).toNat)
    case atStart => exact ⟨0, n, Nat.zero_le _, rfl, rfl, by omega, by omega, fun j hj => by omega⟩
    case round =>
      obtain ⟨k, q, hk, rfl, rfl, hq0, hq1, hall⟩ := hrel
      by_cases hlt : k < n
      · have ha := h.addr (by omega)
        subst ha
        have hc := h.t k hlt
        have hlt' : (k : Int) < (n : Int) := by omega
        by_cases hs : (1048576 : Int) < ((es k).2.1.size : Int)
        · go_wp2
          go_ret
          exact ⟨⟨false, rfl, by simp⟩, rfl⟩
        · have hs' : ((es k).2.1.size : Int) ≤ 1048576 := by omega
          have hs0 : (0 : Int) ≤ ((es k).2.1.size : Int) := by omega
          by_cases hs2 : (1048576 : Int) < q + ((es k).2.1.size : Int)
          · go_wp2
            go_ret
            exact ⟨⟨false, rfl, by simp⟩, rfl⟩
          · go_wp2
            go_round
            case rel =>
              refine ⟨k + 1, q + ((es k).2.1.size : Int), by omega, by go_num, rfl, by omega, by omega, fun j hj => ?_⟩
              rcases Nat.lt_or_eq_of_le (Nat.lt_succ_iff.1 hj) with h' | h'
              · exact hall j h'
              · subst h'; omega
            case measure => simp [intOf]; omega
      · have hlt' : ¬ (k : Int) < (n : Int) := by omega
        go_wp2
        go_ret
        exact ⟨⟨true, rfl, fun _ => ⟨by omega, fun i hi => hall i (by omega)⟩⟩, rfl⟩

set_option maxRecDepth 100000 in
set_option maxHeartbeats 1000000 in
theorem big_calls (a : Option Addr) (sb so n cap : Nat) (es : Nat → EntD) (w : World) (h : ScrAt w a sb so n es) (hn : n ≤ 1048576) (hs : ∀ i, i < n → (es i).2.1.size ≤ 1048576) (x : Int) (hx0 : 0 ≤ x) (hx1 : x ≤ 1048576) :
    Calls Try.prog 6 #[.slice a n cap, .int .i64 x] w (BoolPost w) := by
  have hx2 : ¬ (1048576 : Int) < x := by omega
  go_enter Try.func6, Try.ntmps6
  go_wp2
  go_loop [5, 6] (fun z i => ∃ (k : Nat) (q : Int), k ≤ n ∧ i = .int .i64 k ∧ z = .int .i64 q ∧ 0 ≤ q ∧ q ≤ 1048576) (fun _ i => n - (intOf i).toNat)
  case atStart => exact ⟨0, x, Nat.zero_le _, rfl, rfl, by omega, by omega⟩
  case round =>
    obtain ⟨k, q, hk, rfl, rfl, hq0, hq1⟩ := hrel
    by_cases hlt : k < n
    · have ha := h.addr (by omega)
      subst ha
      have hc := h.t k hlt
      have hlt' : (k : Int) < (n : Int) := by omega
      have hs1 := hs k hlt
      have hs' : ((es k).2.1.size : Int) ≤ 1048576 := by omega
      have hs0 : (0 : Int) ≤ ((es k).2.1.size : Int) := by omega
      by_cases hs2 : (1048576 : Int) < q + (32 + ((es k).2.1.size : Int))
      · go_wp2
        go_ret
        exact ⟨⟨true, rfl⟩, rfl⟩
      · go_wp2
        go_round
        case rel => exact ⟨k + 1, q + (32 + ((es k).2.1.size : Int)), by omega, by go_num, rfl, by omega, by omega⟩
        case measure => simp [intOf]; omega
    · have hlt' : ¬ (k : Int) < (n : Int) := by omega
      go_wp2
      go_ret
      exact ⟨⟨false, rfl⟩, rfl⟩

def led0 : Led := ⟨[], fun _ => none, ⟨fun _ => none, [], 0⟩, ⟨fun _ => none, [], 0⟩, 0⟩

theorem new_calls (w : World) : Calls Try.prog 7 #[] w fun e w' => e = .returned (.pointer (some ⟨w.heap.size, 0, none⟩)) ∧ LedS w' w.heap.size [] led0 ∧ Chg (fun _ => False) w w' ∧ w'.heap.size = w.heap.size + 1 := by
  go_enter Try.func7, Try.ntmps7
  go_wp2
  go_ret
  refine ⟨rfl, ?_, chg_alloc _ _ _, by simp⟩
  refine ⟨[], .map none, 0, .map none, .slice none 0 0, 0, .map none, .slice none 0 0, 0, ⟨.inl ⟨rfl, rfl, ?_, ?_, ?_, ?_⟩, ⟨?_, ?_, .inl ⟨rfl, rfl, rfl⟩⟩, ⟨?_, ?_, ?_, ?_, ?_, ?_, .inl ⟨rfl, rfl, rfl⟩, .inl ⟨rfl, rfl, rfl⟩, ?_, ?_⟩, ⟨?_, ?_, ?_, ?_, ?_, ?_, .inl ⟨rfl, rfl, rfl⟩, .inl ⟨rfl, rfl, rfl⟩, ?_, ?_⟩, ?_, ?_, ?_, ?_, ?_, ?_, ?_, ?_, ?_, ?_, ?_, ?_⟩, rfl⟩
  all_goals first
    | (rw [cell_new rfl]; rfl)
    | exact frozen_new rfl _ _ _
    | (intro k hk; simp [vblk] at hk)

theorem zzapply_calls {w : World} {lb : Nat} {F : List Nat} {L : Led} (h : LedS w lb F L) {n : Nat} (hs : Small L n) (hn : n < 1000000000) (kd : Int) (t : ByteArray) (s : Int) :
    Calls Try.prog 8 #[.pointer (some ⟨lb, 0, none⟩), .int .u8 kd, .string t, .int .u64 s] w (ApplyPost w lb F (applyF L kd t s)) := by
  go_enter Try.func8, Try.ntmps8
  go_wp2_with fail
  refine (apply_calls h hs hn kd t s).mono ?_
  rintro e w' ⟨rfl, F', q1, q2⟩
  go_wp2_with fail
  go_end0
  exact ⟨rfl, F', q1, q2⟩

/-- what a reader of the heap of doubts finds -/
theorem LedS.held {w : World} {lb : Nat} {F : List Nat} {L : Led} (h : LedS w lb F L) : ∃ ao c, w.cell? ⟨lb, 0, none⟩ = some (.slice ao L.hs.length c) ∧ L.hs.length ≤ 1000000000 ∧
    ∀ i d, L.hs[i]? = some d → ∃ hb, ao = some ⟨hb, 0, none⟩ ∧ w.cell? ⟨hb, i * 2, none⟩ = some (.string d.1) ∧ w.cell? ⟨hb, i * 2 + 1, none⟩ = some (.int .u64 d.2) := by
  obtain ⟨D, uv, nu, amv, aov, na, cmv, cov, nc, h, rfl⟩ := h
  rcases h.dbt with ⟨_, e, c0, _⟩ | ⟨hb, cap, pb, _, hD⟩
  · rw [e]
    exact ⟨none, 0, c0, by simp, fun i d hd => by simp at hd⟩
  · exact ⟨_, _, hD.c0, hD.small, fun i d hd => ⟨hb, rfl, (hD.cells hd).1, (hD.cells hd).2.1⟩⟩
theorem LedS.place {w : World} {lb : Nat} {F : List Nat} {L : Led} (h : LedS w lb F L) (hn : L.hs ≠ []) : ∃ pb pl, w.cell? ⟨lb, 1, none⟩ = some (.map (some pb)) ∧ MapAt w pb natV pl L.hs.length ∧ Good L.hs pl := by
  obtain ⟨D, uv, nu, amv, aov, na, cmv, cov, nc, h, rfl⟩ := h
  rcases h.dbt with ⟨_, e, c0, _⟩ | ⟨hb, cap, pb, _, hD⟩
  · exact absurd e hn
  · obtain ⟨pl, hM, hg⟩ := hD.map
    exact ⟨pb, pl, hD.c1, hM, hg⟩

theorem dlen_calls {w : World} {lb : Nat} {F : List Nat} {L : Led} (h : LedS w lb F L) : Calls Try.prog 9 #[.pointer (some ⟨lb, 0, none⟩)] w fun e w' => e = .returned (.int .i64 L.hs.length) ∧ w' = w := by
  obtain ⟨ao, c, hc, _⟩ := h.held
  go_enter Try.func9, Try.ntmps9
  go_wp2_with fail
  refine (len_any lb 0 L.hs.length c ao w hc).mono ?_
  rintro e w2 ⟨rfl, hw⟩; obtain rfl := hw.symm; clear hw
  go_wp2_with fail
  go_ret
  exact ⟨rfl, rfl⟩

set_option maxRecDepth 100000 in
theorem held_calls {w : World} {lb : Nat} {F : List Nat} {L : Led} (h : LedS w lb F L) (ii : Int) (i : Nat) (ei : ii = i) (d : Dbt) (hd : L.hs[i]? = some d) :
    Calls Try.prog 10 #[.pointer (some ⟨lb, 0, none⟩), .int .i64 ii] w fun e w' => e = .returned (.tuple #[.string d.1, .int .u64 d.2]) ∧ Chg (fun _ => False) w w' := by
  subst ei
  have hlb := h.lb_lt
  obtain ⟨ao, c, hc, hsm, hel⟩ := h.held
  obtain ⟨hb, rfl, e0, e1⟩ := hel i d hd
  have hil : i < L.hs.length := (List.getElem?_eq_some_iff.1 hd).1
  have hi : (i : Int) < (L.hs.length : Int) := by omega
  clear hel hd
  go_enter Try.func10, Try.ntmps10
  go_wp2
  go_quiet (fail)
  go_wp2
  go_ret2
  exact ⟨rfl, ((Chg.refl _ w).alloc _).drewN _⟩

theorem place_calls {w : World} {lb : Nat} {F : List Nat} {L : Led} (h : LedS w lb F L) (i : Nat) (d : Dbt) (hd : L.hs[i]? = some d) :
    Calls Try.prog 11 #[.pointer (some ⟨lb, 0, none⟩), .string d.1] w fun e w' => e = .returned (.tuple #[.int .i64 i, .bool true]) ∧ w' = w := by
  have hne : L.hs ≠ [] := by intro e; rw [e] at hd; simp at hd
  obtain ⟨pb, pl, hc, hM, hg⟩ := h.place hne
  have hlk := hM.look (P := Try.prog) (t := 42) (kt := 9) (et := 3) Try.underlying42 Try.underlying9 (zero3 w) d.1
  rw [(hg d.1 i).2 ⟨d, hd, rfl⟩] at hlk
  simp only [Option.map_some, Option.getD_some, Option.isSome_some, natV] at hlk
  clear hd hg
  go_enter Try.func11, Try.ntmps11
  go_wp2
  go_ret2
  exact ⟨rfl, rfl⟩
end Go.Proofs.Qxb6616074a
