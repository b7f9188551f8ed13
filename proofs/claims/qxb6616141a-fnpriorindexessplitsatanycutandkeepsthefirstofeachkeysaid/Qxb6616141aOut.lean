/-
  OWN TEXT. Outcomes: asked whether they show, counted, made.
-/
import Derived.Test.Qxb6616141aShows
import Derived.Laws.MakeOwn
import Derived.OwnWalk
namespace Go.Proofs.Qxb6616141a
open Go.RowKit

theorem heap_at {w : World} {n : Nat} (hn : n = w.heap.size) (o : Obj) : (w.alloc o).heap[n]? = some o := by
  subst hn
  exact heap_alloc_new w _
theorem cell_new {w : World} {n : Nat} (hn : n = w.heap.size) (cs : Array Value) (t : TypeId) (j : Nat) : (w.alloc (.cells cs t)).cell? ⟨n, j, none⟩ = cs[j]? := by
  have := heap_at hn (.cells cs t)
  unfold World.cell?
  rw [this]
  simp

set_option maxRecDepth 100000 in
set_option maxHeartbeats 1000000 in
theorem out_shows (a : Option Addr) (sb so n cap : Nat) (f : Nat → ByteArray) (s : ByteArray) (v2 : Value) (w : World) (h : EvAt w a sb so n f) (hn : n ≤ 1048576) :
    Calls Try.prog 25 #[.agg #[.slice a n cap, v2], .string s] w (TB w (.bool (hasF f s n))) := by
  go_enter Try.func25, Try.ntmps25
  go_wp2_with fail
  have hB0 : Below w.heap.size w ((w.alloc (.cells #[.slice a n cap, v2] 33)).alloc (.cells #[.string s] 9)) := below_tr (below_alloc _ _) (below_alloc _ _)
  refine (contains_calls a sb so n cap (w.heap.size + 1) f s _ (h.below hB0) ?_ hn).mono ?_
  · exact (cell_new (by simp) _ _ _).trans rfl
  rintro e w1 ⟨rfl, hB⟩
  go_wp2
  go_ret
  exact ⟨rfl, below_tr hB0 hB⟩

/-- n outcomes, the i-th with the anomalies F i -/
structure OutAt (w : World) (a : Option Addr) (ob oo n : Nat) (A : Nat → Option Addr) (L C EB EO : Nat → Nat) (F : Nat → Nat → ByteArray) : Prop where
  addr : 0 < n → a = some ⟨ob, oo, none⟩
  c : ∀ i, i < n → w.cell? ⟨ob, oo + i * 2, none⟩ = some (.slice (A i) (L i) (C i))
  d : ∀ i, i < n → w.cell? ⟨ob, oo + i * 2 + 1, none⟩ = some (.slice none 0 0)
  r : ∀ i, i < n → EvAt w (A i) (EB i) (EO i) (L i) (F i)
theorem OutAt.below {w w' : World} {a : Option Addr} {ob oo n : Nat} {A : Nat → Option Addr} {L C EB EO : Nat → Nat} {F : Nat → Nat → ByteArray} (h : OutAt w a ob oo n A L C EB EO F) (hb : Below w.heap.size w w') : OutAt w' a ob oo n A L C EB EO F :=
  ⟨h.addr, fun i hi => below_cell hb (h.c i hi), fun i hi => below_cell hb (h.d i hi), fun i hi => (h.r i hi).below hb⟩

def cntF (L : Nat → Nat) (F : Nat → Nat → ByteArray) (s : ByteArray) : Nat → Nat
  | 0 => 0
  | i + 1 => cntF L F s i + if hasF (F i) s (L i) then 1 else 0
theorem cntF_le (L : Nat → Nat) (F : Nat → Nat → ByteArray) (s : ByteArray) : ∀ i, cntF L F s i ≤ i
  | 0 => Nat.le_refl _
  | i + 1 => by
    have := cntF_le L F s i
    simp only [cntF]
    split <;> omega

set_option maxRecDepth 100000 in
set_option maxHeartbeats 1000000 in
theorem showing_calls (a : Option Addr) (ob oo n cap : Nat) (A : Nat → Option Addr) (L C EB EO : Nat → Nat) (F : Nat → Nat → ByteArray) (s : ByteArray) (w : World) (h : OutAt w a ob oo n A L C EB EO F) (hn : n ≤ 1000000) (hL : ∀ i, i < n → L i ≤ 1048576) :
    Calls Try.prog 9 #[.slice a n cap, .string s] w (TB w (.int .i64 (cntF L F s n))) := by
  go_enter Try.func9, Try.ntmps9
  go_wp2
  go_loopw [5, 10] (fun z i wr => ∃ (j : Nat), j ≤ n ∧ i = .int .i64 j ∧ z = .int .i64 (cntF L F s j) ∧ Below w.heap.size w wr) (fun _ i _ => n - (intOf i).toNat)
  case atStart => exact ⟨0, Nat.zero_le _, rfl, rfl, Below.refl _ _⟩
  case round =>
    obtain ⟨j, hj, rfl, rfl, hB⟩ := hrel
    by_cases hlt : j < n
    · have ha := h.addr (by omega)
      subst ha
      have h2 := h.below hB
      have hc := h2.c j hlt
      have hd := h2.d j hlt
      have hlt' : (j : Int) < (n : Int) := by omega
      go_wp2_with fail
      refine (out_shows (A j) (EB j) (EO j) (L j) (C j) (F j) s _ _ ((h2.r j hlt).below (below_alloc _ _)) (hL j hlt)).mono ?_
      rintro e w1 ⟨rfl, hB1⟩
      have hB2 := below_tr (below_tr hB (below_alloc _ _)) hB1
      have hle := cntF_le L F s j
      have hi0 : (0 : Int) ≤ (cntF L F s j : Int) := by omega
      have hi1 : (cntF L F s j : Int) ≤ 1000000 := by omega
      cases he : hasF (F j) s (L j) with
      | true =>
        have He := Lib.hid he
        clear he
        go_wp2
        go_roundw
        case rel => exact ⟨j + 1, hlt, by go_num, by simp only [cntF, He.out]; rfl, hB2⟩
        case measure => simp [intOf]; omega
      | false =>
        have He := Lib.hid he
        clear he
        go_wp2
        go_roundw
        case rel => exact ⟨j + 1, hlt, by go_num, by simp only [cntF, He.out]; rfl, hB2⟩
        case measure => simp [intOf]; omega
    · have hlt' : ¬ (j : Int) < (n : Int) := by omega
      (obtain rfl : j = n := by omega)
      go_wp2
      go_ret
      exact ⟨rfl, hB⟩
end Go.Proofs.Qxb6616141a
