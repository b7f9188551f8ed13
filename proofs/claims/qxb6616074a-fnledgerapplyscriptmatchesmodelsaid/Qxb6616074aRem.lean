/-
  OWN TEXT. remembered, rememberedCount.
-/
import Derived.Test.Qxb6616074aRlog
namespace Go.Proofs.Qxb6616074a
open Go.RowKit Go.MapKept Go.ChangeMaps

/-- the place of t's latest resolution, where it is within the window -/
def remI (R : Resn) (N : Nat) (t : ByteArray) : Option Nat :=
  match lastOf R t N with
  | some m => if N - m < 10000 then some (m - 1) else none
  | none => none
theorem remF_remI (R : Resn) (N : Nat) (t : ByteArray) : remF R N t = (remI R N t).map fun (i : Nat) => ((i : Int) + 1, (R i).1, (R i).2.2) := by
  unfold remF remI
  cases h : lastOf R t N with
  | none => rfl
  | some m =>
    obtain ⟨h1, _, _, _⟩ := lastOf_some h
    simp only
    split
    · simp only [Option.map_some]
      congr 1
      rw [show ((m - 1 : Nat) : Int) + 1 = (m : Int) by omega]
    · rfl
theorem remI_lt {R : Resn} {N : Nat} {t : ByteArray} {i : Nat} (h : remI R N t = some i) : i < N := by
  unfold remI at h
  cases hl : lastOf R t N with
  | none => rw [hl] at h; cases h
  | some m =>
    obtain ⟨h1, h2, _, _⟩ := lastOf_some hl
    rw [hl] at h
    simp only at h
    split at h
    · injection h with h; omega
    · cases h

set_option maxRecDepth 100000 in
set_option maxHeartbeats 1000000 in
theorem remembered_calls {w : World} {b : Nat} {G : List Nat} {R : Resn} {N : Nat} (h : RS w b G R N) (hN : N < 2000000) (t : ByteArray) :
    Calls Try.prog 23 #[.pointer (some ⟨b, 0, none⟩), .string t] w fun e w' => e = .returned (.tuple #[.int .i64 ((remI R N t).getD 0 : Nat), .bool (remI R N t).isSome]) ∧ w' = w := by
  obtain ⟨V, r, nl, h, rfl⟩ := h
  have hlb := h.lt
  have c3 := h.c3
  obtain ⟨ta, tc, hv0⟩ := h.blkV (j := 0) (by omega)
  have c0 := h.c 0 (by omega)
  rw [hv0] at c0
  have hlk := h.m.look (P := Try.prog) (t := 42) (kt := 9) (et := 3) Try.underlying42 Try.underlying9 (zero3 w) t
  cases hl : lastOf R t N with
  | none =>
    rw [hl] at hlk
    simp only [Option.map_none, Option.getD_none, Option.isSome_none] at hlk
    have hr : remI R N t = none := by unfold remI; rw [hl]
    rw [hr]
    clear hl hr
    go_enter Try.func23, Try.ntmps23
    go_wp2
    go_ret2
    exact ⟨rfl, rfl⟩
  | some m =>
    obtain ⟨h1, h2, _, _⟩ := lastOf_some hl
    rw [hl] at hlk
    simp only [Option.map_some, Option.getD_some, Option.isSome_some, natV] at hlk
    by_cases hw : N - m < 10000
    · have hr : remI R N t = some (m - 1) := by unfold remI; rw [hl]; simp only; rw [if_pos hw]
      rw [hr]
      have hw' : ¬ (10000 : Int) ≤ (N : Int) - (m : Int) := by omega
      have hm0 : (1 : Int) ≤ (m : Int) := by omega
      have hm1 : (m : Int) ≤ (N : Int) := by omega
      have hN' : (N : Int) < 2000000 := by omega
      have hcast : (((m - 1 : Nat) : Int)) = (m : Int) - 1 := by omega
      simp only [Option.getD_some, Option.isSome_some, hcast]
      clear hl hr hcast
      go_enter Try.func23, Try.ntmps23
      go_wp2
      go_ret2
      exact ⟨rfl, rfl⟩
    · have hr : remI R N t = none := by unfold remI; rw [hl]; simp only; rw [if_neg hw]
      rw [hr]
      have hw' : (10000 : Int) ≤ (N : Int) - (m : Int) := by omega
      have hm0 : (1 : Int) ≤ (m : Int) := by omega
      have hm1 : (m : Int) ≤ (N : Int) := by omega
      have hN' : (N : Int) < 2000000 := by omega
      simp only [Option.getD_none, Option.isSome_none]
      clear hl hr
      go_enter Try.func23, Try.ntmps23
      go_wp2
      go_ret2
      exact ⟨rfl, rfl⟩

def hasD (l : List ByteArray) (t : ByteArray) : Bool := l.any fun x => decide (x = t)
theorem hasD_iff {l : List ByteArray} {t : ByteArray} : hasD l t = true ↔ t ∈ l := by
  simp [hasD]
/-- the distinct transactions among the script's first i entries -/
def dis (es : Nat → EntD) : Nat → List ByteArray
  | 0 => []
  | i + 1 => if hasD (dis es i) (es i).2.1 then dis es i else (es i).2.1 :: dis es i
theorem dis_old {es : Nat → EntD} {i : Nat} (h : (es i).2.1 ∈ dis es i) : dis es (i + 1) = dis es i := by
  show (if hasD (dis es i) (es i).2.1 then dis es i else (es i).2.1 :: dis es i) = _
  rw [if_pos (hasD_iff.2 h)]
theorem dis_new {es : Nat → EntD} {i : Nat} (h : ¬ (es i).2.1 ∈ dis es i) : dis es (i + 1) = (es i).2.1 :: dis es i := by
  show (if hasD (dis es i) (es i).2.1 then dis es i else (es i).2.1 :: dis es i) = _
  rw [if_neg (fun e => h (hasD_iff.1 e))]
theorem dis_nodup (es : Nat → EntD) : ∀ i, (dis es i).Nodup
  | 0 => by simp [dis]
  | i + 1 => by
    by_cases h : (es i).2.1 ∈ dis es i
    · rw [dis_old h]; exact dis_nodup es i
    · rw [dis_new h]; exact List.nodup_cons.2 ⟨h, dis_nodup es i⟩
theorem mem_dis (es : Nat → EntD) (t : ByteArray) : ∀ i, t ∈ dis es i ↔ ∃ j, j < i ∧ (es j).2.1 = t
  | 0 => by simp [dis]
  | i + 1 => by
    have ih := mem_dis es t i
    by_cases h : (es i).2.1 ∈ dis es i
    · rw [dis_old h, ih]
      constructor
      · rintro ⟨j, hj, e⟩; exact ⟨j, by omega, e⟩
      · rintro ⟨j, hj, e⟩
        by_cases hji : j = i
        · subst hji; subst e; exact (mem_dis es _ j).1 h
        · exact ⟨j, by omega, e⟩
    · rw [dis_new h, List.mem_cons, ih]
      constructor
      · rintro (e | ⟨j, hj, e⟩)
        · exact ⟨i, by omega, e.symm⟩
        · exact ⟨j, by omega, e⟩
      · rintro ⟨j, hj, e⟩
        by_cases hji : j = i
        · subst hji; exact .inl e.symm
        · exact .inr ⟨j, by omega, e⟩
def seenF (es : Nat → EntD) (i : Nat) : ByteArray → Option Bool := fun t => if hasD (dis es i) t then some true else none
def boolV (b : Bool) : Value := .bool b
def cntR (es : Nat → EntD) (R : Resn) (N i : Nat) : Nat := ((dis es i).filter fun t => (remI R N t).isSome).length
theorem cntR_card {es : Nat → EntD} {R : Resn} {N n : Nat} (hsrc : ∀ t, (remI R N t).isSome = true → ∃ i, i < n ∧ (es i).2.1 = t) : Card (remI R N) (cntR es R N n) := by
  refine ⟨(dis es n).filter fun t => (remI R N t).isSome, (dis_nodup es n).filter _, rfl, fun t => ?_⟩
  rw [List.mem_filter, mem_dis]
  exact ⟨fun h => h.2, fun h => ⟨hsrc t h, h⟩⟩
theorem dis_le (es : Nat → EntD) : ∀ i, (dis es i).length ≤ i
  | 0 => Nat.le_refl _
  | i + 1 => by
    have := dis_le es i
    by_cases h : (es i).2.1 ∈ dis es i
    · rw [dis_old h]; omega
    · rw [dis_new h]; simp; omega
theorem cntR_le (es : Nat → EntD) (R : Resn) (N i : Nat) : cntR es R N i ≤ i := Nat.le_trans (List.length_filter_le _ _) (dis_le es i)

theorem ScrAt.chg {w w' : World} {a : Option Addr} {sb so n : Nat} {es : Nat → EntD} (h : ScrAt w a sb so n es) (hc : Chg (fun _ => False) w w') : ScrAt w' a sb so n es :=
  ⟨h.addr, fun i hi => hc.cell (h.k i hi) (fun x => x), fun i hi => hc.cell (h.t i hi) (fun x => x), fun i hi => hc.cell (h.s i hi) (fun x => x)⟩

def CntP (w : World) (p : Nat → Prop) (e : Ending) (w' : World) : Prop := (∃ n : Nat, e = .returned (.int .i64 n) ∧ p n) ∧ Chg (fun _ => False) w w'
theorem zero4 (w : World) : (zeroValue 4).run Try.prog w = .ok (.bool false) w := by kernel_rfl

set_option maxRecDepth 100000 in
set_option maxHeartbeats 2000000 in
theorem count_calls {w : World} {b : Nat} {G : List Nat} {R : Resn} {N : Nat} (h : RS w b G R N) (hN : N < 2000000) (a : Option Addr) (sb so n cap : Nat) (es : Nat → EntD) (hs : ScrAt w a sb so n es) (hn : n ≤ 1048576) :
    Calls Try.prog 16 #[.pointer (some ⟨b, 0, none⟩), .slice a n cap] w (CntP w fun c => c = cntR es R N n) := by
  have hmm := @run_makeMap Try.prog
  go_enter Try.func16, Try.ntmps16
  go_wp2
  clear hmm
  have hM0 : MapAt (w.alloc (.map #[] 0)) w.heap.size boolV (seenF es 0) 0 := ⟨#[], 0, (MapKept.heap_alloc _ _).1, ⟨MapKept.stamped_empty 0, by simp, by simp [seenF, dis, hasD]⟩, rfl⟩
  go_loopw [6, 7] (fun z iv wr => ∃ (i m : Nat), i ≤ n ∧ iv = .int .i64 i ∧ z = .int .i64 (cntR es R N i) ∧ MapAt wr w.heap.size boolV (seenF es i) m ∧ Chg (fun _ => False) w wr) (fun _ iv _ => n - (intOf iv).toNat)
  case atStart => exact ⟨0, 0, Nat.zero_le _, rfl, rfl, hM0, chg_alloc _ _ _⟩
  case round =>
    obtain ⟨i, m, hi, rfl, rfl, hM, hC⟩ := hrel
    by_cases hlt : i < n
    · have ha := hs.addr (by omega)
      subst ha
      have ct := (hs.chg hC).t i hlt
      have hlt' : (i : Int) < (n : Int) := by omega
      have hlk := hM.look1 (P := Try.prog) (t := 69) (kt := 9) (et := 4) Try.underlying69 Try.underlying9 (zero4 wr) (es i).2.1
      have hle := cntR_le es R N i
      have hc0 : (0 : Int) ≤ (cntR es R N i : Int) := by omega
      have hc1 : (cntR es R N i : Int) ≤ 1048576 := by omega
      by_cases hd : (es i).2.1 ∈ dis es i
      · have hg : seenF es i (es i).2.1 = some true := by simp [seenF, hasD_iff.2 hd]
        rw [hg] at hlk
        simp only [Option.map_some, Option.getD_some, boolV] at hlk
        have hds : dis es (i + 1) = dis es i := dis_old hd
        have e1 : Hid (cntR es R N (i + 1) = cntR es R N i ∧ seenF es (i + 1) = seenF es i) := ⟨by unfold cntR; rw [hds], by unfold seenF; rw [hds]⟩
        clear hg hds
        go_wp2
        go_roundw
        case rel => exact ⟨i + 1, m, by omega, by go_num, by rw [e1.out.1], by rw [e1.out.2]; exact hM, hC⟩
        case measure => simp [intOf]; omega
      · have hg : seenF es i (es i).2.1 = none := by unfold seenF; rw [if_neg (fun e => hd (hasD_iff.1 e))]
        rw [hg] at hlk
        simp only [Option.map_none, Option.getD_none] at hlk
        have hds : dis es (i + 1) = (es i).2.1 :: dis es i := dis_new hd
        have e1 : Hid (cntR es R N (i + 1) = cntR es R N i + (if (remI R N (es i).2.1).isSome then 1 else 0) ∧ seenF es (i + 1) = upd (seenF es i) (es i).2.1 (some true)) := by
          refine ⟨?_, ?_⟩
          · unfold cntR
            rw [hds, List.filter_cons]
            split <;> simp
          · funext t
            simp only [seenF, hds, upd]
            by_cases ht : t = (es i).2.1
            · rw [if_pos ht, if_pos (hasD_iff.2 (by simp [ht]))]
            · rw [if_neg ht]
              have : hasD ((es i).2.1 :: dis es i) t = hasD (dis es i) t := by
                rw [Bool.eq_iff_iff, hasD_iff, hasD_iff, List.mem_cons]
                simp [ht]
              rw [this]
        obtain ⟨es1, clock1, hbk1, R1, hsz1⟩ := hM
        obtain ⟨es2, clock2, hup, R2, hs2⟩ := R1.store (w := wr) (b := w.heap.size) (P := Try.prog) (t := 69) (kt := 9) (et := 4) hbk1 Try.underlying69 Try.underlying9 (es i).2.1 true
        have hc2 : Chg (fun _ => False) w (setBlock wr w.heap.size (.map es2 clock2)) := hC.setBlock (fun hx => by omega) _
        have hbk2 : (setBlock wr w.heap.size (.map es2 clock2)).heap[w.heap.size]? = some (.map es2 clock2) := heap_setBlock (w := wr) (Array.getElem?_eq_some_iff.1 hbk1).1 _
        generalize setBlock wr w.heap.size (.map es2 clock2) = w2 at hup hc2 hbk2
        have hM2 : MapAt w2 w.heap.size boolV (seenF es (i + 1)) es2.size := ⟨es2, clock2, hbk2, by rw [e1.out.2]; exact R2, rfl⟩
        simp only [boolV] at hup
        clear hg hds hbk1 R1 hsz1 R2 hs2 hbk2
        go_wp2_with fail
        refine (remembered_calls (h.frame hc2 (fun x => x) (fun _ _ x => x)) hN (es i).2.1).mono ?_
        rintro e w3 ⟨rfl, hw3⟩
        subst hw3
        have E1 := e1.out.1
        generalize (remI R N (es i).2.1).getD 0 = q
        cases hb : (remI R N (es i).2.1).isSome with
        | true =>
          rw [hb] at E1
          have E2 := Lib.hid E1
          clear E1 e1 hb
          go_wp2
          go_roundw
          case rel => exact ⟨i + 1, _, by omega, by go_num, by rw [E2.out]; simp, hM2, hc2⟩
          case measure => simp [intOf]; omega
        | false =>
          rw [hb] at E1
          have E2 := Lib.hid E1
          clear E1 e1 hb
          go_wp2
          go_roundw
          case rel => exact ⟨i + 1, _, by omega, by go_num, by rw [E2.out]; simp, hM2, hc2⟩
          case measure => simp [intOf]; omega
    · have hlt' : ¬ (i : Int) < (n : Int) := by omega
      (obtain rfl : i = n := by omega)
      go_wp2
      go_ret
      exact ⟨⟨_, rfl, rfl⟩, hC⟩
end Go.Proofs.Qxb6616074a
