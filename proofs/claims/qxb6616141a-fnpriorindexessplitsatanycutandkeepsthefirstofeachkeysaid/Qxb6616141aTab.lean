/-
  OWN TEXT. zzTables, zzDst.
-/
import Derived.Test.Qxb6616141aMkr
import Derived.Lib.SliceRun
namespace Go.Proofs.Qxb6616141a
open Go.RowKit
/-- n keys at a slice's address -/
structure KeyAt (w : World) (a : Option Addr) (sb so n : Nat) (f : Nat → Int) : Prop where
  addr : 0 < n → a = some ⟨sb, so, none⟩
  c : ∀ j, j < n → w.cell? ⟨sb, so + j, none⟩ = some (.int .i64 (f j))
theorem KeyAt.below {w w' : World} {a : Option Addr} {sb so n : Nat} {f : Nat → Int} (h : KeyAt w a sb so n f) (hb : Below w.heap.size w w') : KeyAt w' a sb so n f := ⟨h.addr, fun j hj => below_cell hb (h.c j hj)⟩
def tabC (R : Nat → Nat) (i : Nat) : List Value := [.pointer (some ⟨R i, 0, none⟩), .int .u64 0, .pointer none, .slice none 0 0, .pointer none]
def rootC (R : Nat → Nat) (i : Nat) : List Value := [.pointer (some ⟨R i, 0, none⟩)]
def pixC (R : Nat → Nat) (i : Nat) : List Value := [.pointer (some ⟨R i, 0, none⟩), .int .u64 0, .pointer none, .slice none 0 0]
theorem tabC_length (R : Nat → Nat) (i : Nat) : (tabC R i).length = 5 := rfl
theorem rootC_length (R : Nat → Nat) (i : Nat) : (rootC R i).length = 1 := rfl
theorem pixC_length (R : Nat → Nat) (i : Nat) : (pixC R i).length = 4 := rfl
theorem info79 : (Try.prog.info? 79).map (fun i => (i.zero, i.size, i.bytes)) = some (some (.agg #[.pointer none, .int .u64 0, .pointer none, .slice none 0 0, .pointer none]), 5, 56) := by kernel_rfl
theorem info58 : (Try.prog.info? 58).map (fun i => (i.zero, i.size, i.bytes)) = some (some (.agg #[.pointer none, .int .u64 0, .pointer none, .slice none 0 0]), 4, 48) := by kernel_rfl
theorem info49 : (Try.prog.info? 49).map (fun i => (i.zero, i.size, i.bytes)) = some (some (.pointer none), 1, 8) := by kernel_rfl
def upN (R : Nat → Nat) (k p : Nat) : Nat → Nat := fun i => if i = k then p else R i
theorem Mk.congr {w0 wr : World} {g sz n k : Nat} {c d : Nat → List Value} (h : Mk w0 wr g sz n k c) (hcd : ∀ i, i < k → c i = d i) : Mk w0 wr g sz n k d := ⟨h.bel, h.ge, h.lt, fun i hi => by rw [← hcd i hi]; exact h.r i hi, h.t⟩
/-- two rows under way -/
def Two (w wr : World) (g1 sz1 g2 n k : Nat) (c1 : (Nat → Nat) → Nat → List Value) : Prop := ∃ R, Mk w wr g1 sz1 n k (c1 R) ∧ Mk w wr g2 1 n k (rootC R)
def TwoP (w : World) (sz1 n : Nat) (c1 : (Nat → Nat) → Nat → List Value) (e : Ending) (w' : World) : Prop :=
  ∃ g1 g2, g1 ≠ g2 ∧ e = .returned (.tuple #[.slice (some ⟨g1, 0, none⟩) n n, .slice (some ⟨g2, 0, none⟩) n n]) ∧ Two w w' g1 sz1 g2 n n c1
theorem two_start (w : World) (n : Nat) : Two w ((w.alloc (.cells (madeCells #[.pointer none, .int .u64 0, .pointer none, .slice none 0 0, .pointer none] (n * 5)) 79)).alloc (.cells (madeCells #[.pointer none] n) 49)) w.heap.size 5 (w.heap.size + 1) n 0 tabC := by
  refine ⟨fun _ => 0, (mk_start w _ 5 n 79 _).below (below_alloc _ _), ?_⟩
  have := mk_start (w.alloc (.cells (madeCells #[.pointer none, .int .u64 0, .pointer none, .slice none 0 0, .pointer none] (n * 5)) 79)) #[.pointer none] 1 n 49 (rootC fun _ => 0)
  rw [Nat.mul_one, show (w.alloc (.cells (madeCells #[.pointer none, .int .u64 0, .pointer none, .slice none 0 0, .pointer none] (n * 5)) 79)).heap.size = w.heap.size + 1 by simp] at this
  exact ⟨below_tr (below_alloc _ _) this.bel, by omega, this.lt, this.r, this.t⟩
theorem Mk.other {w0 wr : World} {g sz n k : Nat} {c : Nat → List Value} (h : Mk w0 wr g sz n k c) {g2 : Nat} (hne : g ≠ g2) (hge : w0.heap.size ≤ g2) (o : Nat) (vs : List Value) : Mk w0 (wr.setCells g2 o vs) g sz n k c :=
  ⟨below_setCells h.bel hge _ _, h.ge, by rw [size_setCells]; exact h.lt, fun i hi => World.rangeAt_setCells_apart (h.r i hi) g2 o vs (.inl hne), fun i hi => World.there_setCells (h.t i hi) _ _ _⟩
theorem upN_same (R : Nat → Nat) (k p : Nat) : upN R k p k = p := by simp [upN]
theorem upN_other (R : Nat → Nat) {k i : Nat} (p : Nat) (h : i < k) : upN R k p i = R i := by simp [upN]; omega
theorem Two.root {w wr : World} {g1 sz1 g2 n k p : Nat} {c1 : Nat → List Value} {R : Nat → Nat} (hT : Mk w wr g1 sz1 n k c1) (hR : Mk w wr g2 1 n k (rootC R)) (hne : g1 ≠ g2) (hk : k < n) :
    Mk w (wr.setCell ⟨g2, k, none⟩ (.pointer (some ⟨p, 0, none⟩))) g1 sz1 n k c1 ∧ Mk w (wr.setCell ⟨g2, k, none⟩ (.pointer (some ⟨p, 0, none⟩))) g2 1 n (k + 1) (rootC (upN R k p)) := by
  refine ⟨hT.other hne hR.ge k [.pointer (some ⟨p, 0, none⟩)], ?_⟩
  have := (hR.congr (d := rootC (upN R k p)) (fun i hi => by unfold rootC; rw [upN_other R p hi])).step hk (rootC_length _)
  rw [Nat.mul_one] at this
  unfold rootC at this
  rw [upN_same] at this
  exact this
theorem Two.next {w wr : World} {g1 sz1 g2 n k p : Nat} {c1 : (Nat → Nat) → Nat → List Value} {R : Nat → Nat} (hT : Mk w wr g1 sz1 n k (c1 R)) (hR : Mk w wr g2 1 n (k + 1) (rootC (upN R k p))) (hne : g2 ≠ g1) (hk : k < n) (hl : ∀ R i, (c1 R i).length = sz1) (hc : ∀ R R' i, R i = R' i → c1 R i = c1 R' i) :
    Two w (wr.setCells g1 (k * sz1) (c1 (upN R k p) k)) g1 sz1 g2 n (k + 1) c1 :=
  ⟨upN R k p, (hT.congr (d := c1 (upN R k p)) (fun _ hi => hc _ _ _ (upN_other R p hi).symm)).step hk (hl _), hR.other hne hT.ge _ _⟩
theorem tabC_congr (R R' : Nat → Nat) (i : Nat) (h : R i = R' i) : tabC R i = tabC R' i := by unfold tabC; rw [h]
theorem pixC_congr (R R' : Nat → Nat) (i : Nat) (h : R i = R' i) : pixC R i = pixC R' i := by unfold pixC; rw [h]
set_option maxRecDepth 100000 in
set_option maxHeartbeats 2000000 in
theorem tables_calls (a : Option Addr) (sb so n cap : Nat) (f : Nat → Int) (w : World) (h : KeyAt w a sb so n f) (hn : n ≤ 4096) :
    Calls Try.prog 15 #[.slice a n cap] w (TwoP w 5 n tabC) := by
  obtain ⟨i0, hi, hz0, hz1, hz2⟩ := info_parts info79
  obtain ⟨i1, hi1, hz10, hz11, hz12⟩ := info_parts info49
  have hmk : ∀ W : World, (Instr.makeSlice 39 (.int .i64 n) (.int .i64 n)).run Try.prog W = .ok (.slice (some ⟨W.heap.size, 0, none⟩) n n) (W.alloc (.cells (madeCells #[.pointer none, .int .u64 0, .pointer none, .slice none 0 0, .pointer none] (n * 5)) 79)) := fun W => by
    have := run_make (P := Try.prog) W 39 79 i0 _ Try.underlying39 hi hz0 .i64 .i64 n n (by omega) (Int.le_refl _) (by rw [hz2]; omega) (by omega)
    simp only [Int.toNat_natCast, hz1] at this
    exact this
  have hmk2 : ∀ W : World, (Instr.makeSlice 40 (.int .i64 n) (.int .i64 n)).run Try.prog W = .ok (.slice (some ⟨W.heap.size, 0, none⟩) n n) (W.alloc (.cells (madeCells #[.pointer none] n) 49)) := fun W => by
    have := run_make (P := Try.prog) W 40 49 i1 _ Try.underlying40 hi1 hz10 .i64 .i64 n n (by omega) (Int.le_refl _) (by rw [hz12]; omega) (by omega)
    simp only [Int.toNat_natCast, hz11, Nat.mul_one] at this
    exact this
  clear hi hz0 hz1 hz2 hi1 hz10 hz11 hz12
  go_enter Try.func15, Try.ntmps15
  go_wp2
  clear hmk hmk2
  go_loopw [6, 7] (fun i _ wr => ∃ (k : Nat), k ≤ n ∧ i = .int .i64 k ∧ Two w wr w.heap.size 5 (w.heap.size + 1) n k tabC) (fun i _ _ => n - (intOf i).toNat)
  case atStart => exact ⟨0, Nat.zero_le _, rfl, two_start w n⟩
  case round =>
    obtain ⟨k, hk, rfl, R, hT, hR⟩ := hrel
    by_cases hlt : k < n
    · have ha := h.addr (by omega)
      subst ha
      have hc := below_cell hT.bel (h.c k hlt)
      have hlt' : (k : Int) < (n : Int) := by omega
      go_wp2_with fail
      refine (node_calls (f k) _).mono ?_
      rintro e w1 ⟨p, rfl, hB⟩
      have hT1 := hT.below hB
      have hR1 := hR.below hB
      obtain ⟨u0, hu0, hf0⟩ := hR1.cells hlt 0 (by omega)
      simp only [Nat.mul_one, Nat.add_zero] at hu0 hf0
      have hS := Two.root (p := p) hT1 hR1 (by omega) hlt
      go_wp2_with fail
      refine (newTable_calls (some ⟨p, 0, none⟩) _).mono ?_
      rintro e w2 ⟨rfl, hB2⟩
      obtain ⟨hT2, hR2⟩ := hS
      have hT3 := hT2.below hB2
      have hR3 := hR2.below hB2
      clear hu0 hf0 hT2 hR2 hT1 hR1
      obtain ⟨v0, hv0, hz0⟩ := hT3.cells hlt 0 (by omega)
      obtain ⟨v1, hv1, hz1⟩ := hT3.cells hlt 1 (by omega)
      obtain ⟨v2, hv2, hz2⟩ := hT3.cells hlt 2 (by omega)
      obtain ⟨v3, hv3, hz3⟩ := hT3.cells hlt 3 (by omega)
      obtain ⟨v4, hv4, hz4⟩ := hT3.cells hlt 4 (by omega)
      simp only [Nat.add_zero] at hv0 hz0
      have hN := Two.next hT3 hR3 (by omega) hlt tabC_length tabC_congr
      rw [show tabC (upN R k p) k = [.pointer (some ⟨p, 0, none⟩), .int .u64 0, .pointer none, .slice none 0 0, .pointer none] by unfold tabC; rw [upN_same]] at hN
      simp only [World.setCells] at hN
      go_wp2
      go_roundw
      case rel => exact ⟨k + 1, hlt, by go_num, hN⟩
      case measure => first | (simp [intOf]; done) | (simp [intOf]; omega)
    · have hlt' : ¬ (k : Int) < (n : Int) := by omega
      (obtain rfl : k = n := by omega)
      go_wp2
      go_ret2
      exact ⟨w.heap.size, w.heap.size + 1, by omega, rfl, R, hT, hR⟩
def DstP (w : World) (nil : Bool) (n : Nat) (e : Ending) (w' : World) : Prop :=
  (nil = true ∧ n = 0 ∧ e = .returned (.tuple #[.slice none 0 0, .slice none 0 0]) ∧ w' = w) ∨ (nil = false ∧ TwoP w 4 n pixC e w')
theorem two_start4 (w : World) (n : Nat) : Two w ((w.alloc (.cells (madeCells #[.pointer none, .int .u64 0, .pointer none, .slice none 0 0] (n * 4)) 58)).alloc (.cells (madeCells #[.pointer none] n) 49)) w.heap.size 4 (w.heap.size + 1) n 0 pixC := by
  refine ⟨fun _ => 0, (mk_start w _ 4 n 58 _).below (below_alloc _ _), ?_⟩
  have := mk_start (w.alloc (.cells (madeCells #[.pointer none, .int .u64 0, .pointer none, .slice none 0 0] (n * 4)) 58)) #[.pointer none] 1 n 49 (rootC fun _ => 0)
  rw [Nat.mul_one, show (w.alloc (.cells (madeCells #[.pointer none, .int .u64 0, .pointer none, .slice none 0 0] (n * 4)) 58)).heap.size = w.heap.size + 1 by simp] at this
  exact ⟨below_tr (below_alloc _ _) this.bel, by omega, this.lt, this.r, this.t⟩
set_option maxRecDepth 100000 in
set_option maxHeartbeats 2000000 in
theorem dst_calls (a : Option Addr) (sb so n cap : Nat) (f : Nat → Int) (w : World) (h : KeyAt w a sb so n f) (hn : n ≤ 4096) (hnil : a = none → cap = 0) :
    Calls Try.prog 16 #[.slice a n cap] w (DstP w (a.isNone) n) := by
  obtain ⟨i0, hi, hz0, hz1, hz2⟩ := info_parts info58
  obtain ⟨i1, hi1, hz10, hz11, hz12⟩ := info_parts info49
  have hmk : ∀ W : World, (Instr.makeSlice 43 (.int .i64 n) (.int .i64 n)).run Try.prog W = .ok (.slice (some ⟨W.heap.size, 0, none⟩) n n) (W.alloc (.cells (madeCells #[.pointer none, .int .u64 0, .pointer none, .slice none 0 0] (n * 4)) 58)) := fun W => by
    have := run_make (P := Try.prog) W 43 58 i0 _ Try.underlying43 hi hz0 .i64 .i64 n n (by omega) (Int.le_refl _) (by rw [hz2]; omega) (by omega)
    simp only [Int.toNat_natCast, hz1] at this
    exact this
  have hmk2 : ∀ W : World, (Instr.makeSlice 40 (.int .i64 n) (.int .i64 n)).run Try.prog W = .ok (.slice (some ⟨W.heap.size, 0, none⟩) n n) (W.alloc (.cells (madeCells #[.pointer none] n) 49)) := fun W => by
    have := run_make (P := Try.prog) W 40 49 i1 _ Try.underlying40 hi1 hz10 .i64 .i64 n n (by omega) (Int.le_refl _) (by rw [hz12]; omega) (by omega)
    simp only [Int.toNat_natCast, hz11, Nat.mul_one] at this
    exact this
  clear hi hz0 hz1 hz2 hi1 hz10 hz11 hz12
  cases a with
  | none =>
    obtain rfl := hnil rfl
    obtain rfl : n = 0 := by
      by_cases h0 : 0 < n
      · have := h.addr h0
        cases this
      · omega
    have hnl : ∀ W, (binOp .eql 35 (.slice none 0 0) (.slice none 0 0)).run Try.prog W = .ok (.bool true) W := fun W => Lib.run_eql_slice_nil W _ _ _ _ _ _ _ Try.underlying35
    go_enter Try.func16, Try.ntmps16
    go_wp2
    go_ret2
    exact .inl ⟨rfl, rfl, rfl, rfl⟩
  | some ad =>
  have hnl : ∀ W, (binOp .eql 35 (.slice (some ad) n cap) (.slice none 0 0)).run Try.prog W = .ok (.bool false) W := fun W => Lib.run_eql_slice_nil W _ _ _ _ _ _ _ Try.underlying35
  go_enter Try.func16, Try.ntmps16
  go_wp2
  clear hmk hmk2 hnl
  go_loopw [6, 7] (fun i _ wr => ∃ (k : Nat), k ≤ n ∧ i = .int .i64 k ∧ Two w wr w.heap.size 4 (w.heap.size + 1) n k pixC) (fun i _ _ => n - (intOf i).toNat)
  case atStart => exact ⟨0, Nat.zero_le _, rfl, two_start4 w n⟩
  case round =>
    obtain ⟨k, hk, rfl, R, hT, hR⟩ := hrel
    by_cases hlt : k < n
    · have ha := h.addr (by omega)
      injection ha with ha
      subst ha
      have hc := below_cell hT.bel (h.c k hlt)
      have hlt' : (k : Int) < (n : Int) := by omega
      go_wp2_with fail
      refine (node_calls (f k) _).mono ?_
      rintro e w1 ⟨p, rfl, hB⟩
      have hT1 := hT.below hB
      have hR1 := hR.below hB
      obtain ⟨u0, hu0, hf0⟩ := hR1.cells hlt 0 (by omega)
      simp only [Nat.mul_one, Nat.add_zero] at hu0 hf0
      have hS := Two.root (p := p) hT1 hR1 (by omega) hlt
      go_wp2_with fail
      refine (newIdx_calls (some ⟨p, 0, none⟩) _).mono ?_
      rintro e w2a ⟨rfl, hB2a⟩
      go_wp2_with fail
      refine (newPix_calls (some ⟨p, 0, none⟩) _).mono ?_
      rintro e w2 ⟨rfl, hB2b⟩
      have hB2 := below_tr hB2a hB2b
      obtain ⟨hT2, hR2⟩ := hS
      have hT3 := hT2.below hB2
      have hR3 := hR2.below hB2
      clear hu0 hf0 hT2 hR2 hT1 hR1
      obtain ⟨v0, hv0, hz0⟩ := hT3.cells hlt 0 (by omega)
      obtain ⟨v1, hv1, hz1⟩ := hT3.cells hlt 1 (by omega)
      obtain ⟨v2, hv2, hz2⟩ := hT3.cells hlt 2 (by omega)
      obtain ⟨v3, hv3, hz3⟩ := hT3.cells hlt 3 (by omega)
      simp only [Nat.add_zero] at hv0 hz0
      have hN := Two.next hT3 hR3 (by omega) hlt pixC_length pixC_congr
      rw [show pixC (upN R k p) k = [.pointer (some ⟨p, 0, none⟩), .int .u64 0, .pointer none, .slice none 0 0] by unfold pixC; rw [upN_same]] at hN
      simp only [World.setCells] at hN
      go_wp2
      go_roundw
      case rel => exact ⟨k + 1, hlt, by go_num, hN⟩
      case measure => first | (simp [intOf]; done) | (simp [intOf]; omega)
    · have hlt' : ¬ (k : Int) < (n : Int) := by omega
      (obtain rfl : k = n := by omega)
      go_wp2
      go_ret2
      exact .inr ⟨rfl, w.heap.size, w.heap.size + 1, by omega, rfl, R, hT, hR⟩
end Go.Proofs.Qxb6616141a
