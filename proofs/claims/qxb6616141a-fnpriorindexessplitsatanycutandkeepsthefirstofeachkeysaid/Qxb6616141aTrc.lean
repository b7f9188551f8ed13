/-
  OWN TEXT. zzEngTraces: the views.
-/
import Derived.Test.Qxb6616141aTab
import Derived.Deep.RegionWith
import Derived.Laws.Cover3
namespace Go.Proofs.Qxb6616141a
open Go.RowKit
/-- n records at a slice's address -/
structure RecAt (w : World) (a : Option Addr) (sb so n : Nat) (xs : Nat → E) : Prop where
  addr : 0 < n → a = some ⟨sb, so, none⟩
  k : ∀ j, j < n → w.cell? ⟨sb, so + j * 3, none⟩ = some (.int .i64 (xs j).1)
  v : ∀ j, j < n → w.cell? ⟨sb, so + j * 3 + 1, none⟩ = some (.int .i64 (xs j).2.1)
  s : ∀ j, j < n → w.cell? ⟨sb, so + j * 3 + 2, none⟩ = some (.bool (xs j).2.2)
theorem RecAt.below {w w' : World} {a : Option Addr} {sb so n : Nat} {xs : Nat → E} (h : RecAt w a sb so n xs) (hb : Below w.heap.size w w') : RecAt w' a sb so n xs :=
  ⟨h.addr, fun j hj => below_cell hb (h.k j hj), fun j hj => below_cell hb (h.v j hj), fun j hj => below_cell hb (h.s j hj)⟩
/-- n traces, as they came in -/
structure TrsAt (w : World) (a : Option Addr) (tb to n : Nat) (CH EN : Nat → Bool) (A : Nat → Option Addr) (L C IB IQ : Nat → Nat) (X : Nat → Nat → E) : Prop where
  addr : 0 < n → a = some ⟨tb, to, none⟩
  c0 : ∀ i, i < n → w.cell? ⟨tb, to + i * 3, none⟩ = some (.bool (CH i))
  c1 : ∀ i, i < n → w.cell? ⟨tb, to + i * 3 + 1, none⟩ = some (.bool (EN i))
  c2 : ∀ i, i < n → w.cell? ⟨tb, to + i * 3 + 2, none⟩ = some (.slice (A i) (L i) (C i))
  r : ∀ i, i < n → RecAt w (A i) (IB i) (IQ i) (L i) (X i)
  nil : ∀ i, i < n → A i = none → C i = 0
theorem TrsAt.below {w w' : World} {a : Option Addr} {tb to n : Nat} {CH EN : Nat → Bool} {A : Nat → Option Addr} {L C IB IQ : Nat → Nat} {X : Nat → Nat → E} (h : TrsAt w a tb to n CH EN A L C IB IQ X) (hb : Below w.heap.size w w') : TrsAt w' a tb to n CH EN A L C IB IQ X :=
  ⟨h.addr, fun j hj => below_cell hb (h.c0 j hj), fun j hj => below_cell hb (h.c1 j hj), fun j hj => below_cell hb (h.c2 j hj), fun i hi => (h.r i hi).below hb, h.nil⟩
def bO (a : Option Addr) (e : Nat) : Option Addr := if a.isNone then none else some ⟨e, 0, none⟩
theorem bO_none (e : Nat) : bO none e = none := rfl
theorem bO_some (a : Addr) (e : Nat) : bO (some a) e = some ⟨e, 0, none⟩ := rfl
def trcC (CH EN : Nat → Bool) (B : Nat → Option Addr) (L C : Nat → Nat) (i : Nat) : List Value := [.bool (CH i), .bool (EN i), .slice (B i) (L i) (C i)]
theorem trcC_length (CH EN : Nat → Bool) (B : Nat → Option Addr) (L C : Nat → Nat) (i : Nat) : (trcC CH EN B L C i).length = 3 := rfl
/-- traces of the call's own under way -/
structure Trc (w0 wr : World) (g n k : Nat) (CH EN : Nat → Bool) (A : Nat → Option Addr) (L : Nat → Nat) (X : Nat → Nat → E) (EB : Nat → Nat) : Prop where
  m : Mk w0 wr g 3 n k (trcC CH EN (fun i => bO (A i) (EB i)) L L)
  lo : ∀ i, i < k → g < EB i
  hi : ∀ i, i < k → EB i < wr.heap.size
  mono : ∀ i j, i < j → j < k → EB i < EB j
  row : ∀ i, i < k → A i ≠ none → PR wr (EB i) (L i) (X i)
section
variable {w0 wr w' : World} {g n k : Nat} {CH EN : Nat → Bool} {A : Nat → Option Addr} {L : Nat → Nat} {X : Nat → Nat → E} {EB : Nat → Nat}
theorem Mk.drew {w0 wr : World} {g sz n k : Nat} {c : Nat → List Value} (h : Mk w0 wr g sz n k c) : Mk w0 wr.drew g sz n k c :=
  ⟨⟨h.bel.os, h.bel.tape, h.bel.output, h.bel.size, h.bel.block⟩, h.ge, h.lt, h.r, h.t⟩
theorem Trc.below (h : Trc w0 wr g n k CH EN A L X EB) (hb : Below wr.heap.size wr w') : Trc w0 w' g n k CH EN A L X EB :=
  ⟨h.m.below hb, h.lo, fun i hi => Nat.lt_of_lt_of_le (h.hi i hi) hb.size, h.mono, fun i hi ha => (h.row i hi ha).keep (F := fun _ => False) (Chg.of_below hb) (fun x => x) (h.hi i hi)⟩
theorem PR.other {w : World} {e l : Nat} {xs : Nat → E} (h : PR w e l xs) {g2 : Nat} (hne : e ≠ g2) (o : Nat) (vs : List Value) : PR (w.setCells g2 o vs) e l xs :=
  ⟨fun i hi => World.rangeAt_setCells_apart (h.r i hi) g2 o vs (.inl hne), fun i hi => World.there_setCells (h.t i hi) _ _ _⟩
theorem Trc.step {e : Nat} (h : Trc w0 wr g n k CH EN A L X EB) (hk : k < n) (hl : ∀ i, i < k → EB i < e) (he : g < e) (hes : e < wr.heap.size) (hr : A k ≠ none → PR wr e (L k) (X k)) :
    Trc w0 (wr.setCells g (k * 3) [.bool (CH k), .bool (EN k), .slice (bO (A k) e) (L k) (L k)]) g n (k + 1) CH EN A L X (upN EB k e) := by
  have hm := (h.m.congr (d := trcC CH EN (fun i => bO (A i) (upN EB k e i)) L L) (fun i hi => by unfold trcC; dsimp only; rw [upN_other EB e hi])).step hk (trcC_length _ _ _ _ _)
  have e1 : trcC CH EN (fun i => bO (A i) (upN EB k e i)) L L k = [.bool (CH k), .bool (EN k), .slice (bO (A k) e) (L k) (L k)] := by
    unfold trcC; dsimp only; rw [upN_same]
  rw [e1] at hm
  have up : ∀ i, i < k + 1 → (i = k ∧ upN EB k e i = e) ∨ (i < k ∧ upN EB k e i = EB i) := fun i hi => by
    by_cases q : i = k
    · subst q; exact .inl ⟨rfl, upN_same _ _ _⟩
    · exact .inr ⟨by omega, upN_other _ _ (by omega)⟩
  refine ⟨hm, fun i hi => ?_, fun i hi => ?_, fun i j hij hj => ?_, fun i hi ha => ?_⟩
  · rcases up i hi with ⟨_, q⟩ | ⟨q1, q⟩
    · rw [q]; exact he
    · rw [q]; exact h.lo i q1
  · rw [size_setCells]
    rcases up i hi with ⟨_, q⟩ | ⟨q1, q⟩
    · rw [q]; exact hes
    · rw [q]; exact h.hi i q1
  · rcases up j hj with ⟨q0, q⟩ | ⟨q1, q⟩
    · rw [q, upN_other EB e (by omega)]; exact hl i (by omega)
    · rw [q, upN_other EB e (by omega)]; exact h.mono i j hij q1
  · rcases up i hi with ⟨q0, q⟩ | ⟨q1, q⟩
    · subst q0
      rw [q]; exact (hr ha).other (by omega) _ _
    · rw [q]; exact (h.row i q1 ha).other (by have := h.lo i q1; omega) _ _
theorem Mk.storeE {w0 W : World} {g n k j : Nat} {c : Nat → List Value} (h : Mk w0 W g 15 n k c) (hj : j < n) (e : E) : (storeCells ⟨g, j * 15, none⟩ (encE e)).run Try.prog W = .ok () (W.setCells g (j * 15) (encE e)) := by
  have := run_storeCells_cells (P := Try.prog) g (j * 15) (encE e) 0 W (fun q hq => by simpa using (h.t j hj q (by rw [encE_length] at hq; exact hq)).1) (fun q hq => by simpa using (h.t j hj q (by rw [encE_length] at hq; exact hq)).2) (fun v hv => encE_one e v hv)
  simpa using this
theorem Mk.pr {w0 W : World} {g n : Nat} {xs : Nat → E} (h : Mk w0 W g 15 n n (fun j => encE (xs j))) : PR W g n xs := ⟨h.r, h.t⟩
end
theorem info68 : (Try.prog.info? 68).map (fun i => (i.zero, i.size, i.bytes)) = some (some (.agg #[.bool false, .bool false, .slice none 0 0]), 3, 32) := by kernel_rfl
theorem info96' : (Try.prog.info? 96).map (fun i => (i.zero, i.size, i.bytes)) = some (some (.agg #[.int .i64 0, .int .i64 0, .int .i64 0, .bool false, .int .i64 0, .int .i64 0, .bool false, .int .i64 0, .int .i64 0, .bool false, .int .i64 0, .int .i64 0, .bool false, .int .i64 0, .bool false]), 15, 120) := by kernel_rfl
def TrcP (w : World) (n : Nat) (CH EN : Nat → Bool) (A : Nat → Option Addr) (L : Nat → Nat) (X : Nat → Nat → E) (e : Ending) (w' : World) : Prop :=
  ∃ g EB, e = .returned (.slice (some ⟨g, 0, none⟩) n n) ∧ Trc w w' g n n CH EN A L X EB
theorem make68 (n : Nat) (hn : n ≤ 4096) : ∀ W : World, (Instr.makeSlice 46 (.int .i64 n) (.int .i64 n)).run Try.prog W = .ok (.slice (some ⟨W.heap.size, 0, none⟩) n n) (W.alloc (.cells (madeCells #[.bool false, .bool false, .slice none 0 0] (n * 3)) 68)) := fun W => by
  obtain ⟨i0, hi, hz0, hz1, hz2⟩ := info_parts info68
  have := run_make (P := Try.prog) W 46 68 i0 _ Try.underlying46 hi hz0 .i64 .i64 n n (by omega) (Int.le_refl _) (by rw [hz2]; omega) (by omega)
  simp only [Int.toNat_natCast, hz1] at this
  exact this
def zer : Array Value := #[.int .i64 0, .int .i64 0, .int .i64 0, .bool false, .int .i64 0, .int .i64 0, .bool false, .int .i64 0, .int .i64 0, .bool false, .int .i64 0, .int .i64 0, .bool false, .int .i64 0, .bool false]
theorem make96 (n : Nat) (hn : n ≤ 4096) : ∀ W : World, (Instr.makeSlice 56 (.int .i64 n) (.int .i64 n)).run Try.prog W = .ok (.slice (some ⟨W.heap.size, 0, none⟩) n n) (W.alloc (.cells (madeCells zer (n * 15)) 96)) := fun W => by
  obtain ⟨i0, hi, hz0, hz1, hz2⟩ := info_parts info96'
  have := run_make (P := Try.prog) W 56 96 i0 _ Try.underlying56 hi hz0 .i64 .i64 n n (by omega) (Int.le_refl _) (by rw [hz2]; omega) (by omega)
  simp only [Int.toNat_natCast, hz1] at this
  exact this
theorem neq60n : ∀ W, (binOp .neq 60 (.slice none 0 0) (.slice none 0 0)).run Try.prog W = .ok (.bool false) W := fun W => run_neq_slice_nil W _ _ _ _ _ Try.underlying60
theorem neq60s (ad : Addr) (n c : Nat) : ∀ W, (binOp .neq 60 (.slice (some ad) n c) (.slice none 0 0)).run Try.prog W = .ok (.bool true) W := fun W => run_neq_slice_nil W _ _ _ _ _ Try.underlying60
end Go.Proofs.Qxb6616141a
