/-
  OWN TEXT. Makers and readers of the engine's values; rows under way.
-/
import Derived.Test.Qxb6616141aOuts
import Derived.Test.Qxb6616141aPe
namespace Go.Proofs.Qxb6616141a
open Go.RowKit
set_option maxRecDepth 100000
def NodeP (w : World) (e : Ending) (w' : World) : Prop := ∃ g, e = .returned (.pointer (some ⟨g, 0, none⟩)) ∧ Below w.heap.size w w'
abbrev idxV (p : Option Addr) : Value := .agg #[.pointer p, .int .u64 0, .pointer none]
abbrev pixV (p : Option Addr) (s : Value) : Value := .agg #[.pointer p, .int .u64 0, .pointer none, s]
abbrev tabV (p : Option Addr) : Value := .agg #[.pointer p, .int .u64 0, .pointer none, .slice none 0 0, .pointer none]
abbrev trcV (a b : Bool) (s : Value) : Value := .agg #[.bool a, .bool b, s]
theorem node_calls (k : Int) (w : World) : Calls Try.prog 26 #[.int .i64 k, .int .i64 0, .pointer none, .pointer none] w (NodeP w) := by
  go_enter Try.func26, Try.ntmps26
  go_wp2
  go_ret
  exact ⟨w.heap.size + 1, rfl, below_tr (below_alloc _ _) (below_alloc _ _)⟩
theorem newTable_calls (p : Option Addr) (w : World) : Calls Try.prog 27 #[.pointer p] w (TB w (tabV p)) := by
  go_enter Try.func27, Try.ntmps27
  go_wp2
  refine bodyPost_ret (v := tabV p) (by simp [results, Try.results27, go_sem]) rfl ?_
  exact ⟨rfl, below_alloc _ _⟩
theorem newPix_calls (p : Option Addr) (w : World) : Calls Try.prog 28 #[idxV p] w (TB w (pixV p (.slice none 0 0))) := by
  go_enter Try.func28, Try.ntmps28
  go_wp2
  refine bodyPost_ret (v := pixV p (.slice none 0 0)) (by simp [results, Try.results28, go_sem]) rfl ?_
  exact ⟨rfl, below_tr (below_alloc _ _) (below_alloc _ _)⟩
theorem newIdx_calls (p : Option Addr) (w : World) : Calls Try.prog 29 #[.pointer p] w (TB w (idxV p)) := by
  go_enter Try.func29, Try.ntmps29
  go_wp2
  refine bodyPost_ret (v := idxV p) (by simp [results, Try.results29, go_sem]) rfl ?_
  exact ⟨rfl, below_alloc _ _⟩
theorem stood_calls (k v : Int) (w : World) : Calls Try.prog 30 #[.int .i64 k, .int .i64 v] w (TB w (aggE (k, v, true))) := by
  go_enter Try.func30, Try.ntmps30
  go_wp2
  refine bodyPost_ret (v := aggE (k, v, true)) (by simp [results, Try.results30, go_sem, encE]) rfl ?_
  exact ⟨rfl, below_tr (below_alloc _ _) (below_alloc _ _)⟩
theorem none_calls (k v : Int) (w : World) : Calls Try.prog 31 #[.int .i64 k] w (TB w (aggE (k, v, false))) := by
  go_enter Try.func31, Try.ntmps31
  go_wp2
  refine bodyPost_ret (v := aggE (k, v, false)) (by simp [results, Try.results31, go_sem, encE]) rfl ?_
  exact ⟨rfl, below_alloc _ _⟩
theorem newTrace_calls (a b : Bool) (x : Option Addr) (n c : Nat) (w : World) : Calls Try.prog 32 #[.bool a, .bool b, .slice x n c] w (TB w (trcV a b (.slice x n c))) := by
  go_enter Try.func32, Try.ntmps32
  go_wp2
  refine bodyPost_ret (v := trcV a b (.slice x n c)) (by simp [results, Try.results32, go_sem]) rfl ?_
  exact ⟨rfl, below_alloc _ _⟩
theorem root_calls (p : Option Addr) (a : Option Addr) (n c : Nat) (w : World) : Calls Try.prog 19 #[pixV p (.slice a n c)] w (TB w (.pointer p)) := by
  go_enter Try.func19, Try.ntmps19
  go_wp2
  go_ret
  exact ⟨rfl, below_alloc _ _⟩
theorem prior_calls (p : Option Addr) (a : Option Addr) (n c : Nat) (w : World) : Calls Try.prog 20 #[pixV p (.slice a n c)] w (TB w (.slice a n c)) := by
  go_enter Try.func20, Try.ntmps20
  go_wp2
  go_ret
  exact ⟨rfl, below_alloc _ _⟩
theorem tracePrior_calls (p q : Bool) (a : Option Addr) (n c : Nat) (w : World) : Calls Try.prog 23 #[trcV p q (.slice a n c)] w (TB w (.slice a n c)) := by
  go_enter Try.func23, Try.ntmps23
  go_wp2
  go_ret
  exact ⟨rfl, below_alloc _ _⟩
/-- an entry's value as it reads -/
def valE (e : E) : Int := if e.2.2 then e.2.1 else 0
theorem box_cell {w : World} (a : E) (j : Nat) (v : Value) (h : (encE a)[j]? = some v) : (w.alloc (.cells (encE a).toArray 96)).cell? ⟨w.heap.size, j, none⟩ = some v := by
  have := heap_alloc_new w (.cells (encE a).toArray 96)
  unfold World.cell?
  rw [this]
  simpa using h
theorem key_calls (e : E) (w : World) : Calls Try.prog 34 #[aggE e] w (TB w (.int .i64 e.1)) := by
  have h0 := box_cell (w := w) e 0 (.int .i64 e.1) (encE_key e)
  go_enter Try.func34, Try.ntmps34
  go_wp2
  go_ret
  exact ⟨rfl, below_alloc _ _⟩
theorem stoodOf_calls (e : E) (w : World) : Calls Try.prog 35 #[aggE e] w (TB w (.bool e.2.2)) := by
  have h0 := box_cell (w := w) e 14 (.bool e.2.2) (by unfold encE; split <;> rename_i h <;> simp [h])
  go_enter Try.func35, Try.ntmps35
  go_wp2
  go_ret
  exact ⟨rfl, below_alloc _ _⟩
theorem value_calls (e : E) (w : World) : Calls Try.prog 36 #[aggE e] w (TB w (.int .i64 (valE e))) := by
  have h0 := box_cell (w := w) e 8 (.int .i64 (valE e)) (by unfold encE valE; split <;> rename_i h <;> simp)
  go_enter Try.func36, Try.ntmps36
  go_wp2
  go_ret
  exact ⟨rfl, below_alloc _ _⟩

/-- a row under way in a block of the call's own: of n elements of sz cells k are laid -/
structure Mk (w0 wr : World) (g sz n k : Nat) (c : Nat → List Value) : Prop where
  bel : Below w0.heap.size w0 wr
  ge : w0.heap.size ≤ g
  lt : g < wr.heap.size
  r : ∀ i, i < k → wr.rangeAt g (i * sz) (c i)
  t : ∀ i, i < n → wr.there g (i * sz) sz
theorem range_below {w w' : World} {g o : Nat} {cs : List Value} (h : w.rangeAt g o cs) (hlt : g < w.heap.size) (hb : Below w.heap.size w w') : w'.rangeAt g o cs := fun j v hv => by
  rw [hb.cell (p := ⟨g, o + j, none⟩) hlt]; exact h j v hv
theorem there_below {w w' : World} {g o n : Nat} (h : w.there g o n) (hlt : g < w.heap.size) (hb : Below w.heap.size w w') : w'.there g o n := fun j hj => by
  rw [hb.cell (p := ⟨g, o + j, none⟩) hlt, hb.frozen (p := ⟨g, o + j, none⟩) hlt]; exact h j hj
section
variable {w0 wr w' : World} {g sz n k : Nat} {c : Nat → List Value}
theorem Mk.below (h : Mk w0 wr g sz n k c) (hb : Below wr.heap.size wr w') : Mk w0 w' g sz n k c :=
  ⟨below_tr h.bel hb, h.ge, Nat.lt_of_lt_of_le h.lt hb.size, fun i hi => range_below (h.r i hi) h.lt hb, fun i hi => there_below (h.t i hi) h.lt hb⟩
theorem below_setCells {B : Nat} {w w' : World} (hb : Below B w w') {g : Nat} (hg : B ≤ g) : ∀ (vs : List Value) (o : Nat), Below B w (w'.setCells g o vs)
  | [], _ => hb
  | v :: vs, o => below_setCells (hb.setCell (p := ⟨g, o, none⟩) hg v) hg vs (o + 1)
theorem size_setCells (g : Nat) : ∀ (vs : List Value) (o : Nat) (w : World), (w.setCells g o vs).heap.size = w.heap.size
  | [], _, _ => rfl
  | v :: vs, o, w => by show ((w.setCell ⟨g, o, none⟩ v).setCells g (o + 1) vs).heap.size = _; rw [size_setCells g vs, heap_setCell_size]
theorem Mk.step (h : Mk w0 wr g sz n k c) (hk : k < n) (hl : ∀ i, (c i).length = sz) : Mk w0 (wr.setCells g (k * sz) (c k)) g sz n (k + 1) c := by
  refine ⟨below_setCells h.bel h.ge _ _, h.ge, by rw [size_setCells]; exact h.lt, fun i hi => ?_, fun i hi => World.there_setCells (h.t i hi) _ _ _⟩
  by_cases hik : i = k
  · subst hik
    exact World.rangeAt_setCells_same wr g (i * sz) (c i) (by rw [hl]; exact h.t i hk)
  · refine World.rangeAt_setCells_apart (h.r i (by omega)) g (k * sz) (c k) ?_
    rw [hl, hl]
    right; left
    have := Nat.mul_le_mul_right sz (show i + 1 ≤ k by omega)
    rw [Nat.add_mul] at this
    omega
theorem Mk.cells (h : Mk w0 wr g sz n k c) {i : Nat} (hi : i < n) : ∀ q, q < sz → ∃ u, wr.cell? ⟨g, i * sz + q, none⟩ = some u ∧ wr.frozen? ⟨g, i * sz + q, none⟩ = false := fun q hq => by
  have := h.t i hi q hq
  obtain ⟨u, hu⟩ := Option.isSome_iff_exists.1 this.1
  exact ⟨u, hu, this.2⟩
end
theorem mk_start (w : World) (z : Array Value) (sz n : Nat) (e : TypeId) (c : Nat → List Value) : Mk w (w.alloc (.cells (madeCells z (n * sz)) e)) w.heap.size sz n 0 c := by
  refine ⟨below_alloc _ _, Nat.le_refl _, by simp, fun i hi => by omega, fun i hi j hj => ⟨?_, frozen_new rfl _ _ _⟩⟩
  rw [cell_new rfl]
  have : i * sz + j < n * sz := by
    have := Nat.mul_le_mul_right sz (show i + 1 ≤ n by omega)
    rw [Nat.add_mul] at this
    omega
  simp [madeCells, this]
end Go.Proofs.Qxb6616141a
