/-
  OWN TEXT. Rows of prior entries: where they lie in memory; the comparisons.
-/
import Derived.Test.Qxb6616141aShows
import Derived.Deep.MidRow
namespace Go.Proofs.Qxb6616141a
open Go.RowKit

/-- a prior entry: its key, its value, whether it stood -/
abbrev E := Int × Int × Bool
def encE (e : E) : List Value :=
  if e.2.2 then [.int .i64 e.1, .int .i64 e.1, .int .i64 e.2.1, .bool true, .int .i64 0, .int .i64 0, .bool true, .int .i64 e.1, .int .i64 e.2.1, .bool true, .int .i64 0, .int .i64 0, .bool true, .int .i64 0, .bool true]
  else [.int .i64 e.1, .int .i64 0, .int .i64 0, .bool false, .int .i64 0, .int .i64 0, .bool false, .int .i64 0, .int .i64 0, .bool false, .int .i64 0, .int .i64 0, .bool false, .int .i64 0, .bool false]
theorem encE_length (e : E) : (encE e).length = 15 := by
  unfold encE
  split <;> rfl
theorem encE_one (e : E) : ∀ v ∈ encE e, v.oneCell' = true := by
  unfold encE
  split <;> (intro v hv; simp only [List.mem_cons, List.not_mem_nil, or_false] at hv; repeat (first | (rcases hv with h | hv; · subst h; rfl) | (subst hv; rfl)))
abbrev aggE (e : E) : Value := .agg (encE e).toArray

/-- only the blocks of F turn -/
structure Chg (F : Nat → Prop) (w w' : World) : Prop where
  os : w'.os = w.os
  tape : w'.tape = w.tape
  output : w'.output = w.output
  size : w.heap.size ≤ w'.heap.size
  block : ∀ k, k < w.heap.size → ¬ F k → w'.heap[k]? = w.heap[k]?
section
variable {F G : Nat → Prop} {w w' w'' : World}
theorem Chg.refl (F : Nat → Prop) (w : World) : Chg F w w := ⟨rfl, rfl, rfl, Nat.le_refl _, fun _ _ _ => rfl⟩
theorem Chg.mono (h : Chg F w w') (hF : ∀ k, k < w.heap.size → F k → G k) : Chg G w w' := ⟨h.os, h.tape, h.output, h.size, fun k hk hn => h.block k hk (fun hf => hn (hF k hk hf))⟩
theorem Chg.tr (h : Chg F w w') (k : Chg F w' w'') : Chg F w w'' :=
  ⟨k.os.trans h.os, k.tape.trans h.tape, k.output.trans h.output, Nat.le_trans h.size k.size, fun b hb hn => (k.block b (Nat.lt_of_lt_of_le hb h.size) hn).trans (h.block b hb hn)⟩
theorem Chg.cell (h : Chg F w w') {a : Addr} {v : Value} (hv : w.cell? a = some v) (hn : ¬ F a.block) : w'.cell? a = some v :=
  (World.cell?_of_block (w := w) (h.block a.block (World.block_lt_of_cell? w a hv) hn)).trans hv
theorem Chg.alloc (h : Chg F w w') (o : Obj) : Chg F w (w'.alloc o) :=
  ⟨h.os, h.tape, h.output, Nat.le_trans h.size (by simp), fun k hk hn => (Below.heap_alloc w' o k (Nat.lt_of_lt_of_le hk h.size)).trans (h.block k hk hn)⟩
theorem Chg.below (h : Chg (fun _ => False) w w') : Below w.heap.size w w' := ⟨h.os, h.tape, h.output, h.size, fun k hk => h.block k hk (fun x => x)⟩
theorem Chg.of_below (h : Below w.heap.size w w') : Chg F w w' := ⟨h.os, h.tape, h.output, h.size, fun k hk _ => h.block k hk⟩
theorem chg_setCell (b o : Nat) (v : Value) (w : World) : Chg (fun k => k = b) w (w.setCell ⟨b, o, none⟩ v) := ⟨rfl, rfl, rfl, by simp, fun k _ hn => Below.heap_setCell w ⟨b, o, none⟩ v k hn⟩
theorem chg_setCells (b : Nat) : ∀ (vs : List Value) (o : Nat) (w : World), Chg (fun k => k = b) w (w.setCells b o vs)
  | [], _, w => Chg.refl _ w
  | v :: vs, o, w => (chg_setCell b o v w).tr (chg_setCells b vs (o + 1) _)
end

/-- n prior entries lie in block g -/
structure PR (w : World) (g n : Nat) (xs : Nat → E) : Prop where
  r : ∀ i, i < n → w.rangeAt g (i * 15) (encE (xs i))
  t : ∀ i, i < n → w.there g (i * 15) 15

theorem PR.keep {w w' : World} {g n : Nat} {xs : Nat → E} {F : Nat → Prop} (h : PR w g n xs) (hc : Chg F w w') (hg : ¬ F g) (hlt : g < w.heap.size) : PR w' g n xs := by
  have hb := hc.block g hlt hg
  have e1 : ∀ o, w'.cell? ⟨g, o, none⟩ = w.cell? ⟨g, o, none⟩ := fun o => World.cell?_of_block (w := w) hb
  have e2 : ∀ o, w'.frozen? ⟨g, o, none⟩ = w.frozen? ⟨g, o, none⟩ := fun o => World.frozen?_of_block (w := w) hb
  exact ⟨fun i hi j v hv => (e1 _).trans (h.r i hi j v hv), fun i hi j hj => ⟨by rw [e1]; exact (h.t i hi j hj).1, by rw [e2]; exact (h.t i hi j hj).2⟩⟩

def upE (xs : Nat → E) (i : Nat) (e : E) : Nat → E := fun j => if j = i then e else xs j

theorem info96 : (Try.prog.info? 96).map (·.size) = some 15 := by kernel_rfl
theorem PR.load {w : World} {g n : Nat} {xs : Nat → E} (h : PR w g n xs) {i : Nat} (hi : i < n) : (Instr.loadAt 96 (.pointer (some ⟨g, i * 15, none⟩))).run Try.prog w = .ok (aggE (xs i)) w :=
  run_loadAt_mid w g (i * 15) 96 (encE (xs i)) _ (h.r i hi) Try.underlying96 rfl (by rw [encE_length]; exact info96)
theorem PR.store {w : World} {g n : Nat} {xs : Nat → E} (h : PR w g n xs) {i : Nat} (hi : i < n) (e : E) : (Instr.storeAt 96 (.pointer (some ⟨g, i * 15, none⟩)) (aggE e)).run Try.prog w = .ok () (w.setCells g (i * 15) (encE e)) := by
  have := run_storeAt_mid (P := Try.prog) w g (i * 15) 96 (encE e).toArray (by simpa [encE_length] using h.t i hi) (by simpa [encE_length] using info96) (all_oneCell_toArray (encE_one e))
  simpa using this
theorem PR.loadV {w : World} {g n : Nat} {xs : Nat → E} (h : PR w g n xs) {i : Nat} (hi : i < n) : (loadVar 96 ⟨g, i * 15, none⟩).run Try.prog w = .ok (aggE (xs i)) w :=
  run_loadVar_mid w g (i * 15) 96 (encE (xs i)) _ (h.r i hi) Try.underlying96 rfl (by rw [encE_length]; exact info96)
theorem PR.storeV {w : World} {g n : Nat} {xs : Nat → E} (h : PR w g n xs) {i : Nat} (hi : i < n) (e : E) : (storeVar 96 ⟨g, i * 15, none⟩ (aggE e)).run Try.prog w = .ok () (w.setCells g (i * 15) (encE e)) := by
  have := run_storeVar_mid (P := Try.prog) w g (i * 15) 96 (encE e).toArray (by simpa [encE_length] using h.t i hi) (by simpa [encE_length] using info96) (all_oneCell_toArray (encE_one e))
  simpa using this
theorem PR.set {w : World} {g n : Nat} {xs : Nat → E} (h : PR w g n xs) {i : Nat} (hi : i < n) (e : E) : PR (w.setCells g (i * 15) (encE e)) g n (upE xs i e) := by
  refine ⟨fun j hj => ?_, fun j hj => ?_⟩
  · by_cases hji : j = i
    · subst hji
      have := World.rangeAt_setCells_same w g (j * 15) (encE e) (by rw [encE_length]; exact h.t j hj)
      simpa [upE] using this
    · have e1 : upE xs i e j = xs j := by simp [upE, hji]
      rw [e1]
      refine World.rangeAt_setCells_apart (h.r j hj) g (i * 15) (encE e) ?_
      rw [encE_length, encE_length]
      omega
  · exact World.there_setCells (h.t j hj) g (i * 15) (encE e)

theorem encE_key (e : E) : (encE e)[0]? = some (.int .i64 e.1) := by
  unfold encE
  split <;> rfl
def CmpP (w : World) (a b : E) (e : Ending) (w' : World) : Prop := (∃ z : Int, e = .returned (.int .i64 z) ∧ (z < 0 ↔ a.1 < b.1)) ∧ Below w.heap.size w w'

theorem nan_calls (x : Int) (w : World) : Calls Try.prog 46 #[.int .i64 x] w fun e w' => e = .returned (.bool false) ∧ w' = w := by
  go_enter Try.func46, Try.ntmps46
  go_wp2
  go_ret
  exact ⟨by simp, rfl⟩
theorem compare_calls (x y : Int) (w : World) : Calls Try.prog 41 #[.int .i64 x, .int .i64 y] w fun e w' => (∃ z : Int, e = .returned (.int .i64 z) ∧ (z < 0 ↔ x < y)) ∧ w' = w := by
  go_enter Try.func41, Try.ntmps41
  go_wp2_with fail
  refine (nan_calls x w).mono ?_
  rintro e w1 ⟨rfl, hw⟩
  subst hw
  go_wp2_with fail
  refine (nan_calls y w1).mono ?_
  rintro e w2 ⟨rfl, hw⟩
  subst hw
  by_cases h1 : x < y
  · go_wp2
    go_ret
    exact ⟨⟨-1, rfl, by simp [h1]⟩, rfl⟩
  · by_cases h2 : y < x
    · go_wp2
      go_ret
      exact ⟨⟨1, rfl, by simp; omega⟩, rfl⟩
    · go_wp2
      go_ret
      exact ⟨⟨0, rfl, by simp; omega⟩, rfl⟩
theorem box_key {w : World} (a : E) : (w.alloc (.cells (encE a).toArray 96)).cell? ⟨w.heap.size, 0, none⟩ = some (.int .i64 a.1) := by
  have := heap_alloc_new w (.cells (encE a).toArray 96)
  unfold World.cell?
  rw [this]
  simpa using encE_key a
set_option maxRecDepth 100000 in
theorem cmp_calls (a b : E) (w : World) : Calls Try.prog 40 #[aggE a, aggE b] w (CmpP w a b) := by
  have hB1 := below_alloc w (.cells (encE a).toArray 96)
  have hB2 := below_alloc (w.alloc (.cells (encE a).toArray 96)) (.cells (encE b).toArray 96)
  have h0 : ((w.alloc (.cells (encE a).toArray 96)).alloc (.cells (encE b).toArray 96)).cell? ⟨w.heap.size, 0, none⟩ = some (.int .i64 a.1) := below_cell hB2 (box_key a)
  have h1 := box_key (w := w.alloc (.cells (encE a).toArray 96)) b
  have hsz : (w.alloc (.cells (encE a).toArray 96)).heap.size = w.heap.size + 1 := by simp
  rw [hsz] at h1
  go_enter Try.func40, Try.ntmps40
  go_wp2_with fail
  refine (compare_calls a.1 b.1 _).mono ?_
  rintro e w1 ⟨⟨z, rfl, hz⟩, hw⟩
  subst hw
  go_wp2
  go_ret
  exact ⟨⟨z, rfl, hz⟩, below_tr hB1 hB2⟩
set_option maxRecDepth 100000 in
theorem eqk_calls (a b : E) (w : World) : Calls Try.prog 43 #[aggE a, aggE b] w (TB w (.bool (a.1 == b.1))) := by
  have hB1 := below_alloc w (.cells (encE a).toArray 96)
  have hB2 := below_alloc (w.alloc (.cells (encE a).toArray 96)) (.cells (encE b).toArray 96)
  have h0 : ((w.alloc (.cells (encE a).toArray 96)).alloc (.cells (encE b).toArray 96)).cell? ⟨w.heap.size, 0, none⟩ = some (.int .i64 a.1) := below_cell hB2 (box_key a)
  have h1 := box_key (w := w.alloc (.cells (encE a).toArray 96)) b
  have hsz : (w.alloc (.cells (encE a).toArray 96)).heap.size = w.heap.size + 1 := by simp
  rw [hsz] at h1
  go_enter Try.func43, Try.ntmps43
  go_wp2
  go_ret
  exact ⟨rfl, below_tr hB1 hB2⟩

/-- an entry's j-th cell -/
def cE (e : E) (j : Nat) : Value := (encE e).getD j undef
theorem foldE (e : E) : #[cE e 0, cE e 1, cE e 2, cE e 3, cE e 4, cE e 5, cE e 6, cE e 7, cE e 8, cE e 9, cE e 10, cE e 11, cE e 12, cE e 13, cE e 14] = (encE e).toArray := by
  unfold cE encE
  split <;> rfl
theorem PR.cells {w : World} {g n : Nat} {xs : Nat → E} (h : PR w g n xs) {i : Nat} (hi : i < n) : (∀ j, j < 15 → w.cell? ⟨g, i * 15 + j, none⟩ = some (cE (xs i) j)) ∧ w.cell? ⟨g, i * 15, none⟩ = some (cE (xs i) 0) := by
  have key : ∀ j, j < 15 → w.cell? ⟨g, i * 15 + j, none⟩ = some (cE (xs i) j) := fun j hj => by
    refine h.r i hi j _ ?_
    have hl : j < (encE (xs i)).length := by rw [encE_length]; exact hj
    unfold cE
    rw [List.getD_eq_getElem?_getD, List.getElem?_eq_getElem hl]
    rfl
  exact ⟨key, key 0 (by omega)⟩
theorem PR.storeC {w : World} {g n : Nat} {xs : Nat → E} (h : PR w g n xs) {i : Nat} (hi : i < n) (e : E) : (storeCells ⟨g, i * 15, none⟩ (encE e)).run Try.prog w = .ok () (w.setCells g (i * 15) (encE e)) := by
  have := run_storeCells_cells (P := Try.prog) g (i * 15) (encE e) 0 w (fun j hj => by simpa using (h.t i hi j (by rw [encE_length] at hj; exact hj)).1) (fun j hj => by simpa using (h.t i hi j (by rw [encE_length] at hj; exact hj)).2) (fun v hv => encE_one e v hv)
  simpa using this
end Go.Proofs.Qxb6616141a
