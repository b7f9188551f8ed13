/-
  OWN TEXT. 'Chg F w w'': the world w' is w but for the blocks in F and for new blocks. 'RowAt': a slice's cells, told by a list.
-/
import Derived.WalkKit
import Derived.Deep.Draws
import Derived.Deep.MidRow
import Derived.Deep.Upon
import Derived.Test.Qxb6616074aMap
namespace Go.Proofs.Qxb6616074a
open Go.RowKit Go.MapKept Go.ChangeMaps

structure Chg (F : Nat → Prop) (w w' : World) : Prop where
  os : w'.os = w.os
  tape : w'.tape = w.tape
  output : w'.output = w.output
  size : w.heap.size ≤ w'.heap.size
  block : ∀ k, k < w.heap.size → ¬ F k → w'.heap[k]? = w.heap[k]?

section
variable {F G : Nat → Prop} {w w' w'' : World}

theorem Chg.refl (F : Nat → Prop) (w : World) : Chg F w w := ⟨rfl, rfl, rfl, Nat.le_refl _, fun _ _ _ => rfl⟩
theorem Chg.mono (h : Chg F w w') (hF : ∀ k, k < w.heap.size → F k → G k) : Chg G w w' := ⟨h.os, h.tape, h.output, h.size, fun k hk hn => h.block k hk (fun hf => hn (hF k hk hf))⟩
theorem Chg.trans (h : Chg F w w') (h' : Chg G w' w'') (hG : ∀ k, k < w.heap.size → G k → F k) : Chg F w w'' :=
  ⟨h'.os.trans h.os, h'.tape.trans h.tape, h'.output.trans h.output, Nat.le_trans h.size h'.size, fun k hk hn => (h'.block k (Nat.lt_of_lt_of_le hk h.size) (fun hg => hn (hG k hk hg))).trans (h.block k hk hn)⟩
theorem Chg.tr (h : Chg F w w') (h' : Chg F w' w'') : Chg F w w'' := h.trans h' (fun _ _ x => x)
theorem Chg.cell (h : Chg F w w') {a : Addr} {v : Value} (hv : w.cell? a = some v) (hn : ¬ F a.block) : w'.cell? a = some v :=
  (World.cell?_of_block (h.block a.block (World.block_lt_of_cell? w a hv) hn)).trans hv
theorem Chg.cells (h : Chg F w w') {b : Nat} (hb : b < w.heap.size) (hn : ¬ F b) (o : Nat) : w'.cell? ⟨b, o, none⟩ = w.cell? ⟨b, o, none⟩ := World.cell?_of_block (w := w) (h.block b hb hn)
theorem Chg.frozens (h : Chg F w w') {b : Nat} (hb : b < w.heap.size) (hn : ¬ F b) (o : Nat) : w'.frozen? ⟨b, o, none⟩ = w.frozen? ⟨b, o, none⟩ := World.frozen?_of_block (w := w) (h.block b hb hn)
theorem Chg.alloc (h : Chg F w w') (o : Obj) : Chg F w (w'.alloc o) :=
  h.trans (G := F) ⟨rfl, rfl, rfl, by simp, fun k hk _ => Below.heap_alloc _ _ _ hk⟩ (fun _ _ x => x)
theorem Chg.setCell (h : Chg F w w') {a : Addr} (ha : a.block < w.heap.size → F a.block) (v : Value) : Chg F w (w'.setCell a v) := by
  refine h.trans (G := fun k => k = a.block) ⟨rfl, rfl, rfl, by simp [World.setCell], fun k _ hn => Below.heap_setCell _ _ _ _ hn⟩ ?_
  rintro k hk rfl
  exact ha hk
theorem Chg.setBlock (h : Chg F w w') {b : Nat} (hb : b < w.heap.size → F b) (o : Obj) : Chg F w (setBlock w' b o) := by
  refine h.trans (G := fun k => k = b) ⟨rfl, rfl, rfl, by simp [ChangeMaps.setBlock], fun k _ hn => by simp [ChangeMaps.setBlock, Ne.symm hn]⟩ ?_
  rintro k hk rfl
  exact hb hk
theorem Chg.drew (h : Chg F w w') : Chg F w w'.drew := ⟨h.os, h.tape, h.output, h.size, h.block⟩
theorem Chg.drewN (h : Chg F w w') (n : Nat) : Chg F w (w'.drewN n) := ⟨h.os, h.tape, h.output, h.size, h.block⟩
theorem Chg.grown {row : Option Nat} (h : Chg F w w') (hg : w'.grownBy w'' row) (hr : ∀ k, row = some k → k < w.heap.size → F k) : Chg F w w'' :=
  h.trans (G := fun k => some k = row) ⟨hg.os, hg.tape, hg.output, hg.size, fun k hk hn => hg.block k hk hn⟩ (fun k hk he => hr k he.symm hk)
theorem Chg.below {B : Nat} (h : Chg F w w') (hF : ∀ k, F k → B ≤ k) (hB : B ≤ w.heap.size) : Below B w w' :=
  ⟨h.os, h.tape, h.output, h.size, fun k hk => h.block k (Nat.lt_of_lt_of_le hk hB) (fun hf => by have := hF k hf; omega)⟩
end

theorem chg_setCells (b : Nat) : ∀ (vs : List Value) (o : Nat) (w : World), Chg (fun k => k = b) w (w.setCells b o vs)
  | [], _, w => Chg.refl _ w
  | v :: r, o, w => ((Chg.refl (fun k => k = b) w).setCell (a := ⟨b, o, none⟩) (fun _ => rfl) v).tr (chg_setCells b r (o + 1) _)

theorem MapAt.lt {α : Type} {enc : α → Value} {f : ByteArray → Option α} {w : World} {b n : Nat} (h : MapAt w b enc f n) : b < w.heap.size := by
  obtain ⟨es, clock, hb, _⟩ := h
  exact (Array.getElem?_eq_some_iff.1 hb).1
theorem MapAt.kept {α : Type} {enc : α → Value} {f : ByteArray → Option α} {w w' : World} {b n : Nat} {F : Nat → Prop} (h : MapAt w b enc f n) (hc : Chg F w w') (hn : ¬ F b) : MapAt w' b enc f n := by
  have hlt := h.lt
  obtain ⟨es, clock, hb, R, hs⟩ := h
  exact ⟨es, clock, (hc.block b hlt hn).trans hb, R, hs⟩
theorem MapAt.heapEq {α : Type} {enc : α → Value} {f : ByteArray → Option α} {w w' : World} {b n : Nat} (h : MapAt w b enc f n) (he : w'.heap[b]? = w.heap[b]?) : MapAt w' b enc f n := by
  obtain ⟨es, clock, hb, R, hs⟩ := h
  exact ⟨es, clock, he.trans hb, R, hs⟩

theorem cell_new {w : World} {n : Nat} (hn : n = w.heap.size) (cs : Array Value) (t : TypeId) (j : Nat) : (w.alloc (.cells cs t)).cell? ⟨n, j, none⟩ = cs[j]? := by
  subst hn
  have : (w.alloc (.cells cs t)).heap[w.heap.size]? = some (.cells cs t) := (MapKept.heap_alloc w _).1
  unfold World.cell?
  rw [this]
  simp
theorem frozen_new {w : World} {n : Nat} (hn : n = w.heap.size) (cs : Array Value) (t : TypeId) (j : Nat) : (w.alloc (.cells cs t)).frozen? ⟨n, j, none⟩ = false := by
  subst hn
  have : (w.alloc (.cells cs t)).heap[w.heap.size]? = some (.cells cs t) := (MapKept.heap_alloc w _).1
  unfold World.frozen?
  rw [this]
  simp
theorem size_setCell (w : World) (a : Addr) (v : Value) : (w.setCell a v).heap.size = w.heap.size := by simp [World.setCell]

/-- Of block lb only the cells at the offsets O may have turned; its marks stand. -/
structure KeepS (lb : Nat) (O : Nat → Prop) (w w' : World) : Prop where
  cell : ∀ o, ¬ O o → w'.cell? ⟨lb, o, none⟩ = w.cell? ⟨lb, o, none⟩
  frozen : ∀ o, w'.frozen? ⟨lb, o, none⟩ = w.frozen? ⟨lb, o, none⟩

theorem KeepS.refl (lb : Nat) (O : Nat → Prop) (w : World) : KeepS lb O w w := ⟨fun _ _ => rfl, fun _ => rfl⟩
theorem KeepS.trans {lb : Nat} {O : Nat → Prop} {w w' w'' : World} (h : KeepS lb O w w') (k : KeepS lb O w' w'') : KeepS lb O w w'' := ⟨fun o ho => (k.cell o ho).trans (h.cell o ho), fun o => (k.frozen o).trans (h.frozen o)⟩
theorem KeepS.mono {lb : Nat} {O O' : Nat → Prop} {w w' : World} (h : KeepS lb O w w') (hO : ∀ o, O o → O' o) : KeepS lb O' w w' := ⟨fun o ho => h.cell o (fun x => ho (hO o x)), h.frozen⟩
theorem KeepS.chg {lb : Nat} {O F : Nat → Prop} {w w' w'' : World} (h : KeepS lb O w w') (hc : Chg F w' w'') (hlt : lb < w'.heap.size) (hn : ¬ F lb) : KeepS lb O w w'' :=
  ⟨fun o ho => (hc.cells hlt hn o).trans (h.cell o ho), fun o => (hc.frozens hlt hn o).trans (h.frozen o)⟩
theorem KeepS.setCell {lb : Nat} {O : Nat → Prop} {w w' : World} (h : KeepS lb O w w') {a : Addr} (ha : a.block = lb → a.spot = none → O a.off) (v : Value) : KeepS lb O w (w'.setCell a v) := by
  refine ⟨fun o ho => ?_, fun o => (World.frozen?_setCell _ _ _ _).trans (h.frozen o)⟩
  rw [World.cell?_setCell_other _ _ _ _ ?_]
  · exact h.cell o ho
  · intro e
    subst e
    exact ho (ha rfl rfl)
theorem KeepS.alloc {lb : Nat} {O : Nat → Prop} {w w' : World} (h : KeepS lb O w w') (hlt : lb < w'.heap.size) (o : Obj) : KeepS lb O w (w'.alloc o) :=
  h.chg (F := fun _ => False) ((Chg.refl _ _).alloc o) hlt (fun x => x)
theorem KeepS.drew {lb : Nat} {O : Nat → Prop} {w w' : World} (h : KeepS lb O w w') : KeepS lb O w w'.drew := ⟨h.cell, h.frozen⟩
theorem KeepS.drewN {lb : Nat} {O : Nat → Prop} {w w' : World} (h : KeepS lb O w w') (q : Nat) : KeepS lb O w (w'.drewN q) := ⟨h.cell, h.frozen⟩

/-- A slice's cells: n elements of 'size' cells each hold xs; all cells up to the capacity are there and may be written. -/
structure RowAt (w : World) (g off size n cap : Nat) (xs : List Value) : Prop where
  len : xs.length = n * size
  le : n ≤ cap
  cell : ∀ j u, xs[j]? = some u → w.cell? ⟨g, off + j, none⟩ = some u
  there : ∀ j, j < cap * size → (w.cell? ⟨g, off + j, none⟩).isSome = true
  free : ∀ j, j < cap * size → w.frozen? ⟨g, off + j, none⟩ = false

section
variable {w w' : World} {g off size n cap : Nat} {xs : List Value}

theorem RowAt.eq (h : RowAt w g off size n cap xs) (he : ∀ o, w'.cell? ⟨g, o, none⟩ = w.cell? ⟨g, o, none⟩) (hf : ∀ o, w'.frozen? ⟨g, o, none⟩ = w.frozen? ⟨g, o, none⟩) : RowAt w' g off size n cap xs :=
  ⟨h.len, h.le, fun j u hu => (he _).trans (h.cell j u hu), fun j hj => by rw [he]; exact h.there j hj, fun j hj => (hf _).trans (h.free j hj)⟩
theorem RowAt.drew (h : RowAt w g off size n cap xs) : RowAt w.drew g off size n cap xs := h.eq (fun _ => rfl) (fun _ => rfl)
theorem RowAt.drewN (h : RowAt w g off size n cap xs) (q : Nat) : RowAt (w.drewN q) g off size n cap xs := h.eq (fun _ => rfl) (fun _ => rfl)
theorem RowAt.kept {F : Nat → Prop} (h : RowAt w g off size n cap xs) (hc : Chg F w w') (hlt : g < w.heap.size) (hn : ¬ F g) : RowAt w' g off size n cap xs :=
  h.eq (fun o => hc.cells hlt hn o) (fun o => hc.frozens hlt hn o)
theorem RowAt.lt (h : RowAt w g off size n cap xs) (hc : 0 < cap * size) : g < w.heap.size := by
  have := h.there 0 hc
  obtain ⟨u, hu⟩ := Option.isSome_iff_exists.1 this
  exact World.block_lt_of_cell? w _ hu
theorem RowAt.store (h : RowAt w g off size n cap xs) (j : Nat) (hj : j < n * size) (u : Value) : RowAt (w.setCell ⟨g, off + j, none⟩ u) g off size n cap (xs.set j u) := by
  have hjc : j < cap * size := Nat.lt_of_lt_of_le hj (Nat.mul_le_mul_right _ h.le)
  refine ⟨by simpa using h.len, h.le, ?_, ?_, fun i hi => by rw [World.frozen?_setCell]; exact h.free i hi⟩
  · intro i v hv
    by_cases hij : i = j
    · subst hij
      have : v = u := by
        rw [List.getElem?_set_self (by rw [h.len]; exact hj)] at hv
        exact (Option.some.inj hv).symm
      subst this
      obtain ⟨x, hx⟩ := Option.isSome_iff_exists.1 (h.there i hjc)
      exact World.cell?_setCell_same _ _ _ hx
    · rw [List.getElem?_set_ne (Ne.symm hij)] at hv
      rw [World.cell?_setCell_other _ _ _ _ (by rw [ne_eq, Addr.mk.injEq]; omega)]
      exact h.cell i v hv
  · intro i hi
    by_cases hij : i = j
    · subst hij
      obtain ⟨x, hx⟩ := Option.isSome_iff_exists.1 (h.there i hjc)
      rw [World.cell?_setCell_same _ _ _ hx]; rfl
    · rw [World.cell?_setCell_other _ _ _ _ (by rw [ne_eq, Addr.mk.injEq]; omega)]
      exact h.there i hi
/-- 's[:m]'. -/
theorem RowAt.head (h : RowAt w g off size n cap xs) (m : Nat) (hm : m ≤ n) : RowAt w g off size m cap (xs.take (m * size)) := by
  have : m * size ≤ n * size := Nat.mul_le_mul_right _ hm
  refine ⟨by rw [List.length_take, h.len, Nat.min_eq_left this], Nat.le_trans hm h.le, fun j u hu => h.cell j u ?_, h.there, h.free⟩
  rw [List.getElem?_take] at hu
  split at hu
  · exact hu
  · cases hu
/-- 's[m:]'. -/
theorem RowAt.tail (h : RowAt w g off size n cap xs) (m : Nat) (hm : m ≤ n) : RowAt w g (off + m * size) size (n - m) (cap - m) (xs.drop (m * size)) := by
  have h1 : m * size ≤ n * size := Nat.mul_le_mul_right _ hm
  have h2 : n * size ≤ cap * size := Nat.mul_le_mul_right _ h.le
  have e1 := Nat.sub_mul n m size
  have e2 := Nat.sub_mul cap m size
  have hle := h.le
  refine ⟨by simp [h.len]; omega, by omega, fun j u hu => ?_, fun j hj => ?_, fun j hj => ?_⟩
  · rw [List.getElem?_drop] at hu
    have := h.cell _ _ hu
    rwa [Nat.add_assoc]
  · have := h.there (m * size + j) (by omega)
    rwa [Nat.add_assoc]
  · have := h.free (m * size + j) (by omega)
    rwa [Nat.add_assoc]
end

/-- A slice value of the call's own: nil, or a row. -/
def SliceAt (w : World) (v : Value) (size n : Nat) (xs : List Value) : Prop :=
  (v = .slice none 0 0 ∧ n = 0 ∧ xs = []) ∨ ∃ g off cap, v = .slice (some ⟨g, off, none⟩) n cap ∧ g < w.heap.size ∧ cap ≤ maxLen ∧ RowAt w g off size n cap xs

theorem SliceAt.kept {F : Nat → Prop} {w w' : World} {v : Value} {size n : Nat} {xs : List Value} (h : SliceAt w v size n xs) (hc : Chg F w w') (hn : ∀ k, v.ownBlock = some k → ¬ F k) : SliceAt w' v size n xs := by
  rcases h with h | ⟨g, off, cap, rfl, hlt, hm, hr⟩
  · exact .inl h
  · exact .inr ⟨g, off, cap, rfl, Nat.lt_of_lt_of_le hlt hc.size, hm, hr.kept hc hlt (hn g rfl)⟩
theorem SliceAt.len {w : World} {v : Value} {size n : Nat} {xs : List Value} (h : SliceAt w v size n xs) : ∃ a c, v = .slice a n c := by
  rcases h with ⟨rfl, rfl, _⟩ | ⟨g, off, cap, rfl, _⟩
  · exact ⟨_, _, rfl⟩
  · exact ⟨_, _, rfl⟩
theorem SliceAt.lt {w : World} {v : Value} {size n : Nat} {xs : List Value} (h : SliceAt w v size n xs) : ∀ k, v.ownBlock = some k → k < w.heap.size := by
  rcases h with ⟨rfl, rfl, _⟩ | ⟨g, off, cap, rfl, hlt, _⟩
  · intro k hk; simp [Value.ownBlock] at hk
  · intro k hk; simp [Value.ownBlock] at hk; omega
theorem SliceAt.length {w : World} {v : Value} {size n : Nat} {xs : List Value} (h : SliceAt w v size n xs) : xs.length = n * size := by
  rcases h with ⟨rfl, rfl, rfl⟩ | ⟨g, off, cap, rfl, _, _, hr⟩
  · simp
  · exact hr.len

section
variable {P : Program}
/-- append onto a slice of the call's own: what it leaves. -/
theorem run_append_slice (w : World) (t ty e : TypeId) (i : TypeInfo) (z : Value) (size bytes : Nat) (ht : P.underlying t = some (.slice e)) (hi : P.info? e = some i) (hz : i.zero = some z)
    (hsize : i.size = size) (hby : i.bytes = bytes) (hzs : z.cells.size = size) (hsz : 0 < size)
    (v : Value) (n : Nat) (xs : List Value) (hs : SliceAt w v size n xs)
    (a : Addr) (m c : Nat) (news : List Value) (hm0 : 0 < m) (hl : news.length = m * size) (hnews : ∀ j u, news[j]? = some u → w.cell? (a.add j) = some u) (h1 : ∀ u ∈ news, u.oneCell' = true)
    (h63 : n + m ≤ maxLen) (hbytes : (n + m) * bytes ≤ 140737488355328) :
    ∃ v' w', (Builtin.append_ #[t, t] ty #[v, .slice (some a) m c]).run P w = .ok v' w' ∧ SliceAt w' v' size (n + m) (xs ++ news) ∧ Chg (fun k => v.ownBlock = some k) w w' ∧
      ((∃ g off cap, v = .slice (some ⟨g, off, none⟩) n cap ∧ v' = .slice (some ⟨g, off, none⟩) (n + m) cap) ∨ ∃ g cap, v' = .slice (some ⟨g, 0, none⟩) (n + m) cap ∧ w.heap.size ≤ g) := by
  have fromOwn : ∀ v' w', w'.ownsRow w.heap.size e size v' (n + m) (xs ++ news) → w.grownBy w' none → SliceAt w' v' size (n + m) (xs ++ news) ∧ Chg (fun k => v.ownBlock = some k) w w' ∧ ∃ g cap, v' = .slice (some ⟨g, 0, none⟩) (n + m) cap ∧ w.heap.size ≤ g := by
    intro v' w' hown hg
    rcases hown.2 with ⟨rfl, h0⟩ | ⟨g, cap, cur, rfl, hb, hgg, hnc, hcm, hcs, htake⟩
    · omega
    · refine ⟨.inr ⟨g, 0, cap, rfl, (Array.getElem?_eq_some_iff.1 hgg).1, hcm, hown.1, hnc, ?_, ?_, ?_⟩, (Chg.refl _ w).grown hg (by simp), g, cap, rfl, hb⟩
      · intro j u hu
        have hj : j < (n + m) * size := by rw [← hown.1]; exact (List.getElem?_eq_some_iff.1 hu).1
        rw [Nat.zero_add, hown.cellAt j hj]
        exact hu
      · intro j hj
        rw [Nat.zero_add]
        simp [World.cell?, hgg, hcs, hj]
      · intro j hj
        rw [Nat.zero_add]
        exact hown.frozenAt j
  rcases hs with ⟨rfl, rfl, rfl⟩ | ⟨g, off, cap, rfl, hlt, hcm, hr⟩
  · obtain ⟨v', w', hrun, r1, r2, _⟩ := run_append_own (P := P) w w.heap.size t ty e i z size bytes ht hi hz hsize hby hzs hsz (.slice none 0 0) 0 [] (World.ownsRow_nil w _ e size) a m c news hl hnews h1 h63 hbytes (Nat.le_refl _)
    obtain ⟨q1, q2, q3⟩ := fromOwn v' w' r1 (by simpa [Value.ownBlock] using r2)
    exact ⟨v', w', hrun, q1, q2, .inr q3⟩
  · by_cases hroom : n + m ≤ cap
    · subst hsize
      have hsc : (n + m) * i.size ≤ cap * i.size := Nat.mul_le_mul_right _ hroom
      have hnm : (n + m) * i.size = n * i.size + m * i.size := Nat.add_mul _ _ _
      have hrun := run_append_room_cells (P := P) w t ty e i ht hi g off n cap a m c news hl hnews h1 hroom
        (fun j hj => by have := hr.there (n * i.size + j) (by omega); rwa [Nat.add_assoc])
        (fun j hj => by have := hr.free (n * i.size + j) (by omega); rwa [Nat.add_assoc])
      have hchg := chg_setCells g news (off + n * i.size) w
      refine ⟨_, _, hrun, .inr ⟨g, off, cap, rfl, Nat.lt_of_lt_of_le hlt hchg.size, hcm, ⟨by simp [hr.len, hl, hnm], hroom, ?_, ?_, ?_⟩⟩, hchg.mono (fun k _ e => by simp [Value.ownBlock, e]), .inl ⟨g, off, cap, rfl, rfl⟩⟩
      · intro j u hu
        rcases Nat.lt_or_ge j (n * i.size) with hj | hj
        · rw [List.getElem?_append_left (by rw [hr.len]; exact hj)] at hu
          rw [World.cell?_setCells_out _ _ _ _ _ (by simp; omega)]
          exact hr.cell j u hu
        · rw [List.getElem?_append_right (by rw [hr.len]; exact hj), hr.len] at hu
          have hlt' : j - n * i.size < news.length := (List.getElem?_eq_some_iff.1 hu).1
          have := World.cell?_setCells_in g news (off + n * i.size) w (fun q hq => by have := hr.there (n * i.size + q) (by omega); rwa [Nat.add_assoc]) (j - n * i.size) hlt'
          have ea : off + n * i.size + (j - n * i.size) = off + j := by omega
          rw [ea] at this
          rw [this, ← hu]
          simp [hlt']
      · intro j hj
        exact World.isSome_setCells g news _ w _ (hr.there j hj)
      · intro j hj
        rw [World.frozen?_setCells]
        exact hr.free j hj
    · obtain ⟨v', w', hrun, r1, r2⟩ := run_append_arg_grows (P := P) w t ty e i z size bytes ht hi hz hsize hby hzs hsz ⟨g, off, none⟩ n cap xs hr.len
        (fun j u hu => by have := hr.cell j u hu; rw [Addr.add_lit]; exact this) a m c news hl hnews (by omega) h63 hbytes
      obtain ⟨q1, q2, q3⟩ := fromOwn v' w' r1 r2
      exact ⟨v', w', hrun, q1, q2, .inr q3⟩
end
end Go.Proofs.Qxb6616074a
