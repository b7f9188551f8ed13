/-
  OWN TEXT. (*doubts).Less, Swap: their contracts over the heap of doubts.
-/
import Derived.Test.Qxb6616074aSwapW
namespace Go.Proofs.Qxb6616074a
open Go.RowKit Go.MapKept Go.ChangeMaps

theorem under42 : Try.prog.underlying 42 = some (.map 9 3) := Try.underlying42

section
variable {w : World} {lb hb cap pb : Nat} {hs : List Dbt}

theorem less_calls (h : DL w lb hb cap pb hs) {i j : Nat} (hi : i < hs.length) (hj : j < hs.length) :
    Calls Try.prog 59 #[.pointer (some ⟨lb, 0, none⟩), .int .i64 i, .int .i64 j] w fun e w' => e = .returned (.bool (lessF hs i j)) ∧ ∃ q, w' = w.drewN q := by
  have ei : hs[i]? = some hs[i] := List.getElem?_eq_getElem hi
  have ej : hs[j]? = some hs[j] := List.getElem?_eq_getElem hj
  have := less_walk lb 0 hb hs.length cap i j hs[i].2 hs[j].2 w h.c0 hi hj (h.cells ei).2.1 (h.cells ej).2.1
  unfold lessF
  rw [stampAt_eq ei, stampAt_eq ej]
  exact this

theorem row_swap (h : DL w lb hb cap pb hs) {i j : Nat} {a b : Dbt} (hi : hs[i]? = some a) (hj : hs[j]? = some b) :
    RowAt ((((w.setCell ⟨hb, i * 2, none⟩ (.string b.1)).setCell ⟨hb, i * 2 + 1, none⟩ (.int .u64 b.2)).setCell ⟨hb, j * 2, none⟩ (.string a.1)).setCell ⟨hb, j * 2 + 1, none⟩ (.int .u64 a.2)) hb 0 2 hs.length cap (flat (swp hs i j)) := by
  have hil : i < hs.length := (List.getElem?_eq_some_iff.1 hi).1
  have hjl : j < hs.length := (List.getElem?_eq_some_iff.1 hj).1
  have r := (((h.row.store (i * 2) (by omega) (.string b.1)).store (i * 2 + 1) (by omega) (.int .u64 b.2)).store (j * 2) (by omega) (.string a.1)).store (j * 2 + 1) (by omega) (.int .u64 a.2)
  simp only [Nat.zero_add] at r
  rw [swp_eq hi hj, flat_set, flat_set]
  exact r

theorem swap_calls (h : DL w lb hb cap pb hs) {i j : Nat} (hi : i < hs.length) (hj : j < hs.length) (hij : i ≠ j) :
    Calls Try.prog 62 #[.pointer (some ⟨lb, 0, none⟩), .int .i64 i, .int .i64 j] w fun e w' => e = .returned (.tuple #[]) ∧ DL w' lb hb cap pb (swp hs i j) ∧ Chg (fun k => k = hb ∨ k = pb) w w' := by
  have ei : hs[i]? = some hs[i] := List.getElem?_eq_getElem hi
  have ej : hs[j]? = some hs[j] := List.getElem?_eq_getElem hj
  obtain ⟨ci0, ci1, fi0, fi1⟩ := h.cells ei
  obtain ⟨cj0, cj1, fj0, fj1⟩ := h.cells ej
  have hrow := row_swap h ei ej
  obtain ⟨pl, ⟨es, clock, hbk, R, hsz⟩, hgood⟩ := h.map
  have hgs := hgood.swap ei ej hij
  generalize hw1 : World.drew ((((w.setCell ⟨hb, i * 2, none⟩ (.string hs[j].1)).setCell ⟨hb, i * 2 + 1, none⟩ (.int .u64 hs[j].2)).setCell ⟨hb, j * 2, none⟩ (.string hs[i].1)).setCell ⟨hb, j * 2 + 1, none⟩ (.int .u64 hs[i].2)) = w1
  have hrow1 : RowAt w1 hb 0 2 hs.length cap (flat (swp hs i j)) := by rw [← hw1]; exact hrow.drew
  have hc1 : Chg (fun k => k = hb) w w1 := by
    rw [← hw1]
    exact (((((Chg.refl (fun k => k = hb) w).setCell (a := ⟨hb, i * 2, none⟩) (fun _ => rfl) _).setCell (a := ⟨hb, i * 2 + 1, none⟩) (fun _ => rfl) _).setCell (a := ⟨hb, j * 2, none⟩) (fun _ => rfl) _).setCell (a := ⟨hb, j * 2 + 1, none⟩) (fun _ => rfl) _).drew
  have hlbs : lb < w.heap.size := World.block_lt_of_cell? w _ h.c0
  have hpbs : pb < w.heap.size := (Array.getElem?_eq_some_iff.1 hbk).1
  have hbk1 : w1.heap[pb]? = some (.map es clock) := (hc1.block pb hpbs (Ne.symm h.nep)).trans hbk
  have hlb1 := hc1.cells hlbs h.ne
  have hfb1 := hc1.frozens hlbs h.ne
  have hswl : (swp hs i j).length = hs.length := swp_length hs i j
  have hgj : pl hs[j].1 = some j := (hgood _ _).2 ⟨_, ej, rfl⟩
  have hgi : pl hs[i].1 = some i := (hgood _ _).2 ⟨_, ei, rfl⟩
  have hab : hs[i].1 ≠ hs[j].1 := fun e => hij (hgood.inj ei ej e)
  obtain ⟨st1, hm1, hst1⟩ := R.entry (P := Try.prog) (b := pb) under42 Try.underlying9 hs[j].1 j hgj
  obtain ⟨es1, R1, hs1, hm2⟩ := hst1 i
  obtain ⟨st2, hm3, hst2⟩ := R1.entry (P := Try.prog) (b := pb) under42 Try.underlying9 hs[i].1 i (by rw [upd_other _ _ hab]; exact hgi)
  obtain ⟨es2, R2, hs2, hm4⟩ := hst2 j
  generalize hw2 : setBlock w1.drew pb (.map es1 clock) = w2
  have hbk2 : w2.heap[pb]? = some (.map es1 clock) := by rw [← hw2]; exact heap_setBlock (Array.getElem?_eq_some_iff.1 hbk1).1 _
  have hc2 : Chg (fun k => k = pb) w1 w2 := by rw [← hw2]; exact ((Chg.refl (fun k => k = pb) w1).drew).setBlock (fun _ => rfl) _
  generalize hw3 : setBlock w2 pb (.map es2 clock) = w3
  have hbk3 : w3.heap[pb]? = some (.map es2 clock) := by rw [← hw3]; exact heap_setBlock (Array.getElem?_eq_some_iff.1 hbk2).1 _
  have hc3 : Chg (fun k => k = pb) w1 w3 := by rw [← hw3]; exact hc2.setBlock (fun _ => rfl) _
  have hlbs1 : lb < w1.heap.size := Nat.lt_of_lt_of_le hlbs hc1.size
  have hhb1 : hb < w1.heap.size := Nat.lt_of_lt_of_le h.lt hc1.size
  have gi := flat_get (swp hs i j) i hs[j] (by rw [swp_eq ei ej, List.getElem?_set_ne (Ne.symm hij), List.getElem?_set_self hi])
  have gj := flat_get (swp hs i j) j hs[i] (by rw [swp_eq ei ej, List.getElem?_set_self (by simpa using hj)])
  have e0 := hrow1.cell _ _ gi.1
  have e1 := hrow1.cell _ _ gj.1
  rw [Nat.zero_add] at e0 e1
  have hlb3 := hc3.cells hlbs1 h.nelb
  have hfb3 := hc3.frozens hlbs1 h.nelb
  refine (swap_walk lb hb pb hs.length cap i j hs[i].1 hs[j].1 hs[i].2 hs[j].2 w w1 w2 w3 h.c0 hij hi hj ci0 ci1 cj0 cj1 fi0 fi1 fj0 fj1 hw1.symm ((hlb1 0).trans h.c0) ((hlb1 1).trans h.c1) e0 e1
    (natV j) (natV i) st1 st2 (hm1 _ hbk1) (by rw [← hw2]; exact hm2 w1.drew hbk1) (hm3 _ hbk2) (by rw [← hw3]; exact hm4 w2 hbk2)).mono ?_
  rintro e w' ⟨rfl, rfl⟩
  refine ⟨rfl, ⟨?_, (hlb3 1).trans ((hlb1 1).trans h.c1), (hfb3 0).trans ((hfb1 0).trans h.f0), (hfb3 1).trans ((hfb1 1).trans h.f1), h.ne, h.nep, Nat.lt_of_lt_of_le hhb1 hc3.size, h.capm, ?_, ?_, ?_⟩, ?_⟩
  · rw [hswl]; exact (hlb3 0).trans ((hlb1 0).trans h.c0)
  · rw [hswl]; exact hrow1.kept hc3 hhb1 h.nep
  · rw [hswl]; exact h.small
  · exact ⟨_, ⟨es2, clock, hbk3, R2, by rw [hs2, hs1, hsz, hswl]⟩, hgs⟩
  · exact (hc1.mono (G := fun k => k = hb ∨ k = pb) (fun k _ e => .inl e)).trans hc3 (fun k _ e => .inr e)

theorem DL.drewN (h : DL w lb hb cap pb hs) (q : Nat) : DL (w.drewN q) lb hb cap pb hs :=
  ⟨h.c0, h.c1, h.f0, h.f1, h.ne, h.nep, h.lt, h.capm, h.row.drewN q, h.small, h.map⟩

/-- The same, the indices as the walk spells them. -/
theorem less_at (h : DL w lb hb cap pb hs) (ii jj : Int) (i j : Nat) (hi : i < hs.length) (hj : j < hs.length) (ei : ii = i) (ej : jj = j) :
    Calls Try.prog 59 #[.pointer (some ⟨lb, 0, none⟩), .int .i64 ii, .int .i64 jj] w fun e w' => e = .returned (.bool (lessF hs i j)) ∧ ∃ q, w' = w.drewN q := by
  subst ei; subst ej; exact less_calls h hi hj
theorem swap_at (h : DL w lb hb cap pb hs) (ii jj : Int) (i j : Nat) (hi : i < hs.length) (hj : j < hs.length) (hij : i ≠ j) (ei : ii = i) (ej : jj = j) :
    Calls Try.prog 62 #[.pointer (some ⟨lb, 0, none⟩), .int .i64 ii, .int .i64 jj] w fun e w' => e = .returned (.tuple #[]) ∧ DL w' lb hb cap pb (swp hs i j) ∧ Chg (fun k => k = hb ∨ k = pb) w w' := by
  subst ei; subst ej; exact swap_calls h hi hj hij

theorem meth_less (p : Option Addr) (w : World) : (method 224 80 (.pointer p) "Less").run Try.prog w = .ok (59, .pointer p) w := by kernel_rfl
theorem meth_swap (p : Option Addr) (w : World) : (method 224 80 (.pointer p) "Swap").run Try.prog w = .ok (62, .pointer p) w := by kernel_rfl
theorem meth_len (p : Option Addr) (w : World) : (method 224 80 (.pointer p) "Len").run Try.prog w = .ok (22, .pointer p) w := by kernel_rfl
theorem meth_push (p : Option Addr) (w : World) : (method 224 80 (.pointer p) "Push").run Try.prog w = .ok (61, .pointer p) w := by kernel_rfl
theorem meth_pop (p : Option Addr) (w : World) : (method 224 80 (.pointer p) "Pop").run Try.prog w = .ok (60, .pointer p) w := by kernel_rfl
end
end Go.Proofs.Qxb6616074a
