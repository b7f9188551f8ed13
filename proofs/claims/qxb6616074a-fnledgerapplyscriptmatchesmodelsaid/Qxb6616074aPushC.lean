/-
  OWN TEXT. (*doubts).Push: its contract over the heap of doubts, used or not.
-/
import Derived.Test.Qxb6616074aPush
namespace Go.Proofs.Qxb6616074a
open Go.RowKit Go.MapKept Go.ChangeMaps

/-- The heap of doubts: never used yet, or in use; D: the blocks that it owns. -/
def DoubtsAt (w : World) (lb : Nat) (D : List Nat) (hs : List Dbt) : Prop :=
  (D = [] ∧ hs = [] ∧ w.cell? ⟨lb, 0, none⟩ = some (.slice none 0 0) ∧ w.cell? ⟨lb, 1, none⟩ = some (.map none) ∧ w.frozen? ⟨lb, 0, none⟩ = false ∧ w.frozen? ⟨lb, 1, none⟩ = false) ∨
  ∃ hb cap pb, D = [hb, pb] ∧ DL w lb hb cap pb hs

theorem info68 : (Try.prog.info? 68).map (fun i => (i.zero, i.size, i.bytes)) = some (some (.agg #[.string { data := #[] }, .int .u64 0]), 2, 24) := by kernel_rfl

theorem size_setBlock (w : World) (b : Nat) (o : Obj) : (setBlock w b o).heap.size = w.heap.size := by simp [setBlock]
theorem chg_alloc (F : Nat → Prop) (w : World) (o : Obj) : Chg F w (w.alloc o) := (Chg.refl F w).alloc o

/-- What the append leaves, from the world that it finds on. -/
theorem push_append (w2 : World) (v : Value) (hs : List Dbt) (d : Dbt) (hS : SliceAt w2 v 2 hs.length (flat hs)) (hl : hs.length < 1000000000) :
    ∃ v' w', (Builtin.append_ #[51, 51] 51 #[v, .slice (some ⟨w2.heap.size, 0, none⟩) 1 1]).run Try.prog (w2.alloc (.cells #[.string d.1, .int .u64 d.2] 68)).drew = .ok v' w' ∧
      (SliceAt w' v' 2 (hs.length + 1) (flat (hs ++ [d])) ∧ Chg (fun k => v.ownBlock = some k) w2 w' ∧
      ((∃ g off cap, v = .slice (some ⟨g, off, none⟩) hs.length cap ∧ v' = .slice (some ⟨g, off, none⟩) (hs.length + 1) cap) ∨ ∃ g cap, v' = .slice (some ⟨g, 0, none⟩) (hs.length + 1) cap ∧ w2.heap.size ≤ g)) := by
  obtain ⟨i0, hi, hz0, hz1, hz2⟩ := info_parts info68
  have hS' : SliceAt (w2.alloc (.cells #[.string d.1, .int .u64 d.2] 68)).drew v 2 hs.length (flat hs) := hS.kept (F := fun _ => False) ((chg_alloc _ _ _).drew) (fun _ _ x => x)
  obtain ⟨v', w', hrun, r1, r2, r3⟩ := run_append_slice (P := Try.prog) _ 51 51 68 i0 _ 2 24 Try.underlying51 hi hz0 hz1 hz2 rfl (by decide) v hs.length (flat hs) hS' ⟨w2.heap.size, 0, none⟩ 1 1 [.string d.1, .int .u64 d.2] (by decide) rfl
    (by
      intro j u hu
      rw [Addr.add_lit]
      show (w2.alloc _).cell? _ = _
      rw [cell_new rfl, Nat.zero_add]
      simpa using hu)
    (by intro u hu; simp at hu; rcases hu with rfl | rfl <;> rfl) (by unfold maxLen; omega) (by omega)
  refine ⟨v', w', hrun, ?_, ?_, ?_⟩
  · rw [flat_append]; exact r1
  · exact (((Chg.refl (fun k => v.ownBlock = some k) w2).alloc _).drew).tr r2
  · rcases r3 with h | ⟨g, cap, h1, h2⟩
    · exact .inl h
    · exact .inr ⟨g, cap, h1, Nat.le_trans (by simp) h2⟩

theorem push_calls {w : World} {lb : Nat} {D : List Nat} {hs : List Dbt} (h : DoubtsAt w lb D hs) (d : Dbt) (hn : ∀ x ∈ hs, x.1 ≠ d.1) (hl : hs.length < 1000000000) :
    Calls Try.prog 61 #[.pointer (some ⟨lb, 0, none⟩), .iface 68 (.agg #[.string d.1, .int .u64 d.2])] w fun e w' => e = .returned (.tuple #[]) ∧
      ∃ hb cap pb, DL w' lb hb cap pb (hs ++ [d]) ∧ (∀ k, k = hb ∨ k = pb → k ∈ D ∨ w.heap.size ≤ k) ∧ Chg (fun k => k = lb ∨ k ∈ D) w w' ∧ KeepS lb (fun o => o = 0 ∨ o = 1) w w' := by
  rcases h with ⟨rfl, rfl, c0, c1, f0, f1⟩ | ⟨hb, cap, pb, rfl, h⟩
  · -- never used yet
    have hlbs : lb < w.heap.size := World.block_lt_of_cell? w _ c0
    generalize hw1 : ((w.setCell ⟨lb, 1, none⟩ (.map (some (w.heap.size + 1)))).alloc (.cells #[.string d.1, .int .u64 d.2] 68)).alloc (.map #[] 0) = w1
    have hsz1 : w1.heap.size = w.heap.size + 2 := by rw [← hw1]; simp [World.setCell]
    have hc1 : Chg (fun k => k = lb) w w1 := by
      rw [← hw1]
      exact (((Chg.refl (fun k => k = lb) w).setCell (a := ⟨lb, 1, none⟩) (fun _ => rfl) _).alloc _).alloc _
    have hk1 : KeepS lb (fun o => o = 1) w w1 := by
      rw [← hw1]
      exact (((KeepS.refl lb (fun o => o = 1) w).setCell (a := ⟨lb, 1, none⟩) (fun _ _ => rfl) _).alloc (by simpa [World.setCell] using hlbs) _).alloc (by simp [World.setCell]; omega) _
    have hmap : w1.heap[w.heap.size + 1]? = some (.map #[] 0) := by
      rw [← hw1]
      have e : w.heap.size + 1 = ((w.setCell ⟨lb, 1, none⟩ (.map (some (w.heap.size + 1)))).alloc (.cells #[.string d.1, .int .u64 d.2] 68)).heap.size := by simp [World.setCell]
      conv => lhs; rhs; rw [e]
      exact (MapKept.heap_alloc _ _).1
    have hnew0 : w1.cell? ⟨w.heap.size, 0, none⟩ = some (.string d.1) := by
      rw [← hw1, World.cell?_alloc_past _ _ _ (by simp [World.setCell]), cell_new (by rw [size_setCell])]; rfl
    have hnew1 : w1.cell? ⟨w.heap.size, 1, none⟩ = some (.int .u64 d.2) := by
      rw [← hw1, World.cell?_alloc_past _ _ _ (by simp [World.setCell]), cell_new (by rw [size_setCell])]; rfl
    have hlb1 : w1.cell? ⟨lb, 1, none⟩ = some (.map (some (w.heap.size + 1))) := by
      rw [← hw1, World.cell?_alloc_past _ _ _ (by simp [World.setCell]; omega), World.cell?_alloc_past _ _ _ (by simpa [World.setCell] using hlbs)]
      exact World.cell?_setCell_same _ _ _ c1
    have R0 : Rep natV #[] 0 (fun _ => none) := ⟨MapKept.stamped_empty 0, by simp, by simp⟩
    obtain ⟨es2, clock2, hup, R2, hs2⟩ := R0.store (w := w1.drew) (b := w.heap.size + 1) (P := Try.prog) (t := 42) (kt := 9) (et := 3) hmap Try.underlying42 Try.underlying9 d.1 0
    generalize hw2 : setBlock w1.drew (w.heap.size + 1) (.map es2 clock2) = w2 at hup
    have hc2 : Chg (fun k => k = w.heap.size + 1) w1 w2 := by rw [← hw2]; exact ((Chg.refl (fun k => k = w.heap.size + 1) w1).drew).setBlock (fun _ => rfl) _
    have hsz2 : w2.heap.size = w.heap.size + 2 := by rw [← hw2, size_setBlock, ← hsz1]; rfl
    have hbk2 : w2.heap[w.heap.size + 1]? = some (.map es2 clock2) := by rw [← hw2]; exact heap_setBlock (w := w1.drew) (by show w.heap.size + 1 < w1.heap.size; omega) _
    have hlb1s : lb < w1.heap.size := by omega
    have hk2 : KeepS lb (fun o => o = 1) w w2 := hk1.chg hc2 hlb1s (by omega)
    have hap := push_append w2 (.slice none 0 0) [] d (.inl ⟨rfl, rfl, rfl⟩) (by decide)
    refine (push_walk_nil lb 0 0 none d.1 d.2 w w1 w2 _ c1 f1 hlbs hw1.symm ((hk1.cell 0 (by omega)).trans c0) hlb1 hnew0 hup ((hk2.cell 0 (by omega)).trans c0) (hc2.cell hnew0 (by show ¬ w.heap.size = w.heap.size + 1; omega)) (hc2.cell hnew1 (by show ¬ w.heap.size = w.heap.size + 1; omega)) (by omega) hap ?_).mono ?_
    · rintro v' w' ⟨hs', hc', hor⟩
      obtain ⟨a', c', rfl⟩ := hs'.len
      refine ⟨a', c', rfl, ?_, ?_⟩
      · exact (hc'.cells (by omega) (by simp [Value.ownBlock]) 0).trans ((hk2.cell 0 (by omega)).trans c0)
      · exact (hc'.frozens (by omega) (by simp [Value.ownBlock]) 0).trans ((hk2.frozen 0).trans f0)
    rintro e w' ⟨rfl, v', w3, ⟨hS3, hc3, hor⟩, rfl⟩
    refine ⟨rfl, ?_⟩
    rcases hor with ⟨g, off, cap, h', _⟩ | ⟨g, cap, rfl, hg⟩
    · simp at h'
    have hlb2s : lb < w2.heap.size := by omega
    have hlb3s : lb < w3.heap.size := Nat.lt_of_lt_of_le hlb2s hc3.size
    have hk3 : KeepS lb (fun o => o = 1) w w3 := hk2.chg hc3 hlb2s (by simp [Value.ownBlock])
    have hgl : g ≠ lb := by omega
    have hcs : Chg (fun k => k = lb) w3 (w3.setCell ⟨lb, 0, none⟩ (.slice (some ⟨g, 0, none⟩) (0 + 1) cap)) := (Chg.refl (fun k => k = lb) w3).setCell (a := ⟨lb, 0, none⟩) (fun _ => rfl) _
    have hk4 : KeepS lb (fun o => o = 0 ∨ o = 1) w (w3.setCell ⟨lb, 0, none⟩ (.slice (some ⟨g, 0, none⟩) (0 + 1) cap)) := (hk3.mono (fun o x => .inr x)).setCell (a := ⟨lb, 0, none⟩) (fun _ _ => .inl rfl) _
    rcases hS3 with ⟨h', _⟩ | ⟨g', off', cap', h', hgs, hcm, hrow⟩
    · simp at h'
    simp only [Value.slice.injEq, Option.some.injEq, Addr.mk.injEq, and_true, true_and] at h'
    obtain ⟨⟨rfl, rfl⟩, rfl⟩ := h'
    have hmap3 : w3.heap[w.heap.size + 1]? = some (.map es2 clock2) := (hc3.block _ (by omega) (by simp [Value.ownBlock])).trans hbk2
    have hmap4 := (hcs.block (w.heap.size + 1) (by have := hc3.size; omega) (by omega)).trans hmap3
    refine ⟨g, cap, w.heap.size + 1, ⟨?_, ?_, ?_, ?_, ?_, ?_, ?_, hcm, ?_, ?_, ?_⟩, ?_, ?_, hk4⟩
    · exact World.cell?_setCell_same _ _ _ ((hk3.cell 0 (by omega)).trans c0)
    · rw [World.cell?_setCell_other _ _ _ _ (by simp)]
      exact (hc3.cells hlb2s (by simp [Value.ownBlock]) 1).trans ((hc2.cells hlb1s (by omega) 1).trans hlb1)
    · exact (hk4.frozen 0).trans f0
    · exact (hk4.frozen 1).trans f1
    · omega
    · omega
    · rw [size_setCell]; exact hgs
    · exact hrow.kept hcs hgs hgl
    · simp
    · exact ⟨_, ⟨es2, clock2, hmap4, R2, by rw [hs2]; rfl⟩, Good.push (hs := []) (pl := fun _ => none) (by intro k i; simp) d rfl⟩
    · rintro k (rfl | rfl)
      · exact .inr (by omega)
      · exact .inr (by omega)
    · exact (((hc1.mono (G := fun k => k = lb ∨ k ∈ []) (fun k _ e => .inl e)).trans hc2 (fun k hk e => by omega)).trans hc3 (fun k _ e => by simp [Value.ownBlock] at e)).trans hcs (fun k _ e => .inl e)
  · -- in use
    have hlbs : lb < w.heap.size := World.block_lt_of_cell? w _ h.c0
    obtain ⟨pl, ⟨es, clock, hbk, R, hsz⟩, hgood⟩ := h.map
    have hpbs : pb < w.heap.size := (Array.getElem?_eq_some_iff.1 hbk).1
    have hlt := h.lt
    have hpn : pl d.1 = none := by
      cases hp : pl d.1 with
      | none => rfl
      | some i =>
        obtain ⟨x, hx, hx1⟩ := (hgood _ _).1 hp
        exact absurd hx1 (hn x (List.mem_of_getElem? hx))
    generalize hw1 : w.alloc (.cells #[.string d.1, .int .u64 d.2] 68) = w1
    have hsz1 : w1.heap.size = w.heap.size + 1 := by rw [← hw1]; simp
    have hc1 : Chg (fun _ => False) w w1 := by rw [← hw1]; exact chg_alloc _ _ _
    have hk1 : KeepS lb (fun _ => False) w w1 := (KeepS.refl _ _ _).chg hc1 hlbs (fun x => x)
    have hnew0 : w1.cell? ⟨w.heap.size, 0, none⟩ = some (.string d.1) := by rw [← hw1, cell_new rfl]; rfl
    have hnew1 : w1.cell? ⟨w.heap.size, 1, none⟩ = some (.int .u64 d.2) := by rw [← hw1, cell_new rfl]; rfl
    have hmap1 : w1.heap[pb]? = some (.map es clock) := (hc1.block pb hpbs (fun x => x)).trans hbk
    obtain ⟨es2, clock2, hup, R2, hs2⟩ := R.store (w := w1.drew) (b := pb) (P := Try.prog) (t := 42) (kt := 9) (et := 3) hmap1 Try.underlying42 Try.underlying9 d.1 hs.length
    generalize hw2 : setBlock w1.drew pb (.map es2 clock2) = w2 at hup
    have hc2 : Chg (fun k => k = pb) w1 w2 := by rw [← hw2]; exact ((Chg.refl (fun k => k = pb) w1).drew).setBlock (fun _ => rfl) _
    have hsz2 : w2.heap.size = w.heap.size + 1 := by rw [← hw2, size_setBlock, ← hsz1]; rfl
    have hbk2 : w2.heap[pb]? = some (.map es2 clock2) := by rw [← hw2]; exact heap_setBlock (w := w1.drew) (by show pb < w1.heap.size; omega) _
    have hk2 : KeepS lb (fun _ => False) w w2 := hk1.chg hc2 (by omega) h.nelb
    have hS2 : SliceAt w2 (.slice (some ⟨hb, 0, none⟩) hs.length cap) 2 hs.length (flat hs) := .inr ⟨hb, 0, cap, rfl, by omega, h.capm, (h.row.kept hc1 hlt (fun x => x)).kept hc2 (by omega) h.nep⟩
    have hap := push_append w2 _ hs d hS2 hl
    refine (push_walk_live lb pb hs.length cap _ d.1 d.2 w w1 w2 _ h.c1 hlbs hw1.symm ((hk1.cell 0 (fun x => x)).trans h.c0) ((hk1.cell 1 (fun x => x)).trans h.c1) hnew0 hup ((hk2.cell 0 (fun x => x)).trans h.c0) (hc2.cell hnew0 (by show ¬ w.heap.size = pb; omega)) (hc2.cell hnew1 (by show ¬ w.heap.size = pb; omega)) (by omega) hap ?_).mono ?_
    · rintro v' w' ⟨hs', hc', hor⟩
      obtain ⟨a', c', rfl⟩ := hs'.len
      refine ⟨a', c', rfl, ?_, ?_⟩
      · exact (hc'.cells (by omega) (by simp [Value.ownBlock]; exact Ne.symm h.ne) 0).trans ((hk2.cell 0 (fun x => x)).trans h.c0)
      · exact (hc'.frozens (by omega) (by simp [Value.ownBlock]; exact Ne.symm h.ne) 0).trans ((hk2.frozen 0).trans h.f0)
    rintro e w' ⟨rfl, v', w3, ⟨hS3, hc3, hor⟩, rfl⟩
    refine ⟨rfl, ?_⟩
    have hform : ∃ g cap', v' = .slice (some ⟨g, 0, none⟩) (hs.length + 1) cap' ∧ (g = hb ∨ w2.heap.size ≤ g) := by
      rcases hor with ⟨g, off, cap', h', h''⟩ | ⟨g, cap', h', hg⟩
      · simp only [Value.slice.injEq, Option.some.injEq, Addr.mk.injEq, and_true, true_and] at h'
        obtain ⟨⟨rfl, rfl⟩, rfl⟩ := h'
        exact ⟨hb, cap, h'', .inl rfl⟩
      · exact ⟨g, cap', h', .inr hg⟩
    obtain ⟨g, cap', rfl, hgor⟩ := hform
    have hlb2s : lb < w2.heap.size := by omega
    have hnF : ¬ (Value.slice (some ⟨hb, 0, none⟩) hs.length cap).ownBlock = some lb := by simp [Value.ownBlock]; exact Ne.symm h.ne
    have hk3 : KeepS lb (fun _ => False) w w3 := hk2.chg hc3 hlb2s hnF
    have hgl : g ≠ lb := by
      rcases hgor with rfl | hg
      · exact Ne.symm h.ne
      · omega
    have hgp : g ≠ pb := by
      rcases hgor with rfl | hg
      · exact h.nep
      · omega
    have hcs : Chg (fun k => k = lb) w3 (w3.setCell ⟨lb, 0, none⟩ (.slice (some ⟨g, 0, none⟩) (hs.length + 1) cap')) := (Chg.refl (fun k => k = lb) w3).setCell (a := ⟨lb, 0, none⟩) (fun _ => rfl) _
    have hk4 : KeepS lb (fun o => o = 0 ∨ o = 1) w (w3.setCell ⟨lb, 0, none⟩ (.slice (some ⟨g, 0, none⟩) (hs.length + 1) cap')) := (hk3.mono (fun o x => x.elim)).setCell (a := ⟨lb, 0, none⟩) (fun _ _ => .inl rfl) _
    rcases hS3 with ⟨h', _⟩ | ⟨g', off', cap'', h', hgs, hcm, hrow⟩
    · simp at h'
    simp only [Value.slice.injEq, Option.some.injEq, Addr.mk.injEq, and_true, true_and] at h'
    obtain ⟨⟨rfl, rfl⟩, rfl⟩ := h'
    have hmap3 : w3.heap[pb]? = some (.map es2 clock2) := (hc3.block _ (by omega) (by simp [Value.ownBlock]; exact h.nep)).trans hbk2
    have hmap4 := (hcs.block pb (by have := hc3.size; omega) (Ne.symm h.nelb)).trans hmap3
    have hlen : (hs ++ [d]).length = hs.length + 1 := by simp
    refine ⟨g, cap', pb, ⟨?_, ?_, ?_, ?_, Ne.symm hgl, hgp, ?_, hcm, ?_, ?_, ?_⟩, ?_, ?_, hk4⟩
    · rw [hlen]; exact World.cell?_setCell_same _ _ _ ((hk3.cell 0 (fun x => x)).trans h.c0)
    · rw [World.cell?_setCell_other _ _ _ _ (by simp)]
      exact (hk3.cell 1 (fun x => x)).trans h.c1
    · exact (hk4.frozen 0).trans h.f0
    · exact (hk4.frozen 1).trans h.f1
    · rw [size_setCell]; exact hgs
    · rw [hlen]; exact hrow.kept hcs hgs hgl
    · rw [hlen]; omega
    · exact ⟨_, ⟨es2, clock2, hmap4, R2, by rw [hs2, hpn, hlen, hsz]; rfl⟩, hgood.push d hpn⟩
    · rintro k (rfl | rfl)
      · rcases hgor with rfl | hg
        · exact .inl (by simp)
        · exact .inr (by omega)
      · exact .inl (by simp)
    · exact (((hc1.mono (G := fun k => k = lb ∨ k ∈ [hb, pb]) (fun k _ e => e.elim)).trans hc2 (fun k _ e => .inr (by simp [e]))).trans hc3 (fun k _ e => .inr (by simp [Value.ownBlock] at e; simp [e]))).trans hcs (fun k _ e => .inl e)
end Go.Proofs.Qxb6616074a
