/-
  OWN TEXT. (*doubts).Pop.
-/
import Derived.Test.Qxb6616074aRows
import Derived.Test.Qxb6616074aDefs
import Derived.Deep.RegionLaw
import Derived.Deep.RegionHeld3
namespace Go.Proofs.Qxb6616074a
open Go.RowKit Go.MapKept Go.ChangeMaps

/-- 'delete(m, k)' as one step of a region that draws its order. -/
theorem step_delete {P : Program} {ops : Array Oper} {o : Oper} {a : Act} {w : World} {K : Act → World → Prop} {Q : Exit → Act → World → Prop} {E : Prop}
    (hg : o.guard = none) (m x : Operand) (t k : TypeId) (hop : o.op = Op.call { callee := Callee.builtin Builtin.delete, args := #[m, x], argTypes := #[t, k] })
    (mv xv : Value) (hm : a.eval m = mv) (hx : a.eval x = xv) (w' : World) (hrun : (Builtin.delete_ #[t, k] o.type #[mv, xv]).run P w = .ok (.tuple #[]) w')
    (hK : K (a.put o.dst (.tuple #[])) w') :
    if Region.wanted o (yielded ops a.tmps) = true then Oper.wp P o a w K Q else E := by
  have hw : Region.wanted o (yielded ops a.tmps) = true := by simp [Region.wanted, hg]
  rw [if_pos hw]
  unfold Oper.wp
  simp [execOp, hop, resolve, invoke, builtin, hm, hx, hrun, Result.andThen]
  exact hK

set_option maxRecDepth 100000 in
set_option maxHeartbeats 4000000 in
theorem pop_walk (lb hb pb m c : Nat) (t : ByteArray) (s : Int) (w w1 w2 : World)
    (h0 : w.cell? ⟨lb, 0, none⟩ = some (.slice (some ⟨hb, 0, none⟩) (m + 1) c))
    (f0 : w.frozen? ⟨lb, 0, none⟩ = false) 
    (hm : m ≤ 1000000000) (hc : m + 1 ≤ c) (hlb : lb < w.heap.size) (hhb : hb < w.heap.size) (hne : lb ≠ hb)
    (c0 : w.cell? ⟨hb, m * 2, none⟩ = some (.string t)) (c1 : w.cell? ⟨hb, m * 2 + 1, none⟩ = some (.int .u64 s)) 
    (g0 : w.frozen? ⟨hb, m * 2, none⟩ = false) (g1 : w.frozen? ⟨hb, m * 2 + 1, none⟩ = false)
    (hw1 : Hid (w1 = ((((w.setCell ⟨hb, m * 2, none⟩ (.string { data := #[] })).setCell ⟨hb, m * 2 + 1, none⟩ (.int .u64 0)).setCell ⟨lb, 0, none⟩ (.slice (some ⟨hb, 0, none⟩) m c)).alloc (.cells #[.string t, .int .u64 s] 68))))
    (d1 : w1.cell? ⟨lb, 1, none⟩ = some (.map (some pb))) (d2 : w1.cell? ⟨w.heap.size, 0, none⟩ = some (.string t))
    (hdel : (Builtin.delete_ #[42, 9] 0 #[.map (some pb), .string t]).run Try.prog w1.drew = .ok (.tuple #[]) w2)
    (e0 : w2.cell? ⟨w.heap.size, 0, none⟩ = some (.string t)) (e1 : w2.cell? ⟨w.heap.size, 1, none⟩ = some (.int .u64 s)) :
    Calls Try.prog 60 #[.pointer (some ⟨lb, 0, none⟩)] w fun e w' => e = .returned (.iface 68 (.agg #[.string t, .int .u64 s])) ∧ w' = w2 := by
  go_enter Try.func60, Try.ntmps60
  go_wp2
  rw [← hw1.out]
  clear hw1 c0 c1 g0 g1 h0 f0
  go_region_law (refine step_delete rfl (.tmp 37) (.tmp 39) 42 9 rfl (.map (some pb)) (.string t) (by simp [Act.eval]) (by simp [Act.eval]) w2 hdel ?_)
  all_goals
    go_wp2
    go_ret
    exact ⟨rfl, rfl⟩

theorem pop_calls {w : World} {lb hb cap pb : Nat} {hs : List Dbt} (h : DL w lb hb cap pb hs) {m : Nat} (hm : hs.length = m + 1) {d : Dbt} (hd : hs[m]? = some d) :
    Calls Try.prog 60 #[.pointer (some ⟨lb, 0, none⟩)] w fun e w' => e = .returned (.iface 68 (.agg #[.string d.1, .int .u64 d.2])) ∧ DL w' lb hb cap pb (hs.take m) ∧ Chg (fun k => k = lb ∨ k = hb ∨ k = pb) w w' ∧ KeepS lb (fun o => o = 0) w w' := by
  have hsm := h.small
  obtain ⟨c0, c1, g0, g1⟩ := h.cells hd
  have hlbs : lb < w.heap.size := World.block_lt_of_cell? w _ h.c0
  have hle := h.row.le
  obtain ⟨pl, ⟨es, clock, hbk, R, hsz⟩, hgood⟩ := h.map
  have hpbs : pb < w.heap.size := (Array.getElem?_eq_some_iff.1 hbk).1
  have hgp := hgood.pop hm hd
  have hpd : pl d.1 = some m := (hgood _ _).2 ⟨_, hd, rfl⟩
  have hc0 := h.c0
  rw [hm] at hc0
  have hrow := (((h.row.store (m * 2) (by omega) (.string { data := #[] })).store (m * 2 + 1) (by omega) (.int .u64 0)).head m (by omega))
  simp only [Nat.zero_add] at hrow
  have hfl : (((flat hs).set (m * 2) (.string { data := #[] })).set (m * 2 + 1) (.int .u64 0)).take (m * 2) = flat (hs.take m) := by
    rw [flat_take, List.take_set_of_le (by omega), List.take_set_of_le (by omega)]
  rw [hfl] at hrow
  have htl : (hs.take m).length = m := by simp [hm]
  generalize hwa : (w.setCell ⟨hb, m * 2, none⟩ (.string { data := #[] })).setCell ⟨hb, m * 2 + 1, none⟩ (.int .u64 0) = wa at hrow
  have hca : Chg (fun k => k = hb) w wa := by
    rw [← hwa]
    exact ((Chg.refl (fun k => k = hb) w).setCell (a := ⟨hb, m * 2, none⟩) (fun _ => rfl) _).setCell (a := ⟨hb, m * 2 + 1, none⟩) (fun _ => rfl) _
  have hsza : wa.heap.size = w.heap.size := by rw [← hwa]; simp [World.setCell]
  generalize hw1 : (wa.setCell ⟨lb, 0, none⟩ (.slice (some ⟨hb, 0, none⟩) m cap)).alloc (.cells #[.string d.1, .int .u64 d.2] 68) = w1
  have hc1 : Chg (fun k => k = lb) wa w1 := by
    rw [← hw1]
    exact ((Chg.refl (fun k => k = lb) wa).setCell (a := ⟨lb, 0, none⟩) (fun _ => rfl) _).alloc _
  have hk1 : KeepS lb (fun o => o = 0) w w1 := by
    rw [← hw1]
    exact ((((KeepS.refl lb (fun o => o = 0) w).chg hca hlbs h.ne).setCell (a := ⟨lb, 0, none⟩) (fun _ _ => rfl) _).alloc (by simp [World.setCell, hsza, hlbs]) _)
  have hlba : lb < wa.heap.size := by omega
  have hnew0 : w1.cell? ⟨w.heap.size, 0, none⟩ = some (.string d.1) := by rw [← hw1, cell_new (by rw [size_setCell, hsza])]; rfl
  have hnew1 : w1.cell? ⟨w.heap.size, 1, none⟩ = some (.int .u64 d.2) := by rw [← hw1, cell_new (by rw [size_setCell, hsza])]; rfl
  have hlb0 : w1.cell? ⟨lb, 0, none⟩ = some (.slice (some ⟨hb, 0, none⟩) m cap) := by
    rw [← hw1, World.cell?_alloc_past _ _ _ (by simpa [World.setCell] using hlba)]
    exact World.cell?_setCell_same _ _ _ ((hca.cells hlbs h.ne 0).trans h.c0)
  have hpb1 : w1.heap[pb]? = some (.map es clock) := (hc1.block pb (by omega) (Ne.symm h.nelb)).trans ((hca.block pb hpbs (Ne.symm h.nep)).trans hbk)
  obtain ⟨es2, hdel, R2, hs2⟩ := R.drop (w := w1.drew) (b := pb) (P := Try.prog) (t := 42) (kt := 9) (et := 3) (ty := 0) hpb1 Try.underlying42 Try.underlying9 d.1
  generalize hw2 : setBlock w1.drew pb (.map es2 clock) = w2 at hdel
  have hsz1 : w1.heap.size = w.heap.size + 1 := by rw [← hw1]; simp [World.setCell, hsza]
  have hbk2 : w2.heap[pb]? = some (.map es2 clock) := by rw [← hw2]; exact heap_setBlock (w := w1.drew) (by show pb < w1.heap.size; omega) _
  have hc2 : Chg (fun k => k = pb) w1 w2 := by rw [← hw2]; exact ((Chg.refl (fun k => k = pb) w1).drew).setBlock (fun _ => rfl) _
  have hlb1s : lb < w1.heap.size := by omega
  have hk2 : KeepS lb (fun o => o = 0) w w2 := hk1.chg hc2 hlb1s h.nelb
  refine (pop_walk lb hb pb m cap d.1 d.2 w w1 w2 hc0 h.f0 (by omega) (by omega) hlbs h.lt h.ne c0 c1 g0 g1 (by rw [← hw1, ← hwa]; rfl) ((hk1.cell 1 (by omega)).trans h.c1) hnew0 hdel
    (hc2.cell hnew0 (by show ¬ w.heap.size = pb; omega)) (hc2.cell hnew1 (by show ¬ w.heap.size = pb; omega))).mono ?_
  rintro e w' ⟨rfl, rfl⟩
  refine ⟨rfl, ⟨?_, (hk2.cell 1 (by omega)).trans h.c1, (hk2.frozen 0).trans h.f0, (hk2.frozen 1).trans h.f1, h.ne, h.nep, ?_, h.capm, ?_, ?_, ?_⟩, ?_, hk2⟩
  · rw [htl]; exact (hc2.cells hlb1s h.nelb 0).trans hlb0
  · have := h.lt; have := hc2.size; omega
  · rw [htl]; exact (hrow.kept hc1 (by have := h.lt; omega) (Ne.symm h.ne)).kept hc2 (by have := h.lt; omega) h.nep
  · rw [htl]; omega
  · exact ⟨_, ⟨es2, clock, hbk2, R2, by rw [hs2, htl, hpd]; simp; omega⟩, hgp⟩
  · exact ((hca.mono (G := fun k => k = lb ∨ k = hb ∨ k = pb) (fun k _ e => .inr (.inl e))).trans hc1 (fun k _ e => .inl e)).trans hc2 (fun k _ e => .inr (.inr e))
end Go.Proofs.Qxb6616074a
