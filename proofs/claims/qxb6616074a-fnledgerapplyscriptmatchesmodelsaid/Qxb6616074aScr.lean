/-
  OWN TEXT. A script that came in, opened: its cells.
-/
import Derived.Test.Qxb6616074aTop
import Derived.ProofKit
import Derived.OpenShut
import Derived.ShutString
import Derived.ChangeOld
import Derived.Deep.Strs
namespace Go.Proofs.Qxb6616074a
open Go.ChangeShapes Go.WideShapes Go.ChangeAt Go.RowKit Go.Deep

theorem own : ownKnob Try.prog.godebug = none := by kernel_rfl
theorem laidOut : laidOutB Try.prog = true := by kernel_rfl
theorem cells30 : Try.prog.cellsOf 30 = 3 := by kernel_rfl
theorem cells5 : Try.prog.cellsOf 5 = 1 := by kernel_rfl
theorem cells9 : Try.prog.cellsOf 9 = 1 := by kernel_rfl
theorem cells28 : Try.prog.cellsOf 28 = 1 := by kernel_rfl
theorem struct30 : ∃ f0 f1 f2 : Field, Try.prog.underlying 30 = some (.struct #[f0, f1, f2]) ∧ f0.type = 5 ∧ f0.offset = 0 ∧ f1.type = 9 ∧ f1.offset = 1 ∧ f2.type = 28 ∧ f2.offset = 2 :=
  ⟨_, _, _, Try.underlying30, rfl, rfl, rfl, rfl, rfl, rfl⟩

theorem u64_le {x : Int} (h : (Lit.int .u64 x).wf = true) : x ≤ topU := by
  simp [Lit.wf, IntKind.min, IntKind.max, IntKind.signed, IntKind.bits] at h
  unfold topU
  omega

theorem scr_of_trod {H : Type} {enc : TypeId × Value → H} {W : World} {a : Option Addr} {len cap : Nat} {d : DataW H} {ps : List MemPlace} (h : DataW.Trod enc Try.prog W 0 (fun _ => true) true 22 (.slice a len cap) d ps) :
    ∃ (sb so : Nat) (es : Nat → EntD), ScrAt W a sb so len es ∧ (∀ i, i < len → (es i).2.2 ≤ topU) ∧ len ≤ maxLen := by
  obtain ⟨fuel, hf⟩ := h
  rcases open_slice Try.underlying22 hf with ⟨hcs, _⟩ | ⟨x, l, c, m, nn, D, Pl, hcs, _, hl, hm, hmm, _, hel⟩
  · simp [Value.cells] at hcs
    obtain ⟨rfl, rfl, rfl⟩ := hcs
    exact ⟨0, 0, fun _ => (0, ByteArray.empty, 0), ⟨fun h => by omega, fun i hi => by omega, fun i hi => by omega, fun i hi => by omega⟩, fun i hi => by omega, by unfold maxLen; omega⟩
  · simp [Value.cells] at hcs
    obtain ⟨rfl, rfl, rfl⟩ := hcs
    simp only [if_true] at hmm
    have hch : ∀ i, i < len → ∃ e : EntD, W.cell? (x.add (i * 3)) = some (.int .u8 e.1) ∧ W.cell? ((x.add (i * 3)).add 1) = some (.string e.2.1) ∧ W.cell? ((x.add (i * 3)).add 2) = some (.int .u64 e.2.2) ∧ e.2.2 ≤ topU := by
      intro i hi
      obtain ⟨cs', hc', ht'⟩ := hel i (by omega)
      rw [cells30] at hc'
      obtain ⟨_, hlen, hcell⟩ := World.cells?_some hc'
      obtain ⟨f0, f1, f2, hu, t0, o0, t1, o1, t2, o2⟩ := struct30
      obtain ⟨y0, y1, y2, n', _, _, g0, g1, g2⟩ := trod_struct3 hu ht'
      rw [t0, o0, cells5] at g0
      rw [t1, o1, cells9] at g1
      rw [t2, o2, cells28] at g2
      obtain ⟨kd, e0, _, _⟩ := DataW.trod_int Try.underlying5 g0
      obtain ⟨t, e1, _, _⟩ := DataW.trod_string Try.underlying9 g1
      obtain ⟨s, e2, _, ws⟩ := DataW.trod_int Try.underlying28 g2
      match cs', hlen with
      | [c0, c1, c2], _ =>
        simp at e0 e1 e2
        subst e0 e1 e2
        exact ⟨(kd, t, s), by have := hcell 0 (by omega); simpa [Addr.add] using this, by simpa using hcell 1 (by omega), by simpa using hcell 2 (by omega), u64_le ws⟩
    obtain ⟨es, hes⟩ := choose_lt hch
    obtain ⟨b, off, spot⟩ := x
    by_cases h0 : 0 < len
    · have hspot : spot = none := by
        have := (hes 0 h0).1
        simpa [Addr.add] using World.cell?_spot this
      subst hspot
      refine ⟨b, off, es, ⟨fun _ => rfl, fun i hi => ?_, fun i hi => ?_, fun i hi => ?_⟩, fun i hi => (hes i hi).2.2.2, by omega⟩
      · have := (hes i hi).1; rwa [Addr.add_lit] at this
      · have := (hes i hi).2.1; rwa [Addr.add_lit, Addr.add_lit] at this
      · have := (hes i hi).2.2.1; rwa [Addr.add_lit, Addr.add_lit] at this
    · exact ⟨0, 0, es, ⟨fun h => by omega, fun i hi => by omega, fun i hi => by omega, fun i hi => by omega⟩, fun i hi => by omega, by omega⟩
end Go.Proofs.Qxb6616074a
