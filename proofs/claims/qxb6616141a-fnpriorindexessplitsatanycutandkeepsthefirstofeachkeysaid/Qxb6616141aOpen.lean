/-
  OWN TEXT. Lists of names that came in, opened: their cells.
-/
import Derived.Test.Qxb6616141aLaw6
import Derived.ProofKit
import Derived.OpenShut
import Derived.ShutString
import Derived.ChangeOld
import Derived.Deep.Strs
namespace Go.Proofs.Qxb6616141a
open Go.ChangeShapes Go.WideShapes Go.ChangeAt Go.RowKit Go.Deep

theorem own : ownKnob Try.prog.godebug = none := by kernel_rfl
theorem cells9 : Try.prog.cellsOf 9 = 1 := by kernel_rfl
theorem cells29 : Try.prog.cellsOf 29 = 1 := by kernel_rfl

/-- a slice of strings -/
theorem strs_of_trod {H : Type} {enc : TypeId × Value → H} {W : World} {cs : List Value} {x : DataW H × List MemPlace} {fuel : Nat} (h : DataW.trod enc Try.prog W 0 (fun _ => true) true fuel 29 cs = some x) :
    ∃ (a : Option Addr) (len cap sb so : Nat) (f : Nat → ByteArray), cs = [.slice a len cap] ∧ StrAt W a sb so len f ∧ (a = none → cap = 0) := by
  rcases open_strs Try.underlying29 Try.underlying9 cells9 h with ⟨hcs, _⟩ | ⟨a, len, cap, m, Sx, hcs, _, hl, hm, hmm, _, hel⟩
  · exact ⟨none, 0, 0, 0, 0, fun _ => ByteArray.empty, hcs, ⟨fun h => by omega, fun j hj => by omega⟩, fun _ => rfl⟩
  · simp only [if_true] at hmm
    obtain ⟨b, off, spot⟩ := a
    by_cases h0 : 0 < len
    · have hspot : spot = none := by
        have := (hel 0 (by omega)).1
        simpa [Addr.add] using World.cell?_spot this
      subst hspot
      refine ⟨some ⟨b, off, none⟩, len, cap, b, off, Sx, hcs, ⟨fun _ => rfl, fun j hj => ?_⟩, by simp⟩
      have := (hel j (by omega)).1
      rwa [Addr.add_lit] at this
    · exact ⟨_, len, cap, 0, 0, Sx, hcs, ⟨fun h => by omega, fun j hj => by omega⟩, by simp⟩

/-- a slice of slices of strings -/
theorem names_of_trod {H : Type} {enc : TypeId × Value → H} {W : World} {a : Option Addr} {len cap : Nat} {d : DataW H} {ps : List MemPlace} (h : DataW.Trod enc Try.prog W 0 (fun _ => true) true 22 (.slice a len cap) d ps) :
    ∃ (nb no : Nat) (A : Nat → Option Addr) (L C IB IQ : Nat → Nat) (F : Nat → Nat → ByteArray), NmAt W a nb no len A L C IB IQ F := by
  obtain ⟨fuel, hf⟩ := h
  rcases open_slice1 Try.underlying22 cells29 hf with ⟨hcs, _⟩ | ⟨x, l, c, m, nn, V, D, Pl, hcs, _, hl, hm, hmm, _, hel⟩
  · simp [Value.cells] at hcs
    obtain ⟨rfl, rfl, rfl⟩ := hcs
    exact ⟨0, 0, fun _ => none, fun _ => 0, fun _ => 0, fun _ => 0, fun _ => 0, fun _ _ => ByteArray.empty, ⟨fun h => by omega, fun i hi => by omega, fun i hi => by omega⟩⟩
  · simp [Value.cells] at hcs
    obtain ⟨rfl, rfl, rfl⟩ := hcs
    simp only [if_true] at hmm
    have each : ∀ i, i < len → ∃ q : Option Addr × Nat × Nat × Nat × Nat × (Nat → ByteArray), W.cell? (x.add i) = some (.slice q.1 q.2.1 q.2.2.1) ∧ StrAt W q.1 q.2.2.2.1 q.2.2.2.2.1 q.2.1 q.2.2.2.2.2 := fun i hi => by
      obtain ⟨hc, ht⟩ := hel i (by omega)
      obtain ⟨a', len', cap', sb, so, f, he, hS, _⟩ := strs_of_trod ht
      exact ⟨(a', len', cap', sb, so, f), by rw [hc]; simpa using he, hS⟩
    obtain ⟨Q, hQ⟩ := choose_lt each
    obtain ⟨b, off, spot⟩ := x
    by_cases h0 : 0 < len
    · have hspot : spot = none := by
        have := (hQ 0 h0).1
        simpa [Addr.add] using World.cell?_spot this
      subst hspot
      refine ⟨b, off, fun i => (Q i).1, fun i => (Q i).2.1, fun i => (Q i).2.2.1, fun i => (Q i).2.2.2.1, fun i => (Q i).2.2.2.2.1, fun i => (Q i).2.2.2.2.2, ⟨fun _ => rfl, fun i hi => ?_, fun i hi => (hQ i hi).2⟩⟩
      have := (hQ i hi).1
      rwa [Addr.add_lit] at this
    · exact ⟨0, 0, fun _ => none, fun _ => 0, fun _ => 0, fun _ => 0, fun _ => 0, fun _ _ => ByteArray.empty, ⟨fun h => by omega, fun i hi => by omega, fun i hi => by omega⟩⟩
end Go.Proofs.Qxb6616141a
