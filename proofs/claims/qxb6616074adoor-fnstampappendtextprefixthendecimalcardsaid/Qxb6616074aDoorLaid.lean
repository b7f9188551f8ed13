/-
  OWN TEXT. What the listed variables give the walks; the door's own heap meets the condition; the argument's slice as the walk is told of it.
-/
import Derived.Test.Qxb6616074aDoorRows
import Derived.Test.Qxb6616074aDoorLaw4
import Derived.ProofKit
import Derived.LaidMore
import Derived.LaidLaws
import Derived.LaidHandle
import Derived.OpenShut
import Derived.ChangeOld
import Derived.Stop.Joined
namespace Go.Proofs.Qxb6616074aDoor
open Go.ChangeShapes Go.WideShapes Go.ChangeAt Go.RowKit

theorem own : ownKnob Tryd.prog.godebug = none := by kernel_rfl
theorem laidOut : laidOutB Tryd.prog = true := by kernel_rfl

abbrev laid3 : List (String × DataW Unit) := Rows.fnStampAppendTextPrefixThenDecimalRow.laid

theorem gPow : Tryd.prog.globalNamed powName = some 0 := by kernel_rfl
theorem tPow : (Tryd.prog.globals[0]?).map (·.type) = some 46 := by kernel_rfl
theorem powD : (Rows.laid_internal_strconv_uint64pow10 : DataW Unit) = Lib.tabData .u64 Lib.pow10Tab := by kernel_rfl

set_option maxRecDepth 100000 in
theorem door_met (os : Os) (args : Array Value) : laidMetH Tryd.prog laid3 ((World.doorLaid Tryd.prog 400 os).forCall (fun _ _ => 0) ⟨#[], args, []⟩).memory :=
  laidMetH_of_parts3 (fuel := 8) (laidMet_of_run' 8 (by kernel_rfl) (by kernel_rfl)) (by kernel_rfl) (by kernel_rfl)

theorem tab_of_laid {W : World} (h : laidMetH Tryd.prog laid3 W) : Tab W := by
  rw [MakeChecks.laidMetH_plain _ _ _ (by kernel_rfl)] at h
  obtain ⟨ps, ⟨g0, t0, cs0, f0, p0, q0, hg0, ht0, hv0, hd0, ⟨g1, t1, cs1, f1, p1, q1, hg1, ht1, hv1, hd1, ⟨g2, t2, cs2, f2, p2, q2, hg2, ht2, hv2, hd2, _, _⟩, _⟩, _⟩, _, _⟩ := h
  obtain rfl := Option.some.inj (gPow.symm.trans hg2)
  obtain rfl := Option.some.inj (tPow.symm.trans ht2)
  rw [powD] at hd2
  show Lib.TabIs _ _ _ _ _
  unfold Lib.TabIs
  refine Eq.trans (show World.var? Tryd.prog W powName = _ from hv2) ?_
  rw [← Lib.cells_of_tab (n := 20) (e := 22) Tryd.underlying46 Tryd.underlying22 (by kernel_rfl) (by kernel_rfl) hd2]

theorem u64_nat {s : Int} (h : (Lit.int .u64 s).wf = true) : ∃ u : Nat, s = (u : Int) ∧ u < 18446744073709551616 := by
  simp [Lit.wf, IntKind.min, IntKind.max, IntKind.signed, IntKind.bits] at h
  exact ⟨s.toNat, by omega, by omega⟩

/-- A slice of bytes that came in, as the walk is told of it. -/
theorem in_of_trod {H : Type} {enc : TypeId × Value → H} {W : World} {sp : Nat → Bool} {held : Bool} {a0 : Option Addr} {len0 cap0 fuel : Nat} {d : DataW H} {p : List MemPlace}
    (hf : DataW.trod enc Tryd.prog W 0 sp held fuel 23 (Value.slice a0 len0 cap0).cells.toList = some (d, p)) : ∃ f, In W a0 len0 cap0 f := by
  rcases open_ints Tryd.underlying23 Tryd.underlying5 (by kernel_rfl) hf with ⟨hcs, _⟩ | ⟨x, l, c, zs, hcs, _, hl, hm, hz, _, hcell, hwz⟩
  · simp [Value.cells] at hcs
    obtain ⟨rfl, rfl, rfl⟩ := hcs
    exact ⟨fun _ => 0, fun _ => ⟨rfl, rfl⟩, fun h => by omega⟩
  · simp [Value.cells] at hcs
    obtain ⟨rfl, rfl, rfl⟩ := hcs
    refine ⟨fun i => zs.getD i 0, fun h => by simp at h, fun h0 => ?_⟩
    have hz' : len0 ≤ zs.length := by split at hz <;> omega
    obtain ⟨b, off, spot⟩ := x
    have hc := hcell 0 (by omega)
    have hspot : spot = none := by simpa [Addr.add] using World.cell?_spot hc
    subst hspot
    refine ⟨b, off, rfl, fun _ => rfl, fun i hi => ?_⟩
    have := hcell i (by omega)
    rwa [Addr.add_lit] at this
end Go.Proofs.Qxb6616074aDoor
