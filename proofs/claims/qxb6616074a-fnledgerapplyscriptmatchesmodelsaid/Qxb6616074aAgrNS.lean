/-
  OWN TEXT. txnAgrees, walked.
-/
import Derived.Test.Qxb6616074aAgr
namespace Go.Proofs.Qxb6616074a
open Go.RowKit Go.MapKept Go.ChangeMaps
set_option linter.unusedSimpArgs false
set_option maxRecDepth 100000 in
set_option maxHeartbeats 4000000 in
theorem agrees_ns {w : World} {lb db ub ab cb : Nat} {t : ByteArray} {o uo : Option Int} {ci : Nat} {ec : EntD} (h : Ans w lb ab cb t o uo none (some (ci, ec)))
    (hdl : ∀ wq, Chg (fun _ => False) w wq → (Instr.lookup 27 (.map (some db)) (.string t) true).run Try.prog wq = .ok (.tuple #[.int .u64 (o.getD 0), .bool o.isSome]) wq)
    (hul : ∀ wq, Chg (fun _ => False) w wq → (Instr.lookup 27 (.map (some ub)) (.string t) true).run Try.prog wq = .ok (.tuple #[.int .u64 (uo.getD 0), .bool uo.isSome]) wq)
    (vc : ∃ N g1 o1 c1 g2 o2 c2, N < 2000000 ∧ ci < N ∧ ∀ wq, Chg (fun _ => False) w wq → wq.cell? ⟨cb, 1, none⟩ = some (.slice (some ⟨g1, o1, none⟩) N c1) ∧ wq.cell? ⟨cb, 2, none⟩ = some (.slice (some ⟨g2, o2, none⟩) N c2) ∧ wq.cell? ⟨g1, o1 + ci, none⟩ = some (.int .u64 ec.2.2) ∧ wq.cell? ⟨g2, o2 + ci, none⟩ = some (.int .u8 ec.1)) :
    Calls Try.prog 20 #[.pointer (some ⟨lb, 0, none⟩), .string t, .map (some db), .map (some ub), .pointer (some ⟨ab, 0, none⟩), .pointer (some ⟨cb, 0, none⟩)] w (LkP w (.bool true)) := by
  have d0 := hdl w (Chg.refl _ _)
  have u0 := hul w (Chg.refl _ _)
  obtain ⟨Nc, gc1, oc1, cc1, gc2, oc2, cc2, hNc, hic, hvc⟩ := vc
  have hic0 : (0 : Int) ≤ (ci : Int) := by omega
  have hic1 : (ci : Int) < (Nc : Int) := by omega
  go_enter Try.func20, Try.ntmps20
  go_wp2_with fail
  refine (h.get w (Chg.refl _ _)).mono ?_
  rintro e w0 ⟨rfl, hw⟩
  subst hw
  go_wp2_with fail
  refine (h.un w0 (Chg.refl _ _)).mono ?_
  rintro e w1 ⟨rfl, hw⟩
  subst hw
  go_wp2_with fail
  refine (h.gab w1 (Chg.refl _ _)).mono ?_
  simp only [Option.map_some, Option.map_none, Option.getD_some, Option.getD_none, Option.isSome_some, Option.isSome_none]
  rintro e w2 ⟨rfl, hC2⟩
  go_wp2_with fail
  refine (h.ra w2 hC2).mono ?_
  simp only [Option.map_some, Option.map_none, Option.getD_some, Option.getD_none, Option.isSome_some, Option.isSome_none]
  rintro e w3 ⟨rfl, hw⟩
  subst hw
  go_wp2_with fail
  refine (h.gcm w3 hC2).mono ?_
  simp only [Option.map_some, Option.map_none, Option.getD_some, Option.getD_none, Option.isSome_some, Option.isSome_none]
  rintro e w4 ⟨rfl, hC4⟩
  have hC5 := hC2.tr hC4
  go_wp2_with fail
  refine (h.rc w4 hC5).mono ?_
  simp only [Option.map_some, Option.map_none, Option.getD_some, Option.getD_none, Option.isSome_some, Option.isSome_none]
  rintro e w5 ⟨rfl, hw⟩
  subst hw
  obtain ⟨xc1, xc2, xc3, xc4⟩ := hvc w5 hC5
  obtain ⟨st, sp, hout, heq⟩ := h.out w5 hC5
  clear h hdl hul d0 u0
  cases o with
  | some s =>
    simp only [Prod.mk.injEq] at heq
    obtain ⟨rfl, rfl⟩ := heq
    simp only [Option.getD_some, Option.isSome_some]
    go_wp2_with fail
    refine hout.mono ?_
    rintro e w6 ⟨rfl, hC6⟩
    go_wp2
    go_ret
    exact ⟨rfl, hC5.tr hC6⟩
  | none =>
    simp only [Option.getD_none, Option.isSome_none]
    cases uo with
    | some s =>
      simp only [Prod.mk.injEq] at heq
      obtain ⟨rfl, rfl⟩ := heq
      simp only [Option.getD_some, Option.isSome_some]
      go_wp2_with fail
      refine hout.mono ?_
      rintro e w6 ⟨rfl, hC6⟩
      go_wp2
      go_ret
      exact ⟨rfl, hC5.tr hC6⟩
    | none =>
      simp only [Prod.mk.injEq] at heq
      obtain ⟨rfl, rfl⟩ := heq
      simp only [Option.getD_none, Option.isSome_none]
      go_wp2_with fail
      refine hout.mono ?_
      rintro e w6 ⟨rfl, hC6⟩
      go_wp2
      go_ret
      exact ⟨rfl, hC5.tr hC6⟩
end Go.Proofs.Qxb6616074a
