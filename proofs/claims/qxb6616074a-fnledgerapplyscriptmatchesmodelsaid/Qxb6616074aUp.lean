/-
  OWN TEXT. container/heap.up, down over the heap of doubts.
-/
import Derived.Test.Qxb6616074aSwap
import Derived.WalkKit
namespace Go.Proofs.Qxb6616074a
open Go.RowKit Go.MapKept Go.ChangeMaps

section
variable {lb hb cap pb : Nat}

theorem upF_stop {f : Nat} {hs : List Dbt} {j : Nat} (h : (j - 1) / 2 = j ∨ lessF hs j ((j - 1) / 2) = false) : upF f hs j = hs := by
  cases f with
  | zero => rfl
  | succ f => simp only [upF]; rw [if_pos h]
theorem upF_go {f : Nat} {hs : List Dbt} {j : Nat} (h1 : (j - 1) / 2 ≠ j) (h2 : lessF hs j ((j - 1) / 2) = true) : upF (f + 1) hs j = upF f (swp hs ((j - 1) / 2) j) ((j - 1) / 2) := by
  simp only [upF]; rw [if_neg (by simp [h1, h2])]

set_option maxRecDepth 100000 in
set_option maxHeartbeats 1000000 in
theorem up_calls (w : World) (hs : List Dbt) (h : DL w lb hb cap pb hs) (j : Nat) (hj : j < hs.length) (F : Nat) (hF : j < F) :
    Calls Try.prog 38 #[.iface 80 (.pointer (some ⟨lb, 0, none⟩)), .int .i64 j] w fun e w' => e = .returned (.tuple #[]) ∧ DL w' lb hb cap pb (upF F hs j) ∧ Chg (fun k => k = hb ∨ k = pb) w w' := by
  have hsm := h.small
  go_enter Try.func38, Try.ntmps38
  go_wp2_with fail
  go_loopw [1] (fun jv wr => ∃ (k f : Nat) (hk : List Dbt), jv = .int .i64 k ∧ k < hs.length ∧ hk.length = hs.length ∧ DL wr lb hb cap pb hk ∧ Chg (fun k => k = hb ∨ k = pb) w wr ∧ Hid (upF F hs j = upF f hk k) ∧ k < f) (fun jv _ => (intOf jv).toNat)
  case atStart => exact ⟨j, F, hs, rfl, hj, rfl, h, Chg.refl _ _, rfl, hF⟩
  case round =>
    obtain ⟨k, f, hk, rfl, hkl, hlen, hD, hc, HE, hkf⟩ := hrel
    by_cases h0 : k = 0
    · subst h0
      go_wp2_with fail
      go_end0
      rw [upF_stop (j := 0) (.inl rfl)] at HE
      exact ⟨rfl, by rw [HE.out]; exact hD, hc⟩
    · obtain ⟨m, rfl⟩ : ∃ m, k = m + 1 := ⟨k - 1, by omega⟩
      have b0 : (0 : Int) ≤ (m : Int) := by omega
      have b1 : (m : Int) ≤ 1000000000 := by omega
      have hml := meth_less
      have hms := meth_swap
      have b2 : ((m : Int) / 2 == (m : Int) + 1) = false := beq_eq_false_iff_ne.2 (by omega)
      cases hle : lessF hk (m + 1) (m / 2) with
      | false =>
        have HL : Hid (lessF hk (m + 1) (m / 2) = false) := hle
        clear hle
        go_wp2_with fail
        refine (less_at hD _ _ (m + 1) (m / 2) (by omega) (by omega) (by omega) (by omega)).mono ?_
        rintro e w1 ⟨rfl, q, rfl⟩
        rw [HL.out]
        go_wp2_with fail
        go_end0
        rw [upF_stop (j := m + 1) (.inr (by simpa using HL.out))] at HE
        exact ⟨rfl, by rw [HE.out]; exact hD.drewN q, hc.drewN q⟩
      | true =>
        have HL : Hid (lessF hk (m + 1) (m / 2) = true) := hle
        clear hle
        go_wp2_with fail
        refine (less_at hD _ _ (m + 1) (m / 2) (by omega) (by omega) (by omega) (by omega)).mono ?_
        rintro e w1 ⟨rfl, q, rfl⟩
        rw [HL.out]
        go_wp2_with fail
        refine (swap_at (hD.drewN q) _ _ (m / 2) (m + 1) (by omega) (by omega) (by omega) (by omega) (by omega)).mono ?_
        rintro e w1 ⟨rfl, hD1, hc1⟩
        go_wp2_with fail
        go_roundw
        case rel =>
          obtain ⟨f', rfl⟩ : ∃ f', f = f' + 1 := ⟨f - 1, by omega⟩
          refine ⟨m / 2, f', swp hk (m / 2) (m + 1), by go_num, by omega, by rw [swp_length]; exact hlen, hD1, (hc.drewN q).tr hc1, ?_, by omega⟩
          exact HE.out.trans (upF_go (by simp; omega) (by simpa using HL.out))
        case measure => simp [intOf]; omega
end
end Go.Proofs.Qxb6616074a
