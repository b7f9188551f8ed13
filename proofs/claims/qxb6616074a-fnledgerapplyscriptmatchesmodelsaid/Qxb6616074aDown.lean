/-
  OWN TEXT. container/heap.down over the heap of doubts.
-/
import Derived.Test.Qxb6616074aUp
namespace Go.Proofs.Qxb6616074a
open Go.RowKit Go.MapKept Go.ChangeMaps

section
variable {lb hb cap pb : Nat}

theorem downF_stop {f : Nat} {hs : List Dbt} {n i : Nat} (h : n ≤ 2 * i + 1 ∨ lessF hs (pickF hs n i) i = false) : downF f hs n i = (hs, i) := by
  cases f with
  | zero => rfl
  | succ f => simp only [downF]; rw [if_pos h]
theorem downF_go {f : Nat} {hs : List Dbt} {n i : Nat} (h1 : 2 * i + 1 < n) (h2 : lessF hs (pickF hs n i) i = true) : downF (f + 1) hs n i = downF f (swp hs i (pickF hs n i)) n (pickF hs n i) := by
  simp only [downF]; rw [if_neg (by simp [h2]; omega)]

set_option maxRecDepth 100000 in
set_option maxHeartbeats 2000000 in
theorem down_calls (w : World) (hs : List Dbt) (h : DL w lb hb cap pb hs) (i n : Nat) (hi : i ≤ n) (hn : n ≤ hs.length) (F : Nat) (hF : n < F + i) :
    Calls Try.prog 39 #[.iface 80 (.pointer (some ⟨lb, 0, none⟩)), .int .i64 i, .int .i64 n] w fun e w' => e = .returned (.bool (decide (i < (downF F hs n i).2))) ∧ DL w' lb hb cap pb (downF F hs n i).1 ∧ Chg (fun k => k = hb ∨ k = pb) w w' := by
  have hsm := h.small
  go_enter Try.func39, Try.ntmps39
  go_wp2_with fail
  go_loopw [7] (fun iv wr => ∃ (k f : Nat) (hk : List Dbt), iv = .int .i64 k ∧ i ≤ k ∧ k ≤ n ∧ hk.length = hs.length ∧ DL wr lb hb cap pb hk ∧ Chg (fun k => k = hb ∨ k = pb) w wr ∧ Hid (downF F hs n i = downF f hk n k) ∧ n < f + k) (fun iv _ => n - (intOf iv).toNat)
  case atStart => exact ⟨i, F, hs, rfl, Nat.le_refl _, hi, rfl, h, Chg.refl _ _, rfl, hF⟩
  case round =>
    obtain ⟨k, f, hk, rfl, hik, hkn, hlen, hD, hc, HE, hkf⟩ := hrel
    have b0 : (0 : Int) ≤ (k : Int) := by omega
    have b1 : (k : Int) ≤ 1000000000 := by omega
    have hml := meth_less
    have hms := meth_swap
    by_cases h0 : n ≤ 2 * k + 1
    · have b2 : (n : Int) ≤ 2 * (k : Int) + 1 := by omega
      go_wp2_with fail
      go_ret
      rw [downF_stop (.inl h0)] at HE
      rw [HE.out]
      refine ⟨?_, hD, hc⟩
      simp
    · have b2 : ¬ (n : Int) ≤ 2 * (k : Int) + 1 := by omega
      have b3 : ¬ 2 * (k : Int) + 1 < 0 := by omega
      by_cases h2 : 2 * k + 2 < n
      · have b4 : 2 * (k : Int) + 1 + 1 < (n : Int) := by omega
        cases hp : lessF hk (2 * k + 2) (2 * k + 1) with
        | true =>
          have HP0 : Hid (lessF hk (2 * k + 2) (2 * k + 1) = true) := hp
          have HP : Hid (pickF hk n k = 2 * k + 2) := by show _ = _; unfold pickF; rw [if_pos ⟨h2, hp⟩]
          clear hp
          go_wp2_with fail
          refine (less_at hD _ _ (2 * k + 2) (2 * k + 1) (by omega) (by omega) (by omega) (by omega)).mono ?_
          rintro e w1 ⟨rfl, q, rfl⟩
          rw [HP0.out]
          go_wp2_with fail
          cases hle : lessF hk (2 * k + 2) k with
          | false =>
            have HL : Hid (lessF hk (2 * k + 2) k = false) := hle
            clear hle
            refine (less_at (hD.drewN q) _ _ (2 * k + 2) k (by omega) (by omega) (by omega) (by omega)).mono ?_
            rintro e w2 ⟨rfl, q2, rfl⟩
            rw [HL.out]
            go_wp2_with fail
            go_ret
            rw [downF_stop (f := f) (hs := hk) (i := k) (.inr (by rw [HP.out]; exact HL.out))] at HE
            rw [HE.out]
            refine ⟨?_, hD.drewN (q + q2), hc.drewN (q + q2)⟩
            simp
          | true =>
            have HL : Hid (lessF hk (2 * k + 2) k = true) := hle
            clear hle
            refine (less_at (hD.drewN q) _ _ (2 * k + 2) k (by omega) (by omega) (by omega) (by omega)).mono ?_
            rintro e w2 ⟨rfl, q2, rfl⟩
            rw [HL.out]
            go_wp2_with fail
            refine (swap_at (hD.drewN (q + q2)) _ _ k (2 * k + 2) (by omega) (by omega) (by omega) (by omega) (by omega)).mono ?_
            rintro e w3 ⟨rfl, hD1, hc1⟩
            go_wp2_with fail
            go_roundw
            case rel =>
              obtain ⟨f', rfl⟩ : ∃ f', f = f' + 1 := ⟨f - 1, by omega⟩
              refine ⟨2 * k + 2, f', swp hk k (2 * k + 2), by go_num, by omega, by omega, by rw [swp_length]; exact hlen, hD1, (hc.drewN (q + q2)).tr hc1, ?_, by omega⟩
              have hg := downF_go (f := f') (hs := hk) (n := n) (i := k) (by omega) (by rw [HP.out]; exact HL.out)
              rw [HP.out] at hg
              exact HE.out.trans hg
            case measure => simp [intOf]; omega
        | false =>
          have HP0 : Hid (lessF hk (2 * k + 2) (2 * k + 1) = false) := hp
          have HP : Hid (pickF hk n k = 2 * k + 1) := by show _ = _; unfold pickF; rw [if_neg (by simp [hp])]
          clear hp
          go_wp2_with fail
          refine (less_at hD _ _ (2 * k + 2) (2 * k + 1) (by omega) (by omega) (by omega) (by omega)).mono ?_
          rintro e w1 ⟨rfl, q, rfl⟩
          rw [HP0.out]
          go_wp2_with fail
          cases hle : lessF hk (2 * k + 1) k with
          | false =>
            have HL : Hid (lessF hk (2 * k + 1) k = false) := hle
            clear hle
            refine (less_at (hD.drewN q) _ _ (2 * k + 1) k (by omega) (by omega) (by omega) (by omega)).mono ?_
            rintro e w2 ⟨rfl, q2, rfl⟩
            rw [HL.out]
            go_wp2_with fail
            go_ret
            rw [downF_stop (f := f) (hs := hk) (i := k) (.inr (by rw [HP.out]; exact HL.out))] at HE
            rw [HE.out]
            refine ⟨?_, hD.drewN (q + q2), hc.drewN (q + q2)⟩
            simp
          | true =>
            have HL : Hid (lessF hk (2 * k + 1) k = true) := hle
            clear hle
            refine (less_at (hD.drewN q) _ _ (2 * k + 1) k (by omega) (by omega) (by omega) (by omega)).mono ?_
            rintro e w2 ⟨rfl, q2, rfl⟩
            rw [HL.out]
            go_wp2_with fail
            refine (swap_at (hD.drewN (q + q2)) _ _ k (2 * k + 1) (by omega) (by omega) (by omega) (by omega) (by omega)).mono ?_
            rintro e w3 ⟨rfl, hD1, hc1⟩
            go_wp2_with fail
            go_roundw
            case rel =>
              obtain ⟨f', rfl⟩ : ∃ f', f = f' + 1 := ⟨f - 1, by omega⟩
              refine ⟨2 * k + 1, f', swp hk k (2 * k + 1), by go_num, by omega, by omega, by rw [swp_length]; exact hlen, hD1, (hc.drewN (q + q2)).tr hc1, ?_, by omega⟩
              have hg := downF_go (f := f') (hs := hk) (n := n) (i := k) (by omega) (by rw [HP.out]; exact HL.out)
              rw [HP.out] at hg
              exact HE.out.trans hg
            case measure => simp [intOf]; omega
      · have b4 : ¬ 2 * (k : Int) + 1 + 1 < (n : Int) := by omega
        have HP : Hid (pickF hk n k = 2 * k + 1) := by show _ = _; unfold pickF; rw [if_neg (by omega)]
        go_wp2_with fail
        cases hle : lessF hk (2 * k + 1) k with
        | false =>
          have HL : Hid (lessF hk (2 * k + 1) k = false) := hle
          clear hle
          refine (less_at (hD) _ _ (2 * k + 1) k (by omega) (by omega) (by omega) (by omega)).mono ?_
          rintro e w2 ⟨rfl, q2, rfl⟩
          rw [HL.out]
          go_wp2_with fail
          go_ret
          rw [downF_stop (f := f) (hs := hk) (i := k) (.inr (by rw [HP.out]; exact HL.out))] at HE
          rw [HE.out]
          refine ⟨?_, (hD).drewN q2, hc.drewN q2⟩
          simp
        | true =>
          have HL : Hid (lessF hk (2 * k + 1) k = true) := hle
          clear hle
          refine (less_at (hD) _ _ (2 * k + 1) k (by omega) (by omega) (by omega) (by omega)).mono ?_
          rintro e w2 ⟨rfl, q2, rfl⟩
          rw [HL.out]
          go_wp2_with fail
          refine (swap_at (hD.drewN q2) _ _ k (2 * k + 1) (by omega) (by omega) (by omega) (by omega) (by omega)).mono ?_
          rintro e w3 ⟨rfl, hD1, hc1⟩
          go_wp2_with fail
          go_roundw
          case rel =>
            obtain ⟨f', rfl⟩ : ∃ f', f = f' + 1 := ⟨f - 1, by omega⟩
            refine ⟨2 * k + 1, f', swp hk k (2 * k + 1), by go_num, by omega, by omega, by rw [swp_length]; exact hlen, hD1, (hc.drewN q2).tr hc1, ?_, by omega⟩
            have hg := downF_go (f := f') (hs := hk) (n := n) (i := k) (by omega) (by rw [HP.out]; exact HL.out)
            rw [HP.out] at hg
            exact HE.out.trans hg
          case measure => simp [intOf]; omega
end
end Go.Proofs.Qxb6616074a
