/-
  OWN TEXT. rotateCmpFunc.
-/
import Derived.Test.Qxb6616141aSwp
namespace Go.Proofs.Qxb6616141a
open Go.RowKit

theorem swapR_eq (xs : Nat → E) (a b m : Nat) (hab : a + m ≤ b) : ∀ k, k ≤ m → ∀ t, swapR xs a b k t = if a ≤ t ∧ t < a + k then xs (t - a + b) else if b ≤ t ∧ t < b + k then xs (t - b + a) else xs t
  | 0, _, t => by
    show xs t = _
    rw [if_neg (by omega), if_neg (by omega)]
  | k + 1, hk, t => by
    have ih := swapR_eq xs a b m hab k (by omega)
    show swE (swapR xs a b k) (a + k) (b + k) t = _
    unfold swE upE
    by_cases h1 : t = b + k
    · subst h1
      rw [if_pos rfl, ih, if_neg (by omega), if_neg (by omega), if_neg (by omega), if_pos (by omega), show b + k - b + a = a + k by omega]
    · rw [if_neg h1]
      by_cases h2 : t = a + k
      · subst h2
        rw [if_pos rfl, ih, if_neg (by omega), if_neg (by omega), if_pos (by omega), show a + k - a + b = b + k by omega]
      · rw [if_neg h2, ih]
        by_cases h3 : a ≤ t ∧ t < a + k
        · rw [if_pos h3, if_pos (by omega)]
        · rw [if_neg h3, if_neg (show ¬ (a ≤ t ∧ t < a + (k + 1)) by omega)]
          by_cases h4 : b ≤ t ∧ t < b + k
          · rw [if_pos h4, if_pos (by omega)]
          · rw [if_neg h4, if_neg (by omega)]

/-- xs with what lies from a to m and what lies from m to b in each other's place -/
def Rot (xs : Nat → E) (a m b : Nat) : Nat → E := fun t => if t < a ∨ b ≤ t then xs t else if t < a + (b - m) then xs (t - a + m) else xs (t - (b - m))

theorem rot_gt (xs : Nat → E) (m i j : Nat) (hi : i ≤ m) (hij : j < i) : Rot (swapR xs (m - i) m j) (m - (i - j)) m (m + j) = Rot xs (m - i) m (m + j) := by
  funext t
  have e := swapR_eq xs (m - i) m j (by omega) j (Nat.le_refl _)
  unfold Rot
  by_cases h1 : t < m - i ∨ m + j ≤ t
  · rw [if_pos (by omega), if_pos h1, e, if_neg (by omega), if_neg (by omega)]
  · rw [if_neg h1]
    by_cases h2 : t < m - (i - j)
    · rw [if_pos (by omega), e, if_pos (by omega), if_pos (by omega)]
    · rw [if_neg (show ¬ (t < m - (i - j) ∨ m + j ≤ t) by omega), if_neg (show ¬ t < m - i + (m + j - m) by omega)]
      by_cases h3 : t < m - (i - j) + (m + j - m)
      · rw [if_pos h3, e, if_neg (by omega), if_pos (by omega)]
        congr 1; omega
      · rw [if_neg h3, e, if_neg (by omega), if_neg (by omega)]
theorem rot_lt (xs : Nat → E) (m i j : Nat) (hi : i ≤ m) (hij : i < j) : Rot (swapR xs (m - i) (m + j - i) i) (m - i) m (m + (j - i)) = Rot xs (m - i) m (m + j) := by
  funext t
  have e := swapR_eq xs (m - i) (m + j - i) i (by omega) i (Nat.le_refl _)
  unfold Rot
  by_cases h1 : t < m - i ∨ m + j ≤ t
  · rw [if_pos (by omega), if_pos h1, e, if_neg (by omega), if_neg (by omega)]
  · rw [if_neg h1]
    by_cases h2 : m + (j - i) ≤ t
    · rw [if_pos (by omega), e, if_neg (by omega), if_pos (by omega), if_neg (by omega)]
      congr 1; omega
    · rw [if_neg (show ¬ (t < m - i ∨ m + (j - i) ≤ t) by omega), if_pos (show t < m - i + (m + j - m) by omega)]
      by_cases h3 : t < m - i + (m + (j - i) - m)
      · rw [if_pos h3, e, if_neg (by omega), if_neg (by omega)]
      · rw [if_neg h3, e, if_pos (by omega)]
        congr 1; omega
theorem rot_eq (xs : Nat → E) (m i : Nat) (hi : i ≤ m) : swapR xs (m - i) m i = Rot xs (m - i) m (m + i) := by
  funext t
  rw [swapR_eq xs (m - i) m i (by omega) i (Nat.le_refl _)]
  unfold Rot
  by_cases h1 : t < m - i ∨ m + i ≤ t
  · rw [if_pos h1, if_neg (by omega), if_neg (by omega)]
  · rw [if_neg h1]
    by_cases h2 : t < m - i + (m + i - m)
    · rw [if_pos h2, if_pos (by omega)]
    · rw [if_neg h2, if_neg (by omega), if_pos (by omega)]
      congr 1; omega

set_option maxRecDepth 100000 in
set_option maxHeartbeats 4000000 in
theorem rotate_calls (g n cap : Nat) (xs : Nat → E) (w : World) (h : PR w g n xs) (hn : n ≤ 1000000) (cv : Value) (ai mi bi : Int) (a m b : Nat) (ea : ai = a) (em : mi = m) (eb : bi = b) (h1 : a < m) (h2 : m < b) (hb : b ≤ n) :
    Calls Try.prog 49 #[.slice (some ⟨g, 0, none⟩) n cap, .int .i64 ai, .int .i64 mi, .int .i64 bi, cv] w (RowP w g n (Rot xs a m b)) := by
  subst ea em eb
  have hb' : (b : Int) ≤ 1000000 := by omega
  have h1' : (a : Int) < (m : Int) := by omega
  have h2' : (m : Int) < (b : Int) := by omega
  have ha0 : (0 : Int) ≤ (a : Int) := by omega
  go_enter Try.func49, Try.ntmps49
  go_wp2
  go_loopw [10, 11] (fun iv jv wr => ∃ (i j : Nat) (zs : Nat → E), iv = .int .i64 i ∧ jv = .int .i64 j ∧ 0 < i ∧ 0 < j ∧ i ≤ m ∧ m + j ≤ n ∧ PR wr g n zs ∧ Chg (fun k => k = g) w wr ∧ Rot zs (m - i) m (m + j) = Rot xs a m b) (fun iv jv _ => (intOf iv).toNat + (intOf jv).toNat)
  case atStart => exact ⟨m - a, b - m, xs, by rw [Value.int.injEq]; exact ⟨rfl, by omega⟩, by rw [Value.int.injEq]; exact ⟨rfl, by omega⟩, by omega, by omega, by omega, by omega, h, Chg.refl _ _, by rw [show m - (m - a) = a by omega, show m + (b - m) = b by omega]⟩
  case round =>
    obtain ⟨i, j, zs, rfl, rfl, hi, hj, him, hjn, hR, hC, hEq⟩ := hrel
    have b1 : (0 : Int) ≤ (i : Int) := by omega
    have b2 : (i : Int) ≤ 1000000 := by omega
    have b3 : (0 : Int) ≤ (j : Int) := by omega
    have b4 : (j : Int) ≤ 1000000 := by omega
    have b5 : (i : Int) ≤ (m : Int) := by omega
    have b6 : (m : Int) ≤ 1000000 := by omega
    by_cases hne : i = j
    · subst hne
      have hE := Lib.hid hEq
      clear hEq
      go_wp2_with fail
      refine (swapRange_calls g n cap zs _ hR hn cv ((m : Int) - (i : Int)) (m : Int) (i : Int) (m - i) m i (by omega) rfl rfl (by omega) (by omega)).mono ?_
      rintro e w1 ⟨rfl, hR1, hC1⟩
      go_wp2
      go_end0
      exact ⟨rfl, by rw [← hE.out, ← rot_eq zs m i him]; exact hR1, hC.tr hC1⟩
    · have hne' : ¬ (i : Int) = (j : Int) := by omega
      have hE := Lib.hid hEq
      clear hEq
      by_cases hgt : j < i
      · have hgt' : (j : Int) < (i : Int) := by omega
        go_wp2_with fail
        refine (swapRange_calls g n cap zs _ hR hn cv ((m : Int) - (i : Int)) (m : Int) (j : Int) (m - i) m j (by omega) rfl rfl (by omega) (by omega)).mono ?_
        rintro e w1 ⟨rfl, hR1, hC1⟩
        go_wp2
        go_roundw
        case rel => exact ⟨i - j, j, _, by rw [Value.int.injEq]; exact ⟨rfl, by omega⟩, rfl, by omega, hj, by omega, hjn, hR1, hC.tr hC1, by rw [rot_gt zs m i j him hgt]; exact hE.out⟩
        case measure => simp [intOf]; omega
      · have hgt' : ¬ (j : Int) < (i : Int) := by omega
        go_wp2_with fail
        refine (swapRange_calls g n cap zs _ hR hn cv ((m : Int) - (i : Int)) ((m : Int) + (j : Int) - (i : Int)) (i : Int) (m - i) (m + j - i) i (by omega) (by omega) rfl (by omega) (by omega)).mono ?_
        rintro e w1 ⟨rfl, hR1, hC1⟩
        go_wp2
        go_roundw
        case rel => exact ⟨i, j - i, _, rfl, by rw [Value.int.injEq]; exact ⟨rfl, by omega⟩, hi, by omega, him, by omega, hR1, hC.tr hC1, by rw [rot_lt zs m i j him (by omega)]; exact hE.out⟩
        case measure => simp [intOf]; omega
end Go.Proofs.Qxb6616141a
