/-
  OWN TEXT. The plain law: the digits of a number: canonical, read back as the number, ordered as the numbers are. No Go in sight.
-/
import Derived.Test.Qxb6616074aDoorClone
namespace Go.Proofs.Qxb6616074aDoor
open Go.RowKit

theorem dgF_last {u : Nat} (h : ¬ u < 10) : dgF u (Lib.nDigits (u / 10)) = 48 + ((u % 10 : Nat) : Int) := by
  have hl := Lib.decDigits_length (u / 10)
  have hm : u % 10 < 10 := Nat.mod_lt _ (by omega)
  unfold dgF
  rw [Lib.decDigits, dif_neg h, ← hl]
  simp [List.getD]
  omega
theorem dgF_init {u i : Nat} (h : ¬ u < 10) (hi : i < Lib.nDigits (u / 10)) : dgF u i = dgF (u / 10) i := by
  have hl := Lib.decDigits_length (u / 10)
  unfold dgF
  rw [Lib.decDigits, dif_neg h]
  simp only [List.getD]
  rw [List.getElem?_append_left (by omega)]
theorem dgF_one {u : Nat} (h : u < 10) : dgF u 0 = 48 + (u : Int) := by
  unfold dgF
  rw [Lib.decDigits, dif_pos h]
  simp [List.getD]
  omega

theorem valF_congr {f g : Nat → Int} : ∀ n, (∀ i, i < n → f i = g i) → valF f n = valF g n
  | 0, _ => rfl
  | n + 1, h => by
    show valF f n * 10 + (f n - 48) = valF g n * 10 + (g n - 48)
    rw [valF_congr n (fun i hi => h i (by omega)), h n (by omega)]

theorem dig_law (u : Nat) : (∀ i, i < Lib.nDigits u → 48 ≤ dgF u i ∧ dgF u i ≤ 57) ∧ (1 < Lib.nDigits u → dgF u 0 ≠ 48 ∧ 10 ^ (Lib.nDigits u - 1) ≤ u) ∧ valF (dgF u) (Lib.nDigits u) = u ∧ (u ≠ 0 → dgF u 0 ≠ 48) := by
  induction u using Nat.strongRecOn with
  | _ u ih =>
    by_cases h : u < 10
    · rw [Lib.nDigits_small h]
      refine ⟨fun i hi => ?_, fun h1 => by omega, ?_, fun h0 => ?_⟩
      · (obtain rfl : i = 0 := by omega)
        rw [dgF_one h]; omega
      · show 0 * 10 + (dgF u 0 - 48) = (u : Int)
        rw [dgF_one h]; omega
      · rw [dgF_one h]; omega
    · obtain ⟨i1, i2, i3, i4⟩ := ih (u / 10) (by omega)
      have hp := Lib.nDigits_pos (u / 10)
      rw [Lib.nDigits_big h]
      have e0 : dgF u 0 ≠ 48 := by
        rw [dgF_init h (by omega)]
        exact i4 (by omega)
      refine ⟨fun i hi => ?_, fun _ => ⟨e0, ?_⟩, ?_, fun _ => e0⟩
      · rcases Nat.lt_or_eq_of_le (Nat.lt_succ_iff.1 hi) with h' | h'
        · rw [dgF_init h h']; exact i1 i h'
        · rw [h', dgF_last h]; omega
      · rw [Nat.add_sub_cancel]
        by_cases h1 : 1 < Lib.nDigits (u / 10)
        · have := (i2 h1).2
          obtain ⟨k, hk⟩ : ∃ k, Lib.nDigits (u / 10) = k + 1 := ⟨Lib.nDigits (u / 10) - 1, by omega⟩
          rw [hk] at this ⊢
          rw [Nat.add_sub_cancel] at this
          rw [Nat.pow_succ]
          omega
        · have : Lib.nDigits (u / 10) = 1 := by omega
          rw [this]; omega
      · show valF (dgF u) (Lib.nDigits (u / 10)) * 10 + (dgF u (Lib.nDigits (u / 10)) - 48) = (u : Int)
        rw [valF_congr _ (fun i hi => dgF_init h hi), i3, dgF_last h]
        omega

/-- a number's digits behind its first j: between two bounds -/
theorem valF_split {f : Nat → Int} (j : Nat) : ∀ k, (∀ i, i < j + k → 48 ≤ f i ∧ f i ≤ 57) → valF f j * 10 ^ k ≤ valF f (j + k) ∧ valF f (j + k) < (valF f j + 1) * 10 ^ k
  | 0, _ => by simp; omega
  | k + 1, h => by
    obtain ⟨h1, h2⟩ := valF_split j k (fun i hi => h i (by omega))
    have hd := h (j + k) (by omega)
    have e : valF f (j + (k + 1)) = valF f (j + k) * 10 + (f (j + k) - 48) := rfl
    have e1 : valF f j * 10 ^ (k + 1) = valF f j * 10 ^ k * 10 := by rw [Int.pow_succ, Int.mul_assoc]
    have e2 : (valF f j + 1) * 10 ^ (k + 1) = (valF f j + 1) * 10 ^ k * 10 := by rw [Int.pow_succ, Int.mul_assoc]
    rw [e, e1, e2]
    omega

theorem lexAt_val {f g : Nat → Int} : ∀ k j, valF f j = valF g j → (∀ i, i < j + k → 48 ≤ f i ∧ f i ≤ 57) → (∀ i, i < j + k → 48 ≤ g i ∧ g i ≤ 57) → lexAt f g j k = decide (valF f (j + k) < valF g (j + k))
  | 0, j, he, _, _ => by simp [lexAt, he]
  | k + 1, j, he, hf, hg => by
    have ejk : j + (k + 1) = j + 1 + k := by omega
    have ef : valF f (j + 1) = valF f j * 10 + (f j - 48) := rfl
    have eg : valF g (j + 1) = valF g j * 10 + (g j - 48) := rfl
    rw [ejk] at hf hg ⊢
    unfold lexAt
    split
    · rename_i hfg
      exact lexAt_val k (j + 1) (by rw [ef, eg, he, hfg]) hf hg
    · rename_i hfg
      have sf := valF_split (f := f) (j + 1) k hf
      have sg := valF_split (f := g) (j + 1) k hg
      have p0 : (0 : Int) ≤ 10 ^ k := Int.le_of_lt (Int.pow_pos (by omega))
      by_cases hlt : f j < g j
      · have hh : (valF f (j + 1) + 1) * 10 ^ k ≤ valF g (j + 1) * 10 ^ k := Int.mul_le_mul_of_nonneg_right (by omega) p0
        have : valF f (j + 1 + k) < valF g (j + 1 + k) := by omega
        simp [hlt, this]
      · have hh : (valF g (j + 1) + 1) * 10 ^ k ≤ valF f (j + 1) * 10 ^ k := Int.mul_le_mul_of_nonneg_right (by omega) p0
        have : ¬ valF f (j + 1 + k) < valF g (j + 1 + k) := by omega
        simp [hlt, this]

theorem pow_mono {a b : Nat} (h : a ≤ b) : 10 ^ a ≤ 10 ^ b := Nat.pow_le_pow_right (by omega) h

theorem short_law (s t : Nat) : slF (Lib.nDigits s) (Lib.nDigits t) (dgF s) (dgF t) = decide ((s : Int) < (t : Int)) := by
  obtain ⟨s1, s2, s3, s4⟩ := dig_law s
  obtain ⟨t1, t2, t3, t4⟩ := dig_law t
  unfold slF
  split
  · rename_i he
    have := lexAt_val (f := dgF s) (g := dgF t) (Lib.nDigits s) 0 rfl (by rw [Nat.zero_add]; exact s1) (by rw [Nat.zero_add, he]; exact t1)
    rw [this, Nat.zero_add, s3]
    rw [he, t3]
  · rename_i hne
    have hs := Lib.lt_pow_nDigits s
    have ht := Lib.lt_pow_nDigits t
    have ps := Lib.nDigits_pos s
    have pt := Lib.nDigits_pos t
    rcases Nat.lt_or_ge (Lib.nDigits s) (Lib.nDigits t) with h | h
    · have h1 := (t2 (by omega)).2
      have h2 := pow_mono (show Lib.nDigits s ≤ Lib.nDigits t - 1 by omega)
      have : (s : Int) < (t : Int) := by omega
      simp only [h, this, decide_true]
    · have h1 := (s2 (by omega)).2
      have h2 := pow_mono (show Lib.nDigits t ≤ Lib.nDigits s - 1 by omega)
      have h3 : ¬ (s : Int) < (t : Int) := by omega
      have h4 : ¬ Lib.nDigits s < Lib.nDigits t := by omega
      simp only [h3, h4]

theorem eq_law (s t : Nat) : (decide (Lib.nDigits s = Lib.nDigits t) && eqF (Lib.nDigits s) (dgF s) (dgF t)) = decide ((s : Int) = (t : Int)) := by
  by_cases h : s = t
  · subst h
    simp [eqF]
  · have h' : ¬ (s : Int) = (t : Int) := by omega
    simp only [h', decide_false]
    rw [Bool.and_eq_false_iff]
    by_cases hn : Lib.nDigits s = Lib.nDigits t
    · right
      simp only [eqF, decide_eq_false_iff_not]
      intro hall
      have e := valF_congr _ hall
      rw [(dig_law s).2.2.1, hn, (dig_law t).2.2.1] at e
      omega
    · left
      simpa using hn
end Go.Proofs.Qxb6616074aDoor
