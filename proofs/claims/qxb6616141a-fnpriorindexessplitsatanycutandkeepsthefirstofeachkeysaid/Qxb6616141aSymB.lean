/-
  OWN TEXT. symMergeCmpFunc, where the second side is a single entry.
-/
import Derived.Test.Qxb6616141aSymA
namespace Go.Proofs.Qxb6616141a
open Go.RowKit

theorem rot_zero (xs : Nat → E) (m b : Nat) : Rot xs m m b = xs := by
  funext t
  unfold Rot
  split
  · rfl
  · rw [if_pos (by omega)]; congr 1; omega
theorem rot_vleft (xs : Nat → E) (k m t : Nat) : Rot xs k m (m + 1) t = if t < k ∨ m + 1 ≤ t then xs t else if t = k then xs m else xs (t - 1) := by
  unfold Rot
  by_cases h1 : t < k ∨ m + 1 ≤ t
  · rw [if_pos h1, if_pos h1]
  · rw [if_neg h1, if_neg h1]
    by_cases h2 : t = k
    · rw [if_pos h2, if_pos (by omega)]; congr 1; omega
    · rw [if_neg h2, if_neg (by omega)]; congr 1; omega
/-- the last entry goes one place back -/
theorem rot_left (xs : Nat → E) (k m : Nat) (hk : k + 1 ≤ m) : swE (Rot xs (k + 1) m (m + 1)) (k + 1) k = Rot xs k m (m + 1) := by
  funext t
  unfold swE upE
  rw [rot_vleft xs k m t]
  by_cases h1 : t = k
  · subst h1
    rw [if_pos rfl, rot_vleft, if_neg (by omega), if_pos rfl, if_neg (by omega), if_pos rfl]
  · rw [if_neg h1]
    by_cases h2 : t = k + 1
    · subst h2
      rw [if_pos rfl, rot_vleft, if_pos (by omega), if_neg (by omega), if_neg (by omega)]
      rfl
    · rw [if_neg h2, rot_vleft]
      by_cases h3 : t < k ∨ m + 1 ≤ t
      · rw [if_pos (show t < k + 1 ∨ m + 1 ≤ t by omega), if_pos h3]
      · rw [if_neg (show ¬ (t < k + 1 ∨ m + 1 ≤ t) by omega), if_neg h2, if_neg h3, if_neg h1]
theorem fin_left {xs : Nat → E} {a m i : Nat} (h1 : a ≤ i) (h2 : i ≤ m) (hS : SrtOn xs a m) (hlo : ∀ t, a ≤ t → t < i → (xs t).1 ≤ (xs m).1) (hhi : ∀ t, i ≤ t → t < m → (xs m).1 < (xs t).1) :
    InsI xs (Rot xs i m (m + 1)) a (m + 1) ∧ SrtOn (Rot xs i m (m + 1)) a (m + 1) := by
  obtain ⟨o, s⟩ := stb_rot (xs := xs) (a := i) (m := m) (b := m + 1) h2 (by omega) (fun p q hp1 hp2 hq1 hq2 => by
    obtain rfl : q = m := by omega
    exact hhi p hp1 hp2)
  refine ⟨⟨o.mono h1 (by omega), stb_part o s (by omega) h1 (by omega)⟩, ?_⟩
  intro p q hp hpq hq
  rw [rot_vleft, rot_vleft]
  by_cases c1 : p < i
  · rw [if_pos (show p < i ∨ m + 1 ≤ p by omega)]
    by_cases c2 : q < i
    · rw [if_pos (show q < i ∨ m + 1 ≤ q by omega)]
      exact hS p q hp hpq (by omega)
    · rw [if_neg (show ¬ (q < i ∨ m + 1 ≤ q) by omega)]
      by_cases c3 : q = i
      · rw [if_pos c3]; exact hlo p hp c1
      · rw [if_neg c3]; exact hS p (q - 1) hp (by omega) (by omega)
  · rw [if_neg (show ¬ (p < i ∨ m + 1 ≤ p) by omega), if_neg (show ¬ (q < i ∨ m + 1 ≤ q) by omega), if_neg (show ¬ q = i by omega)]
    by_cases c3 : p = i
    · rw [if_pos c3]; have := hhi (q - 1) (by omega) (by omega); omega
    · rw [if_neg c3]; exact hS (p - 1) (q - 1) (by omega) (by omega) (by omega)

def RelB (w : World) (g n : Nat) (xs : Nat → E) (a m : Nat) (iv jv : Value) (wr : World) : Prop :=
  ∃ (i j : Nat), iv = .int .i64 i ∧ jv = .int .i64 j ∧ a ≤ i ∧ i ≤ j ∧ j ≤ m ∧ CK w g n xs wr ∧ (∀ t, a ≤ t → t < i → (xs t).1 ≤ (xs m).1) ∧ (∀ t, j ≤ t → t < m → (xs m).1 < (xs t).1)

set_option maxRecDepth 100000 in
set_option maxHeartbeats 8000000 in
theorem sym_b (g n cap : Nat) (xs : Nat → E) (w : World) (h : PR w g n xs) (hg : g < w.heap.size) (hn : n ≤ 1000000) (a m b : Nat) (hbm : b = m + 1) (ham : a + 1 < m) (hb : b ≤ n) (hS : SrtOn xs a m) :
    Calls Try.prog 48 #[.slice (some ⟨g, 0, none⟩) n cap, .int .i64 a, .int .i64 m, .int .i64 b, cmpV] w (MrgP w g n xs a b) := by
  have hm1 : ((m : Int) - (a : Int) == 1) = false := by simp; omega
  have hm4 : ((b : Int) - (m : Int) == 1) = true := by rw [hbm]; simp; omega
  have hm2 : (0 : Int) ≤ (m : Int) := by omega
  have hm3 : (m : Int) ≤ 1000000 := by omega
  have hmn : (m : Int) < (n : Int) := by omega
  have Hb := Lib.hid hbm
  have hmn' : m < n := by omega
  have hb' : (b : Int) ≤ 1000000 := by omega
  have hb0 : (0 : Int) ≤ (b : Int) := by omega
  have ha0 : (0 : Int) ≤ (a : Int) := by omega
  have ha1 : (a : Int) ≤ 1000000 := by omega
  clear hbm
  go_enter Try.func48, Try.ntmps48
  go_wp2
  go_loopw [14, 15] (fun iv jv wr => RelB w g n xs a m iv jv wr) (fun iv jv _ => (intOf jv).toNat - (intOf iv).toNat)
  case atStart => exact ⟨a, m, rfl, rfl, Nat.le_refl _, by omega, Nat.le_refl _, ⟨h, hg, Chg.refl _ _⟩, fun t h1 h2 => by omega, fun t h1 h2 => by omega⟩
  case round =>
    obtain ⟨i, j, rfl, rfl, hi1, hij, hjb, hK, hlo, hhi⟩ := hrel
    by_cases hlt : i < j
    · have hlt' : (i : Int) < (j : Int) := by omega
      obtain ⟨hh, hhe⟩ : ∃ q, q = (i + j) / 2 := ⟨_, rfl⟩
      have hh1 : i ≤ hh := by omega
      have hh2 : hh < j := by omega
      have hhn : (hh : Int) < (n : Int) := by omega
      have hh0 : (0 : Int) ≤ (hh : Int) := by omega
      have Hh := Lib.hid hhe
      clear hhe
      go_wp2_with fail
      have hhe := Hh.out
      have fa := foldE (xs m)
      have fb := foldE (xs hh)
      rw [show ((i : Int) + (j : Int)) / 2 = (hh : Int) by omega]
      clear hhe
      have hKd := hK.drew
      go_region_held3 (fun W => (∀ q, q < 15 → W.cell? ⟨g, m * 15 + q, none⟩ = some (cE (xs m) q)) ∧ W.cell? ⟨g, m * 15, none⟩ = some (cE (xs m) 0) ∧ (∀ q, q < 15 → W.cell? ⟨g, hh * 15 + q, none⟩ = some (cE (xs hh) q)) ∧ W.cell? ⟨g, hh * 15, none⟩ = some (cE (xs hh) 0) ∧ CK w g n xs W) ((refine CK.keep ?_ (by omega) (by omega); assumption))
        (first | (go_at_call 40; refine (cmp_ck (by assumption) _ _).mono ?_; rintro e w' ⟨⟨z, rfl, hz⟩, hS'⟩))
      rename_i hHeld
      obtain ⟨_, _, _, _, hKw⟩ := hHeld
      clear hS' hK hKd fa fb
      have hz0 := hz
      clear hz
      by_cases hc : (xs m).1 < (xs hh).1
      · have hbn : (!decide ((xs m).1 < (xs hh).1)) = false := by simpa using hc
        rw [hbn]
        clear hz0 hbn
        have hhi2 : ∀ t, hh ≤ t → t < m → (xs m).1 < (xs t).1 := fun t h1 h2 => by
          by_cases ht : t = hh
          · subst ht; exact hc
          · have := hS hh t (by omega) (by omega) h2; omega
        go_wp2
        go_roundw
        case rel => exact ⟨i, hh, rfl, rfl, hi1, hh1, by omega, hKw, hlo, hhi2⟩
        case measure => first | (simp [intOf]; done) | (simp [intOf]; omega)
      · have hbn : (!decide ((xs m).1 < (xs hh).1)) = true := by simpa using hc
        rw [hbn]
        clear hz0 hbn
        have hlo2 : ∀ t, a ≤ t → t < hh + 1 → (xs t).1 ≤ (xs m).1 := fun t h1 h2 => by
          by_cases ht : t = hh
          · subst ht; omega
          · have := hS t hh h1 (by omega) (by omega); omega
        go_wp2
        go_roundw
        case rel => exact ⟨hh + 1, j, by go_num, rfl, by omega, by omega, hjb, hKw, hlo2, hhi⟩
        case measure => first | (simp [intOf]; done) | (simp [intOf]; omega)
    · have hlt' : ¬ (i : Int) < (j : Int) := by omega
      obtain rfl : i = j := by omega
      have hib : (i : Int) ≤ (m : Int) := by omega
      have hi0 : (0 : Int) ≤ (i : Int) := by omega
      obtain ⟨hI, hSr⟩ := fin_left (xs := xs) (a := a) (m := m) (i := i) hi1 hjb hS hlo hhi
      clear hlo hhi
      go_wp2
      go_loopw [17] (fun kv wq => ∃ (k : Nat), kv = .int .i64 k ∧ i ≤ k ∧ k ≤ m ∧ CK w g n (Rot xs k m (m + 1)) wq) (fun kv _ => (intOf kv).toNat)
      case atStart => exact ⟨m, rfl, hjb, Nat.le_refl _, by rw [rot_zero]; exact hK⟩
      case round =>
        clear hK
        obtain ⟨k, rfl, hak, hki, hK⟩ := hrel
        by_cases hkl : i < k
        · obtain ⟨q, rfl⟩ : ∃ q, k = q + 1 := ⟨k - 1, by omega⟩
          rw [show (((q + 1 : Nat)) : Int) = (q : Int) + 1 by omega]
          have hkl' : (i : Int) < (q : Int) + 1 := by omega
          have n1 : (q : Int) + 1 < (n : Int) := by omega
          have n0 : (0 : Int) ≤ (q : Int) := by omega
          have n2 : (q : Int) < (n : Int) := by omega
          have tn : ((q : Int) + 1).toNat = q + 1 := by omega
          obtain ⟨W1, W2, hSw⟩ := swap_facts hK.pr (i := q + 1) (j := q) (by omega) (by omega)
          rw [rot_left xs q m (by omega)] at hSw
          generalize Rot xs (q + 1) m (m + 1) (q + 1) = ea at hSw
          generalize Rot xs (q + 1) m (m + 1) q = eb at hSw
          obtain ⟨ci, ci0, cj, cj0, s1, s2, hR2, hC2⟩ := hSw
          have hK2 : CK w g n (Rot xs q m (m + 1)) W2 := ⟨hR2, Nat.lt_of_lt_of_le hK.lt hC2.size, hK.chg.tr hC2⟩
          have fa := foldE ea
          have fb := foldE eb
          have la := encE_length ea
          have lb := encE_length eb
          clear hR2 hC2 hK
          go_wp2_with fail
          go_region
          all_goals
            go_wp2
            go_roundw
            case rel => exact ⟨q, by go_num, by omega, by omega, hK2⟩
            case measure => first | (simp [intOf]; done) | (simp [intOf]; omega)
        · have hkl' : ¬ (i : Int) < (k : Int) := by omega
          obtain rfl : i = k := by omega
          go_wp2
          go_end0
          exact ⟨rfl, _, hK, by rw [Hb.out]; exact hI, by rw [Hb.out]; exact hSr⟩
end Go.Proofs.Qxb6616141a
