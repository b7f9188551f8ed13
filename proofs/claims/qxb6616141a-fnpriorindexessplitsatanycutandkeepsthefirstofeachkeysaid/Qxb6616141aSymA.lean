/-
  OWN TEXT. symMergeCmpFunc, where one side is a single entry.
-/
import Derived.Test.Qxb6616141aIns
namespace Go.Proofs.Qxb6616141a
open Go.RowKit

/-- what a merge leaves -/
def MrgP (w : World) (g n : Nat) (xs : Nat → E) (a b : Nat) (e : Ending) (w' : World) : Prop := e = .returned (.tuple #[]) ∧ ∃ ys, CK w g n ys w' ∧ InsI xs ys a b ∧ SrtOn ys a b

theorem rot_none (xs : Nat → E) (a m : Nat) : Rot xs a m m = xs := by
  funext t
  unfold Rot
  rw [Nat.sub_self]
  split
  · rfl
  · rw [if_neg (by omega)]; rfl
/-- the first entry goes one place on -/
theorem rot_right (xs : Nat → E) (a k : Nat) (hk : a ≤ k) : swE (Rot xs a (a + 1) (k + 1)) k (k + 1) = Rot xs a (a + 1) (k + 2) := by
  funext t
  have v : ∀ c t, Rot xs a (a + 1) (c + 1) t = if t < a ∨ c + 1 ≤ t then xs t else if t < c then xs (t + 1) else xs a := by
    intro c t
    unfold Rot
    by_cases h1 : t < a ∨ c + 1 ≤ t
    · rw [if_pos h1, if_pos h1]
    · rw [if_neg h1, if_neg h1]
      by_cases h2 : t < c
      · rw [if_pos h2, if_pos (by omega)]; congr 1; omega
      · rw [if_neg h2, if_neg (by omega)]; congr 1; omega
  unfold swE upE
  rw [v (k + 1) t]
  by_cases h1 : t = k + 1
  · subst h1
    rw [if_pos rfl, v, if_neg (by omega), if_neg (by omega), if_neg (by omega), if_neg (by omega)]
  · rw [if_neg h1]
    by_cases h2 : t = k
    · subst h2
      rw [if_pos rfl, v, if_pos (by omega), if_neg (by omega), if_pos (by omega)]
    · rw [if_neg h2, v]
      by_cases h3 : t < a ∨ k + 1 ≤ t
      · rw [if_pos h3, if_pos (by omega)]
      · rw [if_neg h3, if_pos (show t < k by omega), if_neg (by omega), if_pos (by omega)]
theorem fin_right {xs : Nat → E} {a b i : Nat} (h1 : a + 1 ≤ i) (h2 : i ≤ b) (hS : SrtOn xs (a + 1) b) (hlo : ∀ t, a + 1 ≤ t → t < i → (xs t).1 < (xs a).1) (hhi : ∀ t, i ≤ t → t < b → ¬ (xs t).1 < (xs a).1) :
    InsI xs (Rot xs a (a + 1) i) a b ∧ SrtOn (Rot xs a (a + 1) i) a b := by
  obtain ⟨o, s⟩ := stb_rot (xs := xs) (a := a) (m := a + 1) (b := i) (by omega) h1 (fun p q hp1 hp2 hq1 hq2 => by
    obtain rfl : p = a := by omega
    exact hlo q hq1 hq2)
  refine ⟨⟨o.mono (by omega) h2, stb_part o s (by omega) (by omega) h2⟩, ?_⟩
  have v : ∀ t, a ≤ t → Rot xs a (a + 1) i t = if i ≤ t then xs t else if t + 1 < i then xs (t + 1) else xs a := by
    intro t ht
    unfold Rot
    by_cases hi : i ≤ t
    · rw [if_pos (by omega), if_pos hi]
    · rw [if_neg (by omega), if_neg hi]
      by_cases h3 : t + 1 < i
      · rw [if_pos h3, if_pos (by omega)]; congr 1; omega
      · rw [if_neg h3, if_neg (by omega)]; congr 1; omega
  intro p q hp hpq hq
  rw [v p hp, v q (by omega)]
  by_cases c1 : i ≤ p
  · rw [if_pos c1, if_pos (by omega)]
    exact hS p q (by omega) hpq hq
  · rw [if_neg c1]
    by_cases c2 : p + 1 < i
    · rw [if_pos c2]
      by_cases c3 : i ≤ q
      · rw [if_pos c3]
        exact hS (p + 1) q (by omega) (by omega) hq
      · rw [if_neg c3]
        by_cases c4 : q + 1 < i
        · rw [if_pos c4]; exact hS (p + 1) (q + 1) (by omega) (by omega) (by omega)
        · rw [if_neg c4]; have := hlo (p + 1) (by omega) c2; omega
    · rw [if_neg c2, if_pos (by omega)]
      have := hhi q (by omega) hq
      omega

def RelA (w : World) (g n : Nat) (xs : Nat → E) (a b : Nat) (iv jv : Value) (wr : World) : Prop :=
  ∃ (i j : Nat), iv = .int .i64 i ∧ jv = .int .i64 j ∧ a + 1 ≤ i ∧ i ≤ j ∧ j ≤ b ∧ CK w g n xs wr ∧ (∀ t, a + 1 ≤ t → t < i → (xs t).1 < (xs a).1) ∧ (∀ t, j ≤ t → t < b → (xs a).1 ≤ (xs t).1)

set_option maxRecDepth 100000 in
set_option maxHeartbeats 8000000 in
theorem sym_a (g n cap : Nat) (xs : Nat → E) (w : World) (h : PR w g n xs) (hg : g < w.heap.size) (hn : n ≤ 1000000) (a m b : Nat) (hm : m = a + 1) (hmb : a + 1 < b) (hb : b ≤ n) (hS : SrtOn xs (a + 1) b) :
    Calls Try.prog 48 #[.slice (some ⟨g, 0, none⟩) n cap, .int .i64 a, .int .i64 m, .int .i64 b, cmpV] w (MrgP w g n xs a b) := by
  have hm1 : ((m : Int) - (a : Int) == 1) = true := by rw [hm]; simp; omega
  have hm2 : (0 : Int) ≤ (m : Int) := by omega
  have hm3 : (m : Int) ≤ 1000000 := by omega
  have Hm := Lib.hid hm
  clear hm
  have hb' : (b : Int) ≤ 1000000 := by omega
  have ha0 : (0 : Int) ≤ (a : Int) := by omega
  have han : (a : Int) < (n : Int) := by omega
  go_enter Try.func48, Try.ntmps48
  go_wp2
  go_loopw [10, 11] (fun iv jv wr => RelA w g n xs a b iv jv wr) (fun iv jv _ => (intOf jv).toNat - (intOf iv).toNat)
  case atStart => exact ⟨a + 1, b, by rw [Hm.out], rfl, Nat.le_refl _, by omega, Nat.le_refl _, ⟨h, hg, Chg.refl _ _⟩, fun t h1 h2 => by omega, fun t h1 h2 => by omega⟩
  case round =>
    obtain ⟨i, j, rfl, rfl, hi1, hij, hjb, hK, hlo, hhi⟩ := hrel
    by_cases hlt : i < j
    · have hlt' : (i : Int) < (j : Int) := by omega
      obtain ⟨hh, hhe⟩ : ∃ q, q = (i + j) / 2 := ⟨_, rfl⟩
      have hh1 : i ≤ hh := by omega
      have hh2 : hh < j := by omega
      have hhn : (hh : Int) < (n : Int) := by omega
      have hh0 : (0 : Int) ≤ (hh : Int) := by omega
      have Hh := Lib.hid hhe
      clear hhe
      go_wp2_with fail
      have hhe := Hh.out
      have fa := foldE (xs hh)
      have fb := foldE (xs a)
      rw [show ((i : Int) + (j : Int)) / 2 = (hh : Int) by omega]
      clear hhe
      have hKd := hK.drew
      go_region_held3 (fun W => (∀ q, q < 15 → W.cell? ⟨g, hh * 15 + q, none⟩ = some (cE (xs hh) q)) ∧ W.cell? ⟨g, hh * 15, none⟩ = some (cE (xs hh) 0) ∧ (∀ q, q < 15 → W.cell? ⟨g, a * 15 + q, none⟩ = some (cE (xs a) q)) ∧ W.cell? ⟨g, a * 15, none⟩ = some (cE (xs a) 0) ∧ CK w g n xs W) ((refine CK.keep ?_ (by omega) (by omega); assumption))
        (first | (go_at_call 40; refine (cmp_ck (by assumption) _ _).mono ?_; rintro e w' ⟨⟨z, rfl, hz⟩, hS'⟩))
      rename_i hHeld
      obtain ⟨_, _, _, _, hKw⟩ := hHeld
      clear hz hS' hK hKd fa fb
      by_cases hc : (xs hh).1 < (xs a).1
      · have hlo2 : ∀ t, a + 1 ≤ t → t < hh + 1 → (xs t).1 < (xs a).1 := fun t h1 h2 => by
          by_cases ht : t = hh
          · subst ht; exact hc
          · have := hS t hh h1 (by omega) (by omega); omega
        go_wp2
        go_roundw
        case rel => exact ⟨hh + 1, j, by go_num, rfl, by omega, by omega, hjb, hKw, hlo2, hhi⟩
        case measure => first | (simp [intOf]; done) | (simp [intOf]; omega)
      · have hhi2 : ∀ t, hh ≤ t → t < b → (xs a).1 ≤ (xs t).1 := fun t h1 h2 => by
          by_cases ht : t = hh
          · subst ht; omega
          · have := hS hh t (by omega) (by omega) h2; omega
        go_wp2
        go_roundw
        case rel => exact ⟨i, hh, rfl, rfl, hi1, hh1, by omega, hKw, hlo, hhi2⟩
        case measure => first | (simp [intOf]; done) | (simp [intOf]; omega)
    · have hlt' : ¬ (i : Int) < (j : Int) := by omega
      obtain rfl : i = j := by omega
      have hib : (i : Int) ≤ 1000000 := by omega
      have hi0 : (1 : Int) ≤ (i : Int) := by omega
      obtain ⟨hI, hSr⟩ := fin_right (xs := xs) (a := a) (b := b) (i := i) hi1 hjb hS hlo (fun t h1 h2 => by have := hhi t h1 h2; omega)
      clear hlo hhi
      go_wp2
      go_loopw [13] (fun kv wq => ∃ (k : Nat), kv = .int .i64 k ∧ a ≤ k ∧ k + 1 ≤ i ∧ CK w g n (Rot xs a (a + 1) (k + 1)) wq) (fun kv _ => i - (intOf kv).toNat)
      case atStart => exact ⟨a, rfl, Nat.le_refl _, hi1, by rw [rot_none]; exact hK⟩
      case round =>
        clear hK
        obtain ⟨k, rfl, hak, hki, hK⟩ := hrel
        by_cases hkl : k + 1 < i
        · have hkl' : (k : Int) < (i : Int) - 1 := by omega
          have n1 : (k : Int) + 1 < (n : Int) := by omega
          have n0 : (0 : Int) ≤ (k : Int) := by omega
          have n2 : (k : Int) < (n : Int) := by omega
          have tn : ((k : Int) + 1).toNat = k + 1 := by omega
          obtain ⟨W1, W2, hSw⟩ := swap_facts hK.pr (i := k) (j := k + 1) (by omega) (by omega)
          rw [rot_right xs a k hak] at hSw
          generalize Rot xs a (a + 1) (k + 1) k = ea at hSw
          generalize Rot xs a (a + 1) (k + 1) (k + 1) = eb at hSw
          obtain ⟨ci, ci0, cj, cj0, s1, s2, hR2, hC2⟩ := hSw
          have hK2 : CK w g n (Rot xs a (a + 1) (k + 2)) W2 := ⟨hR2, Nat.lt_of_lt_of_le hK.lt hC2.size, hK.chg.tr hC2⟩
          have fa := foldE ea
          have fb := foldE eb
          have la := encE_length ea
          have lb := encE_length eb
          clear hR2 hC2 hK
          go_wp2_with fail
          go_region
          all_goals
            go_wp2
            go_roundw
            case rel => exact ⟨k + 1, by go_num, by omega, by omega, hK2⟩
            case measure => first | (simp [intOf]; done) | (simp [intOf]; omega)
        · have hkl' : ¬ (k : Int) < (i : Int) - 1 := by omega
          obtain rfl : i = k + 1 := by omega
          go_wp2
          go_end0
          exact ⟨rfl, _, hK, hI, hSr⟩
end Go.Proofs.Qxb6616141a
