/-
  OWN TEXT. stableCmpFunc and SortStableFunc.
-/
import Derived.Test.Qxb6616141aSymF
namespace Go.Proofs.Qxb6616141a
open Go.RowKit
/-- sorted in blocks of s from a on -/
def Blk (ys : Nat → E) (s a n : Nat) : Prop := ∀ q, SrtOn ys (a + q * s) (min (a + q * s + s) n)
theorem SrtOn.sub {ys : Nat → E} {a b c d : Nat} (h : SrtOn ys a b) (h1 : a ≤ c) (h2 : d ≤ b) : SrtOn ys c d := fun i j h3 h4 h5 => h i j (by omega) h4 (by omega)
theorem Blk.head {ys : Nat → E} {s a n : Nat} (h : Blk ys s a n) : SrtOn ys a (min (a + s) n) := by
  have := h 0
  rwa [Nat.zero_mul, Nat.add_zero] at this
theorem Blk.next {ys : Nat → E} {s a n : Nat} (h : Blk ys s a n) : Blk ys s (a + s) n := fun q => by
  have := h (q + 1)
  rwa [Nat.add_mul, Nat.one_mul, show a + (q * s + s) = a + s + q * s by omega] at this
theorem Blk.zero (ys : Nat → E) (s : Nat) : Blk ys s 0 0 := fun q i j h1 h2 h3 => by omega
theorem Blk.more {ys : Nat → E} {s k a c : Nat} (h : Blk ys s 0 a) (ha : a = k * s) (hs : SrtOn ys a c) (hc : c ≤ a + s) : Blk ys s 0 c := fun q i j h1 h2 h3 => by
  rcases Nat.lt_trichotomy q k with hq | hq | hq
  · have := Nat.mul_le_mul_right s (show q + 1 ≤ k by omega)
    rw [Nat.add_mul, Nat.one_mul] at this
    exact h q i j h1 h2 (by omega)
  · subst hq
    exact hs i j (by omega) h2 (by omega)
  · have := Nat.mul_le_mul_right s (show k + 1 ≤ q by omega)
    rw [Nat.add_mul, Nat.one_mul] at this
    omega
theorem Blk.keepL {ys zs : Nat → E} {s a b n : Nat} (h : Blk ys s 0 a) (ho : Out ys zs a n) (hb : b ≤ a) : Blk zs s 0 b := fun q i j h1 h2 h3 => by
  rw [ho i (by omega), ho j (by omega)]
  exact h q i j h1 h2 (by omega)
theorem Blk.keepR {ys zs : Nat → E} {s a b n : Nat} (h : Blk ys s b n) (ho : Out ys zs a b) : Blk zs s b n := fun q i j h1 h2 h3 => by
  rw [ho i (by omega), ho j (by omega)]
  exact h q i j h1 h2 h3
theorem InsI.part {xs ys zs : Nat → E} {a b n : Nat} (h : InsI xs ys 0 n) (k : InsI ys zs a b) (hab : a ≤ b) (hb : b ≤ n) : InsI xs zs 0 n :=
  ⟨h.out.trans (k.out.mono (Nat.zero_le _) hb), h.st.trans (stb_part k.out k.st hab (Nat.zero_le _) hb)⟩
theorem CK.to {w w1 w2 : World} {g n : Nat} {xs ys : Nat → E} (h : CK w g n xs w1) (k : CK w1 g n ys w2) : CK w g n ys w2 := ⟨k.pr, k.lt, h.chg.tr k.chg⟩
def RelI (w : World) (g n : Nat) (xs : Nat → E) (av bv : Value) (wr : World) : Prop :=
  ∃ (k a : Nat) (ys : Nat → E), a = k * 20 ∧ av = .int .i64 a ∧ bv = .int .i64 ((a : Int) + 20) ∧ a ≤ n ∧ CK w g n ys wr ∧ InsI xs ys 0 n ∧ Blk ys 20 0 a
def RelS (w : World) (g n : Nat) (xs : Nat → E) (sv : Value) (wr : World) : Prop :=
  ∃ (s : Nat) (ys : Nat → E), sv = .int .i64 s ∧ 0 < s ∧ s ≤ 2 * n + 20 ∧ CK w g n ys wr ∧ InsI xs ys 0 n ∧ Blk ys s 0 n
def RelM (w : World) (g n : Nat) (xs : Nat → E) (s : Nat) (av bv : Value) (wr : World) : Prop :=
  ∃ (k a : Nat) (ys : Nat → E), a = k * (2 * s) ∧ av = .int .i64 a ∧ bv = .int .i64 ((a : Int) + 2 * (s : Int)) ∧ a ≤ n ∧ CK w g n ys wr ∧ InsI xs ys 0 n ∧ Blk ys (2 * s) 0 a ∧ Blk ys s a n
theorem RelM.mk' {w : World} {g n : Nat} {xs ys : Nat → E} {s k a : Nat} {wr : World} (av bv : Value) (h1 : a = k * (2 * s)) (h2 : av = .int .i64 a) (h3 : bv = .int .i64 ((a : Int) + 2 * (s : Int))) (h4 : a ≤ n) (h5 : CK w g n ys wr) (h6 : InsI xs ys 0 n) (h7 : Blk ys (2 * s) 0 a) (h8 : Blk ys s a n) : RelM w g n xs s av bv wr := ⟨k, a, ys, h1, h2, h3, h4, h5, h6, h7, h8⟩

set_option maxRecDepth 100000 in
set_option maxHeartbeats 8000000 in
theorem stable_calls (g n cap : Nat) (xs : Nat → E) (w : World) (h : PR w g n xs) (hg : g < w.heap.size) (hn : n ≤ 100000) :
    Calls Try.prog 45 #[.slice (some ⟨g, 0, none⟩) n cap, .int .i64 n, cmpV] w (MrgP w g n xs 0 n) := by
  have hn1 : (n : Int) ≤ 100000 := by omega
  have hn0 : (0 : Int) ≤ (n : Int) := by omega
  go_enter Try.func45, Try.ntmps45
  go_wp2
  go_loopw [7, 8] (fun av bv wr => RelI w g n xs av bv wr) (fun av _ _ => n - (intOf av).toNat)
  case atStart => exact ⟨0, 0, xs, rfl, rfl, rfl, Nat.zero_le _, ⟨h, hg, Chg.refl _ _⟩, InsI.refl _ _ _, Blk.zero _ _⟩
  case round =>
    obtain ⟨k, a, ys, hka, rfl, rfl, han, hK, hI, hB⟩ := hrel
    have Hka := Lib.hid hka
    clear hka
    have ha0 : (0 : Int) ≤ (a : Int) := by omega
    have ha1 : (a : Int) ≤ 100000 := by omega
    by_cases hlt : a + 20 ≤ n
    · have hlt' : (a : Int) + 20 ≤ (n : Int) := by omega
      go_wp2_with fail
      refine (insertion_calls g n cap ys _ hK.pr hK.lt (by omega) (a : Int) ((a : Int) + 20) a (a + 20) rfl (by omega) (by omega) hlt).mono ?_
      rintro e w1 ⟨rfl, zs, hK1, hI1, hS1⟩
      have hrel2 : RelI w g n xs (.int .i64 ((a : Int) + 20)) (.int .i64 ((a : Int) + 20 + 20)) w1 :=
        ⟨k + 1, a + 20, zs, by have := Hka.out; omega, by congr 1, by congr 1, hlt, hK.to hK1, hI.part hI1 (by omega) hlt, (hB.keepL hI1.out (Nat.le_refl _)).more Hka.out hS1 (Nat.le_refl _)⟩
      go_wp2
      go_roundw
      case rel => exact hrel2
      case measure => first | (simp [intOf]; done) | (simp [intOf]; omega)
    · have hlt' : ¬ (a : Int) + 20 ≤ (n : Int) := by omega
      go_wp2_with fail
      refine (insertion_calls g n cap ys _ hK.pr hK.lt (by omega) (a : Int) (n : Int) a n rfl rfl (by omega) (Nat.le_refl _)).mono ?_
      rintro e w1 ⟨rfl, zs, hK1, hI1, hS1⟩
      have hst : RelS w g n xs (.int .i64 20) w1 := ⟨20, zs, rfl, by omega, by omega, hK.to hK1, hI.part hI1 (by omega) (Nat.le_refl _), (hB.keepL hI1.out (Nat.le_refl _)).more Hka.out hS1 (by omega)⟩
      clear hB hI hK hK1 hI1 hS1
      go_wp2
      go_loopw [6, 7, 8, 9] (fun sv _ _ _ wr => RelS w g n xs sv wr) (fun sv _ _ _ _ => n - (intOf sv).toNat)
      case atStart => exact hst
      case round =>
        obtain ⟨s, vs, rfl, hs0, hs1, hK2, hI2, hB2⟩ := hrel
        have j0 : (0 : Int) < (s : Int) := by omega
        have j1 : (s : Int) ≤ 200020 := by omega
        by_cases hsn : s < n
        · have hsn' : (s : Int) < (n : Int) := by omega
          have hst2 : RelM w g n xs s (.int .i64 0) (.int .i64 (2 * (s : Int))) wr :=
            RelM.mk' (k := 0) (a := 0) _ _ (by omega) rfl (by congr 1; omega) (Nat.zero_le _) hK2 hI2 (Blk.zero _ _) hB2
          clear hK2 hI2 hB2
          go_wp2
          go_loopw [7, 8] (fun av bv wr => RelM w g n xs s av bv wr) (fun av _ _ => n - (intOf av).toNat)
          case atStart => exact hst2
          case round =>
            obtain ⟨k2, a2, us, hka2, rfl, rfl, han2, hK3, hI3, hB3, hC3⟩ := hrel
            have Hka2 := Lib.hid hka2
            clear hka2
            have l0 : (0 : Int) ≤ (a2 : Int) := by omega
            have l1 : (a2 : Int) ≤ 100000 := by omega
            by_cases hl2 : a2 + 2 * s ≤ n
            · have hl2' : (a2 : Int) + 2 * (s : Int) ≤ (n : Int) := by omega
              go_wp2_with fail
              refine (symMerge_calls g n cap us _ (by omega) a2 (a2 + s) (a2 + 2 * s) (a2 : Int) ((a2 : Int) + (s : Int)) ((a2 : Int) + 2 * (s : Int)) rfl (by omega) (by omega) (by omega) (by omega) hl2 hK3.pr hK3.lt (hC3.head.sub (Nat.le_refl _) (by omega)) (hC3.next.head.sub (Nat.le_refl _) (by omega))).mono ?_
              rintro e w4 ⟨rfl, zs4, hK4, hI4, hS4⟩
              have hC4 : Blk zs4 s (a2 + 2 * s) n := by
                have := hC3.next.next
                rw [show a2 + s + s = a2 + 2 * s by omega] at this
                exact this.keepR hI4.out
              have hrel2 : RelM w g n xs s (.int .i64 ((a2 : Int) + 2 * (s : Int))) (.int .i64 ((a2 : Int) + 2 * (s : Int) + 2 * (s : Int))) w4 :=
                RelM.mk' (k := k2 + 1) (a := a2 + 2 * s) _ _ (by have := Hka2.out; rw [Nat.add_mul, Nat.one_mul, this]) (by congr 1) (by congr 1) hl2 (hK3.to hK4) (hI3.part hI4 (by omega) hl2) ((hB3.keepL hI4.out (Nat.le_refl _)).more Hka2.out hS4 (Nat.le_refl _)) hC4
              go_wp2
              go_roundw
              case rel => exact hrel2
              case measure => first | (simp [intOf]; done) | (simp [intOf]; omega)
            · have hl2' : ¬ (a2 : Int) + 2 * (s : Int) ≤ (n : Int) := by omega
              by_cases hm : a2 + s < n
              · have hm' : (a2 : Int) + (s : Int) < (n : Int) := by omega
                go_wp2_with fail
                refine (symMerge_calls g n cap us _ (by omega) a2 (a2 + s) n (a2 : Int) ((a2 : Int) + (s : Int)) (n : Int) rfl (by omega) rfl (by omega) hm (Nat.le_refl _) hK3.pr hK3.lt (hC3.head.sub (Nat.le_refl _) (by omega)) (hC3.next.head.sub (Nat.le_refl _) (by omega))).mono ?_
                rintro e w4 ⟨rfl, zs4, hK4, hI4, hS4⟩
                have hrel2 : RelS w g n xs (.int .i64 ((s : Int) * 2)) w4 :=
                  ⟨2 * s, zs4, by congr 1; omega, by omega, by omega, hK3.to hK4, hI3.part hI4 (by omega) (Nat.le_refl _), (hB3.keepL hI4.out (Nat.le_refl _)).more Hka2.out hS4 (by omega)⟩
                go_wp2
                go_roundw
                case rel => exact hrel2
                case measure => first | (simp [intOf]; done) | (simp [intOf]; omega)
              · have hm' : ¬ (a2 : Int) + (s : Int) < (n : Int) := by omega
                have hrel2 : RelS w g n xs (.int .i64 ((s : Int) * 2)) wr :=
                  ⟨2 * s, us, by congr 1; omega, by omega, by omega, hK3, hI3, hB3.more Hka2.out (hC3.head.sub (Nat.le_refl _) (by omega)) (by omega)⟩
                go_wp2
                go_roundw
                case rel => exact hrel2
                case measure => first | (simp [intOf]; done) | (simp [intOf]; omega)
        · have hsn' : ¬ (s : Int) < (n : Int) := by omega
          go_wp2
          go_end0
          exact ⟨rfl, vs, hK2, hI2, hB2.head.sub (Nat.le_refl _) (by omega)⟩
theorem sort_calls (g n cap : Nat) (xs : Nat → E) (w : World) (h : PR w g n xs) (hg : g < w.heap.size) (hn : n ≤ 100000) :
    Calls Try.prog 39 #[.slice (some ⟨g, 0, none⟩) n cap, cmpV] w (MrgP w g n xs 0 n) := by
  go_enter Try.func39, Try.ntmps39
  go_wp2_with fail
  refine (stable_calls g n cap xs w h hg hn).mono ?_
  rintro e w1 ⟨rfl, hr⟩
  go_wp2
  go_end0
  exact ⟨rfl, hr⟩
def NilP (w : World) (e : Ending) (w' : World) : Prop := e = .returned (.tuple #[]) ∧ w' = w
theorem ins_nil (w : World) : Calls Try.prog 47 #[.slice none 0 0, .int .i64 0, .int .i64 0, cmpV] w (NilP w) := by
  go_enter Try.func47, Try.ntmps47
  go_wp2
  go_loopw [8] (fun i wr => i = .int .i64 1 ∧ wr = w) (fun _ _ => 0)
  case atStart => exact ⟨rfl, rfl⟩
  case round =>
    obtain ⟨rfl, rfl⟩ := hrel
    go_wp2
    go_end0
    exact ⟨rfl, rfl⟩
set_option maxRecDepth 100000 in
theorem stable_nil (w : World) : Calls Try.prog 45 #[.slice none 0 0, .int .i64 0, cmpV] w (NilP w) := by
  go_enter Try.func45, Try.ntmps45
  go_wp2
  go_loopw [7, 8] (fun av bv wr => av = .int .i64 0 ∧ bv = .int .i64 20 ∧ wr = w) (fun _ _ _ => 0)
  case atStart => exact ⟨rfl, rfl, rfl⟩
  case round =>
    obtain ⟨rfl, rfl, rfl⟩ := hrel
    go_wp2_with fail
    refine (ins_nil _).mono ?_
    rintro e w1 ⟨rfl, hw⟩
    subst hw
    go_wp2
    go_loopw [6, 7, 8, 9] (fun sv _ _ _ wr => sv = .int .i64 20 ∧ wr = w1) (fun _ _ _ _ _ => 0)
    case atStart => exact ⟨rfl, rfl⟩
    case round =>
      obtain ⟨rfl, rfl⟩ := hrel
      go_wp2
      go_end0
      exact ⟨rfl, rfl⟩
theorem sort_nil (w : World) : Calls Try.prog 39 #[.slice none 0 0, cmpV] w (NilP w) := by
  go_enter Try.func39, Try.ntmps39
  go_wp2_with fail
  refine (stable_nil _).mono ?_
  rintro e w1 ⟨rfl, hw⟩
  subst hw
  go_wp2
  go_end0
  exact ⟨rfl, rfl⟩
end Go.Proofs.Qxb6616141a
