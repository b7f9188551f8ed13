/-
  OWN TEXT. The functions of the laws that read bytes: bytesEq, shortlexLess, parseCanonicalDecimal, the guards.
-/
import Derived.Test.Qxb6616074aDoorChecked
import Derived.WalkKit
import Derived.WalkLawsBesides
import Derived.BigQuiet
import Derived.Below
namespace Go.Proofs.Qxb6616074aDoor
open Go.RowKit

/-- n bytes, the i-th f i, at a slice's address -/
structure By (w : World) (a : Option Addr) (sb so n : Nat) (f : Nat → Int) : Prop where
  addr : 0 < n → a = some ⟨sb, so, none⟩
  c : ∀ i, i < n → w.cell? ⟨sb, so + i, none⟩ = some (.int .u8 (f i))

theorem By.drewN {w : World} {a : Option Addr} {sb so n : Nat} {f : Nat → Int} (h : By w a sb so n f) (q : Nat) : By (w.drewN q) a sb so n f := ⟨h.addr, h.c⟩

theorem drewN_two (w : World) (a b : Nat) : (w.drewN a).drewN b = w.drewN (a + b) := by simp [World.drewN, Nat.add_assoc]
theorem drewN_three (w : World) (a b c : Nat) : ((w.drewN a).drewN b).drewN c = w.drewN (a + b + c) := by rw [drewN_two, drewN_two, Nat.add_assoc]

def RetPost (w : World) (v : Value) (e : Ending) (w' : World) : Prop := e = .returned v ∧ ∃ q, w' = w.drewN q

def eqF (n : Nat) (f g : Nat → Int) : Bool := decide (∀ i, i < n → f i = g i)

set_option maxRecDepth 100000 in
set_option maxHeartbeats 1000000 in
theorem bytesEq_calls (a b : Option Addr) (sb so tb tof n m ca cb : Nat) (f g : Nat → Int) (w : World) (h : By w a sb so n f) (k : By w b tb tof m g) (hn : n ≤ 1000000000) :
    Calls Tryd.prog 10 #[.slice a n ca, .slice b m cb] w (RetPost w (.bool (decide (n = m) && eqF n f g))) := by
  by_cases hnm : n = m
  · subst hnm
    have Hsb : Nat := 0
    go_enter Tryd.func10, Tryd.ntmps10
    go_wp2
    go_loopw [5] (fun i wr => ∃ (j q : Nat), j ≤ n ∧ i = .int .i64 j ∧ wr = w.drewN q ∧ ∀ l, l < j → f l = g l) (fun i _ => n - (intOf i).toNat)
    case atStart => exact ⟨0, 0, Nat.zero_le _, rfl, rfl, fun l hl => by omega⟩
    case round =>
      obtain ⟨j, q, hj, rfl, rfl, hall⟩ := hrel
      by_cases hlt : j < n
      · have ha := h.addr (by omega)
        have hb := k.addr (by omega)
        subst ha
        subst hb
        have hc := h.c j hlt
        have hd := k.c j hlt
        have hlt' : (j : Int) < (n : Int) := by omega
        by_cases hfg : f j = g j
        · have hne : (f j != g j) = false := by simpa using hfg
          go_wp2
          go_quiet (fail)
          go_wp2
          go_roundw
          case rel =>
            refine ⟨j + 1, q + nq, by omega, by go_num, rfl, fun l hl => ?_⟩
            rcases Nat.lt_or_eq_of_le (Nat.lt_succ_iff.1 hl) with h' | h'
            · exact hall l h'
            · subst h'; exact hfg
          case measure => simp [intOf]; omega
        · have hne : (f j != g j) = true := by simpa using hfg
          go_wp2
          go_quiet (fail)
          go_wp2
          go_ret
          refine ⟨?_, q + nq, drewN_two _ _ _⟩
          have : eqF n f g = false := by
            simp only [eqF, decide_eq_false_iff_not]
            intro hh
            exact hfg (hh j hlt)
          rw [this]; simp
      · have hlt' : ¬ (j : Int) < (n : Int) := by omega
        go_wp2
        go_ret
        refine ⟨?_, q, rfl⟩
        have : eqF n f g = true := by
          simp only [eqF, decide_eq_true_eq]
          intro i hi
          exact hall i (by omega)
        rw [this]; simp
  · have hne : ((n : Int) == (m : Int)) = false := by simp; omega
    go_enter Tryd.func10, Tryd.ntmps10
    go_wp2
    go_ret
    exact ⟨by simp [hnm], 0, rfl⟩
def lexAt (f g : Nat → Int) : Nat → Nat → Bool
  | _, 0 => false
  | j, k + 1 => if f j = g j then lexAt f g (j + 1) k else decide (f j < g j)

def slF (n m : Nat) (f g : Nat → Int) : Bool := if n = m then lexAt f g 0 n else decide (n < m)

set_option maxRecDepth 100000 in
set_option maxHeartbeats 1000000 in
theorem shortlex_calls (a b : Option Addr) (sb so tb tof n m ca cb : Nat) (f g : Nat → Int) (w : World) (h : By w a sb so n f) (k : By w b tb tof m g) (hn : n ≤ 1000000000) (hm : m ≤ 1000000000) :
    Calls Tryd.prog 13 #[.slice a n ca, .slice b m cb] w (RetPost w (.bool (slF n m f g))) := by
  by_cases hnm : n = m
  · subst hnm
    have e1 : slF n n f g = lexAt f g 0 n := by simp [slF]
    rw [e1]
    clear e1
    go_enter Tryd.func13, Tryd.ntmps13
    go_wp2
    go_loopw [5] (fun i wr => ∃ (j q : Nat), j ≤ n ∧ i = .int .i64 j ∧ wr = w.drewN q ∧ Hid (lexAt f g 0 n = lexAt f g j (n - j))) (fun i _ => n - (intOf i).toNat)
    case atStart => exact ⟨0, 0, Nat.zero_le _, rfl, rfl, (rfl : _ = _)⟩
    case round =>
      obtain ⟨j, q, hj, rfl, rfl, HE⟩ := hrel
      by_cases hlt : j < n
      · have ha := h.addr (by omega)
        have hb := k.addr (by omega)
        subst ha
        subst hb
        have hc := h.c j hlt
        have hd := k.c j hlt
        have hlt' : (j : Int) < (n : Int) := by omega
        have Hst : Hid (lexAt f g j (n - j) = if f j = g j then lexAt f g (j + 1) (n - (j + 1)) else decide (f j < g j)) := by
          obtain ⟨r, hr⟩ : ∃ r, n - j = r + 1 := ⟨n - j - 1, by omega⟩
          have hr2 : n - (j + 1) = r := by omega
          show _ = _
          rw [hr, hr2]; rfl
        by_cases hfg : f j = g j
        · have hne : (f j != g j) = false := by simpa using hfg
          have Hfg : Hid (f j = g j) := hfg
          clear hfg
          go_wp2
          go_quiet (fail)
          go_wp2
          go_roundw
          case rel =>
            refine ⟨j + 1, q + nq, by omega, by go_num, rfl, ?_⟩
            show _ = _
            rw [HE.out, Hst.out, if_pos Hfg.out]
          case measure => simp [intOf]; omega
        · have hne : (f j != g j) = true := by simpa using hfg
          have Hfg : Hid (¬ f j = g j) := hfg
          clear hfg
          go_wp2
          go_quiet (fail)
          go_wp2
          go_quiet (fail)
          go_wp2
          go_ret
          refine ⟨?_, _, drewN_three _ _ _ _⟩
          rw [HE.out, Hst.out, if_neg Hfg.out]
          rfl
      · have hlt' : ¬ (j : Int) < (n : Int) := by omega
        have e0 : n - j = 0 := by omega
        rw [e0] at HE
        go_wp2
        go_ret
        refine ⟨?_, q, rfl⟩
        rw [HE.out]; rfl
  · have hne : ((n : Int) == (m : Int)) = false := by simp; omega
    have e1 : slF n m f g = decide (n < m) := by simp [slF, hnm]
    rw [e1]
    go_enter Tryd.func13, Tryd.ntmps13
    go_wp2
    go_ret
    exact ⟨rfl, 0, rfl⟩

def valF (f : Nat → Int) : Nat → Int
  | 0 => 0
  | j + 1 => valF f j * 10 + (f j - 48)

theorem valF_bounds {f : Nat → Int} : ∀ n, (∀ i, i < n → 48 ≤ f i ∧ f i ≤ 57) → 0 ≤ valF f n ∧ ∀ j, j ≤ n → valF f j ≤ valF f n
  | 0, _ => ⟨Int.le_refl _, fun j hj => by (obtain rfl : j = 0 := by omega); exact Int.le_refl _⟩
  | n + 1, h => by
    obtain ⟨h0, h1⟩ := valF_bounds n (fun i hi => h i (by omega))
    have := h n (by omega)
    have e : valF f (n + 1) = valF f n * 10 + (f n - 48) := rfl
    refine ⟨by omega, fun j hj => ?_⟩
    rcases Nat.lt_or_eq_of_le hj with h' | h'
    · have := h1 j (by omega)
      omega
    · subst h'; exact Int.le_refl _

set_option maxRecDepth 100000 in
set_option maxHeartbeats 1000000 in
theorem parse_calls (a : Option Addr) (sb so n ca : Nat) (f : Nat → Int) (w : World) (h : By w a sb so n f) (h1 : 1 ≤ n) (h20 : n ≤ 20) (hz : 1 < n → f 0 ≠ 48) (hd : ∀ i, i < n → 48 ≤ f i ∧ f i ≤ 57) (hv : valF f n ≤ 18446744073709551615) :
    Calls Tryd.prog 11 #[.slice a n ca] w fun e w' => e = .returned (.tuple #[.int .u64 (valF f n), .bool true]) ∧ w' = w := by
  have ha := h.addr (by omega)
  subst ha
  have hne : ((n : Int) == 0) = false := by simp; omega
  have hn20 : ¬ (20 : Int) < (n : Int) := by omega
  have hc0 := h.c 0 (by omega)
  simp only [Nat.add_zero] at hc0
  by_cases h1n : (1 : Int) < (n : Int)
  · have hz2 : (f 0 == 48) = false := by simpa using hz (by omega)
    clear hz
    go_enter Tryd.func11, Tryd.ntmps11
    go_wp2
    go_loop [4, 5] (fun v i => ∃ (j : Nat), j ≤ n ∧ i = .int .i64 j ∧ v = .int .u64 (valF f j)) (fun _ i => n - (intOf i).toNat)
    case atStart => exact ⟨0, Nat.zero_le _, rfl, rfl⟩
    case round =>
      obtain ⟨j, hj, rfl, rfl⟩ := hrel
      by_cases hlt : j < n
      · have hc := h.c j hlt
        have hlt' : (j : Int) < (n : Int) := by omega
        obtain ⟨d0, d9⟩ := hd j hlt
        have v0 := (valF_bounds j (fun i hi => hd i (by omega))).1
        have v1 : valF f (j + 1) ≤ valF f n := (valF_bounds n hd).2 (j + 1) hlt
        have ev : valF f (j + 1) = valF f j * 10 + (f j - 48) := rfl
        have v2 : valF f j * 10 + (f j - 48) ≤ 18446744073709551615 := by omega
        have Hn : Hid (valF f (j + 1) = valF f j * 10 + (f j - 48)) := ev
        clear ev v1 hd hv
        generalize valF f j = V at v0 v2 Hn ⊢
        generalize f j = c at hc d0 d9 v2 Hn
        have m0 : 0 ≤ c - 48 := by omega
        have m1 : c - 48 ≤ 9 := by omega
        have hnc1 : ¬ c < 48 := by omega
        have hnc2 : ¬ 57 < c := by omega
        have hq : ¬ (18446744073709551615 - (c - 48)) / 10 < V := by omega
        go_wp2
        go_round
        case rel => exact ⟨j + 1, hlt, by go_num, by rw [Hn.out]⟩
        case measure => simp [intOf]; omega
      · have hlt' : ¬ (j : Int) < (n : Int) := by omega
        obtain rfl : j = n := by omega
        go_wp2
        go_ret2
        exact ⟨rfl, rfl⟩
  · clear hz
    go_enter Tryd.func11, Tryd.ntmps11
    go_wp2
    go_loop [4, 5] (fun v i => ∃ (j : Nat), j ≤ n ∧ i = .int .i64 j ∧ v = .int .u64 (valF f j)) (fun _ i => n - (intOf i).toNat)
    case atStart => exact ⟨0, Nat.zero_le _, rfl, rfl⟩
    case round =>
      obtain ⟨j, hj, rfl, rfl⟩ := hrel
      by_cases hlt : j < n
      · have hc := h.c j hlt
        have hlt' : (j : Int) < (n : Int) := by omega
        obtain ⟨d0, d9⟩ := hd j hlt
        have v0 := (valF_bounds j (fun i hi => hd i (by omega))).1
        have v1 : valF f (j + 1) ≤ valF f n := (valF_bounds n hd).2 (j + 1) hlt
        have ev : valF f (j + 1) = valF f j * 10 + (f j - 48) := rfl
        have v2 : valF f j * 10 + (f j - 48) ≤ 18446744073709551615 := by omega
        have Hn : Hid (valF f (j + 1) = valF f j * 10 + (f j - 48)) := ev
        clear ev v1 hd hv
        generalize valF f j = V at v0 v2 Hn ⊢
        generalize f j = c at hc d0 d9 v2 Hn
        have m0 : 0 ≤ c - 48 := by omega
        have m1 : c - 48 ≤ 9 := by omega
        have hnc1 : ¬ c < 48 := by omega
        have hnc2 : ¬ 57 < c := by omega
        have hq : ¬ (18446744073709551615 - (c - 48)) / 10 < V := by omega
        go_wp2
        go_round
        case rel => exact ⟨j + 1, hlt, by go_num, by rw [Hn.out]⟩
        case measure => simp [intOf]; omega
      · have hlt' : ¬ (j : Int) < (n : Int) := by omega
        obtain rfl : j = n := by omega
        go_wp2
        go_ret2
        exact ⟨rfl, rfl⟩
end Go.Proofs.Qxb6616074aDoor
