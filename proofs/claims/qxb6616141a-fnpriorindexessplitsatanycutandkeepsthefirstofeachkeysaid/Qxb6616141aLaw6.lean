/-
  OWN TEXT. FnShowingSplitsAtAnyCut: the walk.
-/
import Derived.Test.Qxb6616141aOuts
namespace Go.Proofs.Qxb6616141a
open Go.RowKit

theorem OutAt.head {w : World} {a : Option Addr} {ob oo n c : Nat} {A : Nat → Option Addr} {L C EB EO : Nat → Nat} {F : Nat → Nat → ByteArray} (h : OutAt w a ob oo n A L C EB EO F) (hc : c ≤ n) : OutAt w a ob oo c A L C EB EO F :=
  ⟨fun h' => h.addr (by omega), fun i hi => h.c i (by omega), fun i hi => h.d i (by omega), fun i hi => h.r i (by omega)⟩
theorem OutAt.tail {w : World} {a : Option Addr} {ob oo n c : Nat} {A : Nat → Option Addr} {L C EB EO : Nat → Nat} {F : Nat → Nat → ByteArray} (h : OutAt w a ob oo n A L C EB EO F) (hc : c ≤ n) :
    OutAt w (some ⟨ob, oo + c * 2, none⟩) ob (oo + c * 2) (n - c) (fun i => A (c + i)) (fun i => L (c + i)) (fun i => C (c + i)) (fun i => EB (c + i)) (fun i => EO (c + i)) (fun i => F (c + i)) :=
  ⟨fun _ => rfl, fun i hi => by rw [show oo + c * 2 + i * 2 = oo + (c + i) * 2 by omega]; exact h.c (c + i) (by omega), fun i hi => by rw [show oo + c * 2 + i * 2 + 1 = oo + (c + i) * 2 + 1 by omega]; exact h.d (c + i) (by omega), fun i hi => h.r (c + i) (by omega)⟩

theorem cntF_split (L : Nat → Nat) (F : Nat → Nat → ByteArray) (s : ByteArray) (c : Nat) : ∀ k, cntF L F s (c + k) = cntF L F s c + cntF (fun i => L (c + i)) (fun i => F (c + i)) s k
  | 0 => rfl
  | k + 1 => by
    have := cntF_split L F s c k
    show cntF L F s (c + k) + (if hasF (F (c + k)) s (L (c + k)) then 1 else 0) = _
    rw [this]
    simp only [cntF]
    omega

theorem NmAt.below {w w' : World} {a : Option Addr} {nb no n : Nat} {A : Nat → Option Addr} {L C IB IQ : Nat → Nat} {F : Nat → Nat → ByteArray} (h : NmAt w a nb no n A L C IB IQ F) (hb : Below w.heap.size w w') : NmAt w' a nb no n A L C IB IQ F :=
  ⟨h.addr, fun i hi => below_cell hb (h.c i hi), fun i hi => (h.r i hi).below hb⟩

theorem tail_run (g n c : Nat) (hc : c ≤ n) : ∃ A', (∀ W, (Instr.slice 25 (.slice (some ⟨g, 0, none⟩) n n) (some (.int .i64 c)) none none).run Try.prog W = .ok (.slice A' (n - c) (n - c)) W) ∧ (0 < n - c → A' = some ⟨g, c * 2, none⟩) := by
  refine ⟨if n = c then some ⟨g, 0, none⟩ else some ⟨g, c * 2, none⟩, fun W => ?_, fun h => by rw [if_neg (by omega)]⟩
  rw [run_slice_l W 25 _ n n (by kernel_rfl) .i64 c (by omega) (by omega)]
  have hsz : (sizeOf (Try.prog.elem 25)).run Try.prog W = .ok 2 W := by kernel_rfl
  rw [hsz]
  simp only [Result.andThen, sliced, Int.toNat_natCast, Option.map]
  by_cases hnc : n = c
  · simp [hnc]
  · simp only [hnc, if_false, Addr.add, Nat.zero_add]
    by_cases h0 : c * 2 = 0
    · rw [if_pos h0, h0]
    · rw [if_neg h0]

theorem OutAt.tailA {w : World} {a a' : Option Addr} {ob oo n c : Nat} {A : Nat → Option Addr} {L C EB EO : Nat → Nat} {F : Nat → Nat → ByteArray} (h : OutAt w a ob oo n A L C EB EO F) (hc : c ≤ n) (ha : 0 < n - c → a' = some ⟨ob, oo + c * 2, none⟩) :
    OutAt w a' ob (oo + c * 2) (n - c) (fun i => A (c + i)) (fun i => L (c + i)) (fun i => C (c + i)) (fun i => EB (c + i)) (fun i => EO (c + i)) (fun i => F (c + i)) :=
  let k := h.tail hc
  ⟨ha, k.c, k.d, k.r⟩

set_option maxRecDepth 100000 in
set_option maxHeartbeats 2000000 in
theorem law3 (a : Option Addr) (nb no n cap : Nat) (A : Nat → Option Addr) (L C IB IQ : Nat → Nat) (F : Nat → Nat → ByteArray) (s : ByteArray) (cut : Int) (w : World) (h : NmAt w a nb no n A L C IB IQ F) :
    Calls Try.prog 3 #[.slice a n cap, .string s, .int .i64 cut] w (TB w (.bool true)) := by
  have s0 : (0 : Int) ≤ (s.size : Int) := by omega
  go_enter Try.func3, Try.ntmps3
  go_wp2_with fail
  refine (zz6_calls a nb no n cap A L C IB IQ F w h s cut).mono ?_
  rintro e w1 ⟨⟨b, rfl, hsz0⟩, hw⟩
  subst hw
  cases b with
  | false =>
    go_wp2
    go_ret
    exact ⟨rfl, Below.refl _ _⟩
  | true =>
    have hsz := hsz0 rfl
    clear hsz0
    by_cases h1 : (1048576 : Int) < (s.size : Int)
    · go_wp2
      go_ret
      exact ⟨rfl, Below.refl _ _⟩
    by_cases h2 : (65536 : Int) < (n : Int)
    · go_wp2
      go_ret
      exact ⟨rfl, Below.refl _ _⟩
    go_wp2_with fail
    refine (tooBig_calls a nb no n cap A L C IB IQ F w1 h (s.size : Int) s0 (by omega) hsz).mono ?_
    rintro e w2 ⟨⟨b, rfl, hb⟩, hw⟩
    subst hw
    cases b with
    | true =>
      go_wp2
      go_ret
      exact ⟨rfl, Below.refl _ _⟩
    | false =>
      obtain ⟨hn, hL⟩ := hb rfl
      by_cases h3 : cut < 0
      · go_wp2
        go_ret
        exact ⟨rfl, Below.refl _ _⟩
      by_cases h4 : (n : Int) < cut
      · go_wp2
        go_ret
        exact ⟨rfl, Below.refl _ _⟩
      obtain ⟨c, rfl⟩ : ∃ c : Nat, cut = (c : Int) := ⟨cut.toNat, by omega⟩
      have hcn : c ≤ n := by omega
      have hcn' : (c : Int) ≤ (n : Int) := by omega
      have hc0 : (0 : Int) ≤ (c : Int) := by omega
      have hnn : (n : Int) ≤ (n : Int) := by omega
      go_wp2_with fail
      refine (outcomes_calls a nb no n cap A L C IB IQ F w2 h hn hL).mono ?_
      rintro e w3 ⟨g, E, rfl, hO, hB3, hg, hE⟩
      go_wp2_with fail
      refine (showing_calls _ g 0 n n _ L _ E _ F s w3 hO (by omega) (fun i hi => by have := hL i hi; omega)).mono ?_
      rintro e w4 ⟨rfl, hB4⟩
      have hO4 := hO.below hB4
      go_wp2_with fail
      refine (showing_calls _ g 0 c n _ L _ E _ F s w4 (hO4.head hcn) (by omega) (fun i hi => by have := hL i (by omega); omega)).mono ?_
      rintro e w5 ⟨rfl, hB5⟩
      have hO5 := hO4.below hB5
      obtain ⟨A', hsl, hA'⟩ := tail_run g n c hcn
      go_wp2_with fail
      refine (showing_calls A' g (0 + c * 2) (n - c) (n - c) _ (fun i => L (c + i)) _ _ _ (fun i => F (c + i)) s w5 (hO5.tailA hcn (by rw [Nat.zero_add]; exact hA')) (by omega) (fun i hi => by have := hL (c + i) (by omega); omega)).mono ?_
      rintro e w6 ⟨rfl, hB6⟩
      have hBall := below_tr (below_tr (below_tr hB3 hB4) hB5) hB6
      have h6 := h.below hBall
      have hsp := cntF_split L F s c (n - c)
      rw [show c + (n - c) = n by omega] at hsp
      clear hsl hA'
      go_wp2
      go_loopw [11, 12, 13] (fun z l i wr => ∃ (j : Nat), j ≤ n ∧ i = .int .i64 j ∧ z = .int .i64 (cntF L F s j) ∧ l = .int .i64 (cntF L F s (min j c)) ∧ wr = w6) (fun _ _ i _ => n - (intOf i).toNat)
      case atStart => exact ⟨0, Nat.zero_le _, rfl, rfl, by rw [Nat.zero_min]; rfl, rfl⟩
      case round =>
        obtain ⟨j, hj, rfl, rfl, rfl, hwr⟩ := hrel
        subst hwr
        by_cases hlt : j < n
        · have ha := h6.addr (by omega)
          subst ha
          have hc := h6.c j hlt
          have hlt' : (j : Int) < (n : Int) := by omega
          have hle := cntF_le L F s j
          have hi0 : (0 : Int) ≤ (cntF L F s j : Int) := by omega
          have hi1 : (cntF L F s j : Int) ≤ 1000000 := by omega
          have hle' := cntF_le L F s (min j c)
          have hj0 : (0 : Int) ≤ (cntF L F s (min j c) : Int) := by omega
          have hj1 : (cntF L F s (min j c) : Int) ≤ 1000000 := by omega
          go_wp2_with fail
          refine (shows_calls (A j) (IB j) (IQ j) (L j) (C j) (F j) s _ (h6.r j hlt) (by have := hL j hlt; omega)).mono ?_
          rintro e w7 ⟨rfl, hw7⟩
          subst hw7
          cases he : hasF (F j) s (L j) with
          | true =>
            have He := Lib.hid he
            clear he
            have hcnt : Hid (cntF L F s (j + 1) = cntF L F s j + 1) := Lib.hid (by simp only [cntF, He.out]; rfl)
            by_cases hjc : (j : Int) < (c : Int)
            · go_wp2
              go_roundw
              case rel => exact ⟨j + 1, hlt, by go_num, by rw [hcnt.out]; simp, by rw [show min (j + 1) c = j + 1 by omega, show min j c = j by omega, hcnt.out]; simp, trivial⟩
              case measure => simp [intOf]; omega
            · go_wp2
              go_roundw
              case rel => exact ⟨j + 1, hlt, by go_num, by rw [hcnt.out]; simp, by rw [show min (j + 1) c = min j c by omega], trivial⟩
              case measure => simp [intOf]; omega
          | false =>
            have He := Lib.hid he
            clear he
            have hcnt : Hid (cntF L F s (j + 1) = cntF L F s j) := Lib.hid (by simp only [cntF, He.out]; rfl)
            go_wp2
            go_roundw
            case rel =>
              refine ⟨j + 1, hlt, by go_num, by rw [hcnt.out], ?_, trivial⟩
              by_cases hjc : j < c
              · rw [show min (j + 1) c = j + 1 by omega, show min j c = j by omega, hcnt.out]
              · rw [show min (j + 1) c = min j c by omega]
            case measure => simp [intOf]; omega
        · have hlt' : ¬ (j : Int) < (n : Int) := by omega
          (obtain rfl : j = n := by omega)
          rw [show min j c = c by omega]
          have hsum : ((cntF L F s c : Int) + (cntF (fun i => L (c + i)) (fun i => F (c + i)) s (j - c) : Int)) = (cntF L F s j : Int) := by omega
          generalize cntF (fun i => L (c + i)) (fun i => F (c + i)) s (j - c) = R at hsum ⊢
          have hle := cntF_le L F s j
          have hm0 : (0 : Int) ≤ (cntF L F s j : Int) := by omega
          have hm1 : (cntF L F s j : Int) ≤ 1000000 := by omega
          go_wp2
          go_ret
          exact ⟨by simp, hBall⟩
end Go.Proofs.Qxb6616141a
