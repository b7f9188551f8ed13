/-
  OWN TEXT. The guards over keys and traces.
-/
import Derived.Test.Qxb6616141aTrc
import Derived.Test.Qxb6616141aGuard
namespace Go.Proofs.Qxb6616141a
open Go.RowKit
set_option maxRecDepth 100000 in
set_option maxHeartbeats 8000000 in
theorem bytes_calls (da ta a : Option Addr) (dn dc tn tc tb to n cap : Nat) (CH EN : Nat → Bool) (A : Nat → Option Addr) (L C IB IQ : Nat → Nat) (X : Nat → Nat → E) (cut : Int) (w : World) (h : TrsAt w a tb to n CH EN A L C IB IQ X) :
    Calls Try.prog 13 #[.slice da dn dc, .slice ta tn tc, .slice a n cap, .int .i64 cut] w (BoolP w) := by
  have d0 : (0 : Int) ≤ (dn : Int) := by omega
  have t0 : (0 : Int) ≤ (tn : Int) := by omega
  have n0 : (0 : Int) ≤ (n : Int) := by omega
  by_cases h1 : (1048576 : Int) < (dn : Int)
  · go_enter Try.func13, Try.ntmps13
    go_wp2
    go_ret
    exact ⟨⟨false, rfl⟩, rfl⟩
  · by_cases h2 : (1048576 : Int) < (tn : Int)
    · go_enter Try.func13, Try.ntmps13
      go_wp2
      go_ret
      exact ⟨⟨false, rfl⟩, rfl⟩
    · by_cases h3 : (1048576 : Int) < (dn : Int) + (tn : Int)
      · go_enter Try.func13, Try.ntmps13
        go_wp2
        go_ret
        exact ⟨⟨false, rfl⟩, rfl⟩
      · by_cases h4 : (1048576 : Int) < (n : Int)
        · go_enter Try.func13, Try.ntmps13
          go_wp2
          go_ret
          exact ⟨⟨false, rfl⟩, rfl⟩
        · by_cases h5 : (1048576 : Int) < (dn : Int) + (tn : Int) + (n : Int)
          · go_enter Try.func13, Try.ntmps13
            go_wp2
            go_ret
            exact ⟨⟨false, rfl⟩, rfl⟩
          · go_enter Try.func13, Try.ntmps13
            go_wp2
            go_loop [9, 10] (fun z i => ∃ (k : Nat) (q : Int), k ≤ n ∧ i = .int .i64 k ∧ z = .int .i64 q ∧ 0 ≤ q ∧ q ≤ 1048576) (fun _ i => n - (intOf i).toNat)
            case atStart => exact ⟨0, _, Nat.zero_le _, rfl, rfl, by omega, by omega⟩
            case round =>
              obtain ⟨k, q, hk, rfl, rfl, hq0, hq1⟩ := hrel
              by_cases hlt : k < n
              · have ha := h.addr (by omega)
                subst ha
                have hc := h.c2 k hlt
                have hlt' : (k : Int) < (n : Int) := by omega
                by_cases hL : (1048576 : Int) < (L k : Int)
                · go_wp2
                  go_ret
                  exact ⟨⟨false, rfl⟩, rfl⟩
                · have hL0 : (0 : Int) ≤ (L k : Int) := by omega
                  by_cases hs : (1048576 : Int) < q + (L k : Int)
                  · go_wp2
                    go_ret
                    exact ⟨⟨false, rfl⟩, rfl⟩
                  · go_wp2
                    go_round
                    case rel => exact ⟨k + 1, q + (L k : Int), hlt, by go_num, rfl, by omega, by omega⟩
                    case measure => simp [intOf]; omega
              · have hlt' : ¬ (k : Int) < (n : Int) := by omega
                go_wp2
                go_ret
                exact ⟨⟨true, rfl⟩, rfl⟩
def PtbP (w : World) (dn tn n : Nat) (L : Nat → Nat) (e : Ending) (w' : World) : Prop := (∃ b, e = .returned (.bool b) ∧ (b = false → dn ≤ 4096 ∧ tn ≤ 4096 ∧ n ≤ 4096 ∧ ∀ i, i < n → L i ≤ 4096)) ∧ w' = w
set_option maxRecDepth 100000 in
set_option maxHeartbeats 8000000 in
theorem tooBigP_calls (da ta a : Option Addr) (dn dc tn tc tb to n cap : Nat) (CH EN : Nat → Bool) (A : Nat → Option Addr) (L C IB IQ : Nat → Nat) (X : Nat → Nat → E) (w : World) (h : TrsAt w a tb to n CH EN A L C IB IQ X) :
    Calls Try.prog 14 #[.slice da dn dc, .slice ta tn tc, .slice a n cap] w (PtbP w dn tn n L) := by
  have d0 : (0 : Int) ≤ (dn : Int) := by omega
  have t0 : (0 : Int) ≤ (tn : Int) := by omega
  have n0 : (0 : Int) ≤ (n : Int) := by omega
  by_cases h1 : (4096 : Int) < (dn : Int)
  · go_enter Try.func14, Try.ntmps14
    go_wp2
    go_ret
    exact ⟨⟨true, rfl, by simp⟩, rfl⟩
  · by_cases h2 : (4096 : Int) < (tn : Int)
    · go_enter Try.func14, Try.ntmps14
      go_wp2
      go_ret
      exact ⟨⟨true, rfl, by simp⟩, rfl⟩
    · by_cases h4 : (4096 : Int) < (n : Int)
      · go_enter Try.func14, Try.ntmps14
        go_wp2
        go_ret
        exact ⟨⟨true, rfl, by simp⟩, rfl⟩
      · go_enter Try.func14, Try.ntmps14
        go_wp2
        go_loop [7, 8, 9] (fun z c i => ∃ (k : Nat) (q r : Int), k ≤ n ∧ i = .int .i64 k ∧ z = .int .i64 q ∧ c = .int .i64 r ∧ 0 ≤ q ∧ q ≤ 1048576 ∧ 0 ≤ r ∧ r ≤ 4096 ∧ ∀ j, j < k → L j ≤ 4096) (fun _ _ i => n - (intOf i).toNat)
        case atStart => exact ⟨0, _, 0, Nat.zero_le _, rfl, rfl, rfl, by omega, by omega, by omega, by omega, fun j hj => by omega⟩
        case round =>
          obtain ⟨k, q, r, hk, rfl, rfl, rfl, hq0, hq1, hr0, hr1, hall⟩ := hrel
          by_cases hlt : k < n
          · have ha := h.addr (by omega)
            subst ha
            have hc := h.c2 k hlt
            have hlt' : (k : Int) < (n : Int) := by omega
            by_cases hL : (4096 : Int) < (L k : Int)
            · go_wp2
              go_ret
              exact ⟨⟨true, rfl, by simp⟩, rfl⟩
            · have hL0 : (0 : Int) ≤ (L k : Int) := by omega
              by_cases hs : (4096 : Int) < r + (L k : Int)
              · go_wp2
                go_ret
                exact ⟨⟨true, rfl, by simp⟩, rfl⟩
              · by_cases hs2 : (1048576 : Int) < q + (32 + 24 * (L k : Int))
                · go_wp2
                  go_ret
                  exact ⟨⟨true, rfl, by simp⟩, rfl⟩
                · have hall2 : ∀ j, j < k + 1 → L j ≤ 4096 := fun j hj => by
                    by_cases e : j = k
                    · subst e; omega
                    · exact hall j (by omega)
                  go_wp2
                  go_round
                  case rel => exact ⟨k + 1, q + (32 + 24 * (L k : Int)), r + (L k : Int), hlt, by go_num, rfl, rfl, by omega, by omega, by omega, by omega, hall2⟩
                  case measure => simp [intOf]; omega
          · have hlt' : ¬ (k : Int) < (n : Int) := by omega
            (obtain rfl : k = n := by omega)
            go_wp2
            go_ret
            exact ⟨⟨false, rfl, fun _ => ⟨by omega, by omega, by omega, hall⟩⟩, rfl⟩
end Go.Proofs.Qxb6616141a
