/-
  OWN TEXT. The guards over the lists of names.
-/
import Derived.Test.Qxb6616141aRead
namespace Go.Proofs.Qxb6616141a
open Go.RowKit

def BoolP (w : World) (e : Ending) (w' : World) : Prop := (∃ b, e = .returned (.bool b)) ∧ w' = w
def BigP (w : World) (n : Nat) (L : Nat → Nat) (e : Ending) (w' : World) : Prop := (∃ b, e = .returned (.bool b) ∧ (b = false → n ≤ 65536 ∧ ∀ i, i < n → L i ≤ 65536)) ∧ w' = w

def SzRow (f : Nat → ByteArray) (m : Nat) : Prop := ∀ j, j < m → (f j).size ≤ 1048576
def SzLe (L : Nat → Nat) (F : Nat → Nat → ByteArray) (k : Nat) : Prop := ∀ i, i < k → SzRow (F i) (L i)
theorem SzRow.step {f : Nat → ByteArray} {m : Nat} (h : SzRow f m) (h' : ¬ (1048576 : Int) < ((f m).size : Int)) : SzRow f (m + 1) := fun j hj => by
  rcases Nat.lt_or_eq_of_le (Nat.lt_succ_iff.1 hj) with h2 | h2
  · exact h j h2
  · subst h2; omega
theorem SzLe.step {L : Nat → Nat} {F : Nat → Nat → ByteArray} {k : Nat} (h : SzLe L F k) (h' : SzRow (F k) (L k)) : SzLe L F (k + 1) := fun j hj => by
  rcases Nat.lt_or_eq_of_le (Nat.lt_succ_iff.1 hj) with h2 | h2
  · exact h j h2
  · subst h2; exact h'
def GrdP (w : World) (p : Prop) (e : Ending) (w' : World) : Prop := (∃ b, e = .returned (.bool b) ∧ (b = true → p)) ∧ w' = w

set_option maxRecDepth 100000 in
set_option maxHeartbeats 1000000 in
theorem tooBig_calls (a : Option Addr) (nb no n cap : Nat) (A : Nat → Option Addr) (L C IB IQ : Nat → Nat) (F : Nat → Nat → ByteArray) (w : World) (h : NmAt w a nb no n A L C IB IQ F) (base : Int) (hb0 : 0 ≤ base) (hb1 : base ≤ 1048576) (hsz : SzLe L F n) :
    Calls Try.prog 7 #[.slice a n cap, .int .i64 base] w (BigP w n L) := by
  by_cases hbig : (65536 : Int) < (n : Int)
  · go_enter Try.func7, Try.ntmps7
    go_wp2
    go_ret
    exact ⟨⟨true, rfl, by simp⟩, rfl⟩
  · have hb2 : ¬ (65536 : Int) < (n : Int) := hbig
    go_enter Try.func7, Try.ntmps7
    go_wp2
    go_loop [5, 6] (fun z i => ∃ (k : Nat) (q : Int), k ≤ n ∧ i = .int .i64 k ∧ z = .int .i64 q ∧ 0 ≤ q ∧ q ≤ 1048576 ∧ ∀ j, j < k → L j ≤ 65536) (fun _ i => n - (intOf i).toNat)
    case atStart => exact ⟨0, base, Nat.zero_le _, rfl, rfl, hb0, hb1, fun j hj => by omega⟩
    case round =>
      obtain ⟨k, q, hk, rfl, rfl, hq0, hq1, hall⟩ := hrel
      by_cases hlt : k < n
      · have ha := h.addr (by omega)
        subst ha
        have hc := h.c k hlt
        have hr := h.r k hlt
        have hlt' : (k : Int) < (n : Int) := by omega
        by_cases hL : (65536 : Int) < (L k : Int)
        · go_wp2
          go_ret
          exact ⟨⟨true, rfl, by simp⟩, rfl⟩
        · have hL' : (L k : Int) ≤ 65536 := by omega
          have hL0 : (0 : Int) ≤ (L k : Int) := by omega
          by_cases hs2 : (1048576 : Int) < q + (24 + 16 * (L k : Int))
          · go_wp2
            go_ret
            exact ⟨⟨true, rfl, by simp⟩, rfl⟩
          · go_wp2
            go_loop [5, 7] (fun z i => ∃ (k2 : Nat) (q2 : Int), k2 ≤ L k ∧ i = .int .i64 k2 ∧ z = .int .i64 q2 ∧ 0 ≤ q2 ∧ q2 ≤ 1048576) (fun _ i => L k - (intOf i).toNat)
            case atStart => exact ⟨0, q + (24 + 16 * (L k : Int)), Nat.zero_le _, rfl, rfl, by omega, by omega⟩
            case round =>
              obtain ⟨k2, q2, hk2, rfl, rfl, hq20, hq21⟩ := hrel
              by_cases hlt2 : k2 < L k
              · have e := hr.addr (by omega)
                rw [e] at hc
                clear e
                have hd := hr.c k2 hlt2
                have hlt2' : (k2 : Int) < (L k : Int) := by omega
                have z0 : (0 : Int) ≤ ((F k k2).size : Int) := by omega
                have z1 : ((F k k2).size : Int) ≤ 1048576 := by have := hsz k hlt k2 hlt2; omega
                by_cases hs3 : (1048576 : Int) < q2 + ((F k k2).size : Int)
                · go_wp2
                  go_ret
                  exact ⟨⟨true, rfl, by simp⟩, rfl⟩
                · go_wp2
                  go_round
                  case rel => exact ⟨k2 + 1, q2 + ((F k k2).size : Int), by omega, by go_num, rfl, by omega, by omega⟩
                  case measure => simp [intOf]; omega
              · have hlt2' : ¬ (k2 : Int) < (L k : Int) := by omega
                go_wp2
                go_round
                case rel =>
                  refine ⟨k + 1, q2, by omega, by go_num, rfl, by omega, by omega, fun j hj => ?_⟩
                  rcases Nat.lt_or_eq_of_le (Nat.lt_succ_iff.1 hj) with h' | h'
                  · exact hall j h'
                  · subst h'; omega
                case measure => simp [intOf]; omega
      · have hlt' : ¬ (k : Int) < (n : Int) := by omega
        go_wp2
        go_ret
        exact ⟨⟨false, rfl, fun _ => ⟨by omega, fun i hi => hall i (by omega)⟩⟩, rfl⟩
set_option maxRecDepth 100000 in
set_option maxHeartbeats 1000000 in
theorem zz6_calls (a : Option Addr) (nb no n cap : Nat) (A : Nat → Option Addr) (L C IB IQ : Nat → Nat) (F : Nat → Nat → ByteArray) (w : World) (h : NmAt w a nb no n A L C IB IQ F) (s : ByteArray) (cut : Int) :
    Calls Try.prog 6 #[.slice a n cap, .string s, .int .i64 cut] w (GrdP w (SzLe L F n)) := by
  have s0 : (0 : Int) ≤ (s.size : Int) := by omega
  by_cases hbig : (1048576 : Int) < (n : Int)
  · go_enter Try.func6, Try.ntmps6
    go_wp2
    go_ret
    exact ⟨⟨false, rfl, by simp⟩, rfl⟩
  · have hb2 : ¬ (1048576 : Int) < (n : Int) := hbig
    go_enter Try.func6, Try.ntmps6
    go_wp2
    go_loop [7, 8] (fun z i => ∃ (k : Nat) (q : Int), k ≤ n ∧ i = .int .i64 k ∧ z = .int .i64 q ∧ 0 ≤ q ∧ q ≤ 1048576 ∧ SzLe L F k) (fun _ i => n - (intOf i).toNat)
    case atStart => exact ⟨0, n, Nat.zero_le _, rfl, rfl, by omega, by omega, fun i hi => by omega⟩
    case round =>
      obtain ⟨k, q, hk, rfl, rfl, hq0, hq1, hall⟩ := hrel
      by_cases hlt : k < n
      · have ha := h.addr (by omega)
        subst ha
        have hc := h.c k hlt
        have hr := h.r k hlt
        have hlt' : (k : Int) < (n : Int) := by omega
        by_cases hL : (1048576 : Int) < (L k : Int)
        · go_wp2
          go_ret
          exact ⟨⟨false, rfl, by simp⟩, rfl⟩
        · have hL' : (L k : Int) ≤ 1048576 := by omega
          have hL0 : (0 : Int) ≤ (L k : Int) := by omega
          by_cases hs2 : (1048576 : Int) < q + (L k : Int)
          · go_wp2
            go_ret
            exact ⟨⟨false, rfl, by simp⟩, rfl⟩
          · go_wp2
            go_loop [7, 9] (fun z i => ∃ (k2 : Nat) (q2 : Int), k2 ≤ L k ∧ i = .int .i64 k2 ∧ z = .int .i64 q2 ∧ 0 ≤ q2 ∧ q2 ≤ 1048576 ∧ SzRow (F k) k2) (fun _ i => L k - (intOf i).toNat)
            case atStart => exact ⟨0, q + (L k : Int), Nat.zero_le _, rfl, rfl, by omega, by omega, fun j hj => by omega⟩
            case round =>
              obtain ⟨k2, q2, hk2, rfl, rfl, hq20, hq21, hin⟩ := hrel
              by_cases hlt2 : k2 < L k
              · have e := hr.addr (by omega)
                rw [e] at hc
                clear e
                have hd := hr.c k2 hlt2
                have hlt2' : (k2 : Int) < (L k : Int) := by omega
                have z0 : (0 : Int) ≤ ((F k k2).size : Int) := by omega
                by_cases hs4 : (1048576 : Int) < ((F k k2).size : Int)
                · go_wp2
                  go_ret
                  exact ⟨⟨false, rfl, by simp⟩, rfl⟩
                · by_cases hs3 : (1048576 : Int) < q2 + ((F k k2).size : Int)
                  · go_wp2
                    go_ret
                    exact ⟨⟨false, rfl, by simp⟩, rfl⟩
                  · go_wp2
                    go_round
                    case rel => exact ⟨k2 + 1, q2 + ((F k k2).size : Int), by omega, by go_num, rfl, by omega, by omega, hin.step hs4⟩
                    case measure => simp [intOf]; omega
              · have hlt2' : ¬ (k2 : Int) < (L k : Int) := by omega
                (obtain rfl : k2 = L k := by omega)
                go_wp2
                go_round
                case rel => exact ⟨k + 1, q2, by omega, by go_num, rfl, by omega, by omega, hall.step hin⟩
                case measure => simp [intOf]; omega
      · have hlt' : ¬ (k : Int) < (n : Int) := by omega
        (obtain rfl : k = n := by omega)
        by_cases h1 : (1048576 : Int) < (s.size : Int)
        · go_wp2
          go_ret
          exact ⟨⟨false, rfl, by simp⟩, rfl⟩
        · by_cases h2 : (1048576 : Int) < q + (s.size : Int)
          · go_wp2
            go_ret
            exact ⟨⟨false, rfl, by simp⟩, rfl⟩
          · go_wp2
            go_ret
            exact ⟨⟨true, rfl, fun _ => by first | trivial | exact hall⟩, rfl⟩
set_option maxRecDepth 100000 in
set_option maxHeartbeats 1000000 in
theorem zz11_calls (a : Option Addr) (nb no n cap : Nat) (A : Nat → Option Addr) (L C IB IQ : Nat → Nat) (F : Nat → Nat → ByteArray) (w : World) (h : NmAt w a nb no n A L C IB IQ F) (s : ByteArray) (xa : Option Addr) (xb xo xn xc : Nat) (xf : Nat → ByteArray) (hx : StrAt w xa xb xo xn xf) (cut : Int) :
    Calls Try.prog 11 #[.slice a n cap, .string s, .slice xa xn xc, .int .i64 cut] w (GrdP w (SzLe L F n ∧ SzRow xf xn)) := by
  have s0 : (0 : Int) ≤ (s.size : Int) := by omega
  by_cases hbig : (1048576 : Int) < (n : Int)
  · go_enter Try.func11, Try.ntmps11
    go_wp2
    go_ret
    exact ⟨⟨false, rfl, by simp⟩, rfl⟩
  · have hb2 : ¬ (1048576 : Int) < (n : Int) := hbig
    go_enter Try.func11, Try.ntmps11
    go_wp2
    go_loop [9, 10] (fun z i => ∃ (k : Nat) (q : Int), k ≤ n ∧ i = .int .i64 k ∧ z = .int .i64 q ∧ 0 ≤ q ∧ q ≤ 1048576 ∧ SzLe L F k) (fun _ i => n - (intOf i).toNat)
    case atStart => exact ⟨0, n, Nat.zero_le _, rfl, rfl, by omega, by omega, fun i hi => by omega⟩
    case round =>
      obtain ⟨k, q, hk, rfl, rfl, hq0, hq1, hall⟩ := hrel
      by_cases hlt : k < n
      · have ha := h.addr (by omega)
        subst ha
        have hc := h.c k hlt
        have hr := h.r k hlt
        have hlt' : (k : Int) < (n : Int) := by omega
        by_cases hL : (1048576 : Int) < (L k : Int)
        · go_wp2
          go_ret
          exact ⟨⟨false, rfl, by simp⟩, rfl⟩
        · have hL' : (L k : Int) ≤ 1048576 := by omega
          have hL0 : (0 : Int) ≤ (L k : Int) := by omega
          by_cases hs2 : (1048576 : Int) < q + (L k : Int)
          · go_wp2
            go_ret
            exact ⟨⟨false, rfl, by simp⟩, rfl⟩
          · go_wp2
            go_loop [9, 11] (fun z i => ∃ (k2 : Nat) (q2 : Int), k2 ≤ L k ∧ i = .int .i64 k2 ∧ z = .int .i64 q2 ∧ 0 ≤ q2 ∧ q2 ≤ 1048576 ∧ SzRow (F k) k2) (fun _ i => L k - (intOf i).toNat)
            case atStart => exact ⟨0, q + (L k : Int), Nat.zero_le _, rfl, rfl, by omega, by omega, fun j hj => by omega⟩
            case round =>
              obtain ⟨k2, q2, hk2, rfl, rfl, hq20, hq21, hin⟩ := hrel
              by_cases hlt2 : k2 < L k
              · have e := hr.addr (by omega)
                rw [e] at hc
                clear e
                have hd := hr.c k2 hlt2
                have hlt2' : (k2 : Int) < (L k : Int) := by omega
                have z0 : (0 : Int) ≤ ((F k k2).size : Int) := by omega
                by_cases hs4 : (1048576 : Int) < ((F k k2).size : Int)
                · go_wp2
                  go_ret
                  exact ⟨⟨false, rfl, by simp⟩, rfl⟩
                · by_cases hs3 : (1048576 : Int) < q2 + ((F k k2).size : Int)
                  · go_wp2
                    go_ret
                    exact ⟨⟨false, rfl, by simp⟩, rfl⟩
                  · go_wp2
                    go_round
                    case rel => exact ⟨k2 + 1, q2 + ((F k k2).size : Int), by omega, by go_num, rfl, by omega, by omega, hin.step hs4⟩
                    case measure => simp [intOf]; omega
              · have hlt2' : ¬ (k2 : Int) < (L k : Int) := by omega
                (obtain rfl : k2 = L k := by omega)
                go_wp2
                go_round
                case rel => exact ⟨k + 1, q2, by omega, by go_num, rfl, by omega, by omega, hall.step hin⟩
                case measure => simp [intOf]; omega
      · have hlt' : ¬ (k : Int) < (n : Int) := by omega
        (obtain rfl : k = n := by omega)
        by_cases h1 : (1048576 : Int) < (s.size : Int)
        · go_wp2
          go_ret
          exact ⟨⟨false, rfl, by simp⟩, rfl⟩
        · by_cases h2 : (1048576 : Int) < q + (s.size : Int)
          · go_wp2
            go_ret
            exact ⟨⟨false, rfl, by simp⟩, rfl⟩
          · by_cases x1 : (1048576 : Int) < (xn : Int)
            · go_wp2
              go_ret
              exact ⟨⟨false, rfl, by simp⟩, rfl⟩
            · have x0 : (0 : Int) ≤ (xn : Int) := by omega
              by_cases x2 : (1048576 : Int) < q + (s.size : Int) + (xn : Int)
              · go_wp2
                go_ret
                exact ⟨⟨false, rfl, by simp⟩, rfl⟩
              · go_wp2
                go_loop [9, 12] (fun z i => ∃ (k2 : Nat) (q2 : Int), k2 ≤ xn ∧ i = .int .i64 k2 ∧ z = .int .i64 q2 ∧ 0 ≤ q2 ∧ q2 ≤ 1048576 ∧ SzRow xf k2) (fun _ i => xn - (intOf i).toNat)
                case atStart => exact ⟨0, q + (s.size : Int) + (xn : Int), Nat.zero_le _, rfl, rfl, by omega, by omega, fun j hj => by omega⟩
                case round =>
                  obtain ⟨k2, q2, hk2, rfl, rfl, hq20, hq21, hin⟩ := hrel
                  by_cases hlt2 : k2 < xn
                  · have e := hx.addr (by omega)
                    subst e
                    have hd := hx.c k2 hlt2
                    have hlt2' : (k2 : Int) < (xn : Int) := by omega
                    have z0 : (0 : Int) ≤ ((xf k2).size : Int) := by omega
                    by_cases hs4 : (1048576 : Int) < ((xf k2).size : Int)
                    · go_wp2
                      go_ret
                      exact ⟨⟨false, rfl, by simp⟩, rfl⟩
                    · by_cases hs3 : (1048576 : Int) < q2 + ((xf k2).size : Int)
                      · go_wp2
                        go_ret
                        exact ⟨⟨false, rfl, by simp⟩, rfl⟩
                      · go_wp2
                        go_round
                        case rel => exact ⟨k2 + 1, q2 + ((xf k2).size : Int), by omega, by go_num, rfl, by omega, by omega, hin.step hs4⟩
                        case measure => simp [intOf]; omega
                  · have hlt2' : ¬ (k2 : Int) < (xn : Int) := by omega
                    (obtain rfl : k2 = xn := by omega)
                    go_wp2
                    go_ret
                    exact ⟨⟨true, rfl, fun _ => by first | trivial | exact ⟨hall, hin⟩⟩, rfl⟩
end Go.Proofs.Qxb6616141a
