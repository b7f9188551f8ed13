/-
  OWN TEXT. The lists of names as they lie in memory; the functions that only read them.
-/
import Derived.Test.Qxb6616141aRows
import Derived.WalkKit
import Derived.Laws.EntriesVeiled
import Derived.WalkLawsBesides
import Derived.Below
import Derived.Lib.Hide
namespace Go.Proofs.Qxb6616141a
open Go.RowKit

/-- n strings, the j-th f j, at a slice's address -/
structure StrAt (w : World) (a : Option Addr) (sb so n : Nat) (f : Nat → ByteArray) : Prop where
  addr : 0 < n → a = some ⟨sb, so, none⟩
  c : ∀ j, j < n → w.cell? ⟨sb, so + j, none⟩ = some (.string (f j))

/-- n lists of strings -/
structure NmAt (w : World) (a : Option Addr) (nb no n : Nat) (A : Nat → Option Addr) (L C IB IQ : Nat → Nat) (F : Nat → Nat → ByteArray) : Prop where
  addr : 0 < n → a = some ⟨nb, no, none⟩
  c : ∀ i, i < n → w.cell? ⟨nb, no + i, none⟩ = some (.slice (A i) (L i) (C i))
  r : ∀ i, i < n → StrAt w (A i) (IB i) (IQ i) (L i) (F i)

def hasF (f : Nat → ByteArray) (s : ByteArray) : Nat → Bool
  | 0 => false
  | n + 1 => hasF f s n || ((f n).toList == s.toList)

theorem hasF_of {f : Nat → ByteArray} {s : ByteArray} {j : Nat} (h : ((f j).toList == s.toList) = true) : ∀ {n}, j < n → hasF f s n = true
  | 0, h' => by omega
  | n + 1, h' => by
    rcases Nat.lt_or_eq_of_le (Nat.lt_succ_iff.1 h') with h2 | h2
    · simp [hasF, hasF_of h h2]
    · subst h2; simp [hasF, h]

set_option maxRecDepth 100000 in
set_option maxHeartbeats 1000000 in
theorem shows_calls (a : Option Addr) (sb so n cap : Nat) (f : Nat → ByteArray) (s : ByteArray) (w : World) (h : StrAt w a sb so n f) (hn : n ≤ 1048576) :
    Calls Try.prog 10 #[.slice a n cap, .string s] w fun e w' => e = .returned (.bool (hasF f s n)) ∧ w' = w := by
  go_enter Try.func10, Try.ntmps10
  go_wp2
  go_loopw [5] (fun i wr => ∃ (j : Nat), j ≤ n ∧ i = .int .i64 j ∧ wr = w ∧ Hid (hasF f s j = false)) (fun i _ => n - (intOf i).toNat)
  case atStart => exact ⟨0, Nat.zero_le _, rfl, rfl, (rfl : hasF f s 0 = false)⟩
  case round =>
    obtain ⟨j, hj, rfl, rfl, hall⟩ := hrel
    by_cases hlt : j < n
    · have ha := h.addr (by omega)
      subst ha
      have hc := h.c j hlt
      have hlt' : (j : Int) < (n : Int) := by omega
      cases he : ((f j).toList == s.toList) with
      | true =>
        have He := Lib.hid he
        go_wp2
        go_ret
        exact ⟨by rw [hasF_of He.out hlt]; rfl, rfl⟩
      | false =>
        have He := Lib.hid he
        go_wp2
        go_roundw
        case rel => exact ⟨j + 1, hlt, by go_num, trivial, (by simp only [hasF, hall.out, He.out]; rfl : hasF f s (j + 1) = false)⟩
        case measure => simp [intOf]; omega
    · have hlt' : ¬ (j : Int) < (n : Int) := by omega
      (obtain rfl : j = n := by omega)
      go_wp2
      go_ret
      exact ⟨by rw [hall.out]; rfl, rfl⟩
end Go.Proofs.Qxb6616141a
