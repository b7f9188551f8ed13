/-
  OWN TEXT. (*doubts).Len, Less, Swap.
-/
import Derived.Test.Qxb6616074aRows
import Derived.Test.Qxb6616074aDefs
import Derived.BigQuiet
import Derived.Deep.QuietTactic
namespace Go.Proofs.Qxb6616074a
open Go.RowKit Go.MapKept Go.ChangeMaps

theorem len_any (b o n c : Nat) (ao : Option Addr) (w : World) (h : w.cell? ⟨b, o, none⟩ = some (.slice ao n c)) :
    Calls Try.prog 22 #[.pointer (some ⟨b, o, none⟩)] w fun e w' => e = .returned (.int .i64 n) ∧ w' = w := by
  go_enter Try.func22, Try.ntmps22
  go_wp2
  go_ret
  exact ⟨rfl, rfl⟩

theorem less_walk (b o hb n c i j : Nat) (si sj : Int) (w : World) (h : w.cell? ⟨b, o, none⟩ = some (.slice (some ⟨hb, 0, none⟩) n c))
    (hi : i < n) (hj : j < n)
    (hci : w.cell? ⟨hb, i * 2 + 1, none⟩ = some (.int .u64 si)) (hcj : w.cell? ⟨hb, j * 2 + 1, none⟩ = some (.int .u64 sj)) :
    Calls Try.prog 59 #[.pointer (some ⟨b, o, none⟩), .int .i64 i, .int .i64 j] w fun e w' => e = .returned (.bool (decide (si < sj))) ∧ ∃ q, w' = w.drewN q := by
  have h1 : (i : Int) < (n : Int) := by omega
  have h2 : (j : Int) < (n : Int) := by omega
  go_enter Try.func59, Try.ntmps59
  go_wp2
  go_quiet (fail)
  go_wp2
  go_ret
  exact ⟨rfl, _, rfl⟩

set_option maxHeartbeats 4000000 in
theorem swap_walk (lb hb pb n c i j : Nat) (ti tj : ByteArray) (si sj : Int) (w w1 w2 w3 : World)
    (h0 : w.cell? ⟨lb, 0, none⟩ = some (.slice (some ⟨hb, 0, none⟩) n c)) 
    (hij : i ≠ j)
    (hi : i < n) (hj : j < n)
    (ci0 : w.cell? ⟨hb, i * 2, none⟩ = some (.string ti)) (ci1 : w.cell? ⟨hb, i * 2 + 1, none⟩ = some (.int .u64 si)) 
    (cj0 : w.cell? ⟨hb, j * 2, none⟩ = some (.string tj)) (cj1 : w.cell? ⟨hb, j * 2 + 1, none⟩ = some (.int .u64 sj)) 
    (fi0 : w.frozen? ⟨hb, i * 2, none⟩ = false) (fi1 : w.frozen? ⟨hb, i * 2 + 1, none⟩ = false) 
    (fj0 : w.frozen? ⟨hb, j * 2, none⟩ = false) (fj1 : w.frozen? ⟨hb, j * 2 + 1, none⟩ = false) 
    (hw1 : Hid (w1 = World.drew ((((w.setCell ⟨hb, i * 2, none⟩ (.string tj)).setCell ⟨hb, i * 2 + 1, none⟩ (.int .u64 sj)).setCell ⟨hb, j * 2, none⟩ (.string ti)).setCell ⟨hb, j * 2 + 1, none⟩ (.int .u64 si))))
    (d0 : w1.cell? ⟨lb, 0, none⟩ = some (.slice (some ⟨hb, 0, none⟩) n c)) (d1 : w1.cell? ⟨lb, 1, none⟩ = some (.map (some pb)))
    (e0 : w1.cell? ⟨hb, i * 2, none⟩ = some (.string tj)) (e1 : w1.cell? ⟨hb, j * 2, none⟩ = some (.string ti))
    (v1 v2 : Value) (st1 st2 : Nat)
    (m1 : (Instr.mapEntry 42 (.map (some pb)) (.string tj)).run Try.prog w1.drew = .ok (.tuple #[v1, .int .i64 st1]) w1.drew)
    (m2 : (Instr.entryStore 42 (.map (some pb)) (.int .i64 st1) (.int .i64 i)).run Try.prog w1.drew = .ok () w2)
    (m3 : (Instr.mapEntry 42 (.map (some pb)) (.string ti)).run Try.prog w2 = .ok (.tuple #[v2, .int .i64 st2]) w2)
    (m4 : (Instr.entryStore 42 (.map (some pb)) (.int .i64 st2) (.int .i64 j)).run Try.prog w2 = .ok () w3) :
    Calls Try.prog 62 #[.pointer (some ⟨lb, 0, none⟩), .int .i64 i, .int .i64 j] w fun e w' => e = .returned (.tuple #[]) ∧ w' = w3 := by
  have hi1 : (i : Int) < (n : Int) := by omega
  have hj2 : (j : Int) < (n : Int) := by omega
  have n1 : j * 2 ≠ i * 2 := by omega
  have n2 : j * 2 ≠ i * 2 + 1 := by omega
  have n3 : j * 2 + 1 ≠ i * 2 := by omega
  go_enter Try.func62, Try.ntmps62
  go_wp2
  go_region
  go_wp2
  rw [← hw1.out]
  clear hw1 ci0 ci1 cj0 cj1 fi0 fi1 fj0 fj1 h0
  go_region
  go_end0
  exact ⟨rfl, rfl⟩

end Go.Proofs.Qxb6616074a
