/-
  OWN TEXT. Outcome.Shows: the closure, slices.IndexFunc, slices.ContainsFunc.
-/
import Derived.Test.Qxb6616141aGuard
import Derived.Handy
namespace Go.Proofs.Qxb6616141a
open Go.RowKit

theorem below_tr {w w1 w2 : World} (h : Below w.heap.size w w1) (k : Below w1.heap.size w1 w2) : Below w.heap.size w w2 :=
  h.trans ⟨k.os, k.tape, k.output, k.size, fun i hi => k.block i (Nat.lt_of_lt_of_le hi h.size)⟩
theorem below_cell {w w' : World} {a : Addr} {v : Value} (hb : Below w.heap.size w w') (h : w.cell? a = some v) : w'.cell? a = some v := (hb.cell (World.block_lt_of_cell? w _ h)).trans h
theorem below_alloc (w : World) (o : Obj) : Below w.heap.size w (w.alloc o) := (Below.refl _ w).alloc (Nat.le_refl _) _

def TB (w : World) (v : Value) (e : Ending) (w' : World) : Prop := e = .returned v ∧ Below w.heap.size w w'

/-- an anomaly's event -/
abbrev ev (nm : ByteArray) : Value := .iface 72 (.agg #[.string nm])
/-- the predicate: the name in the box b -/
abbrev pr (b : Nat) : Value := .func (.func 38) #[] #[.pointer (some ⟨b, 0, none⟩)]

set_option maxRecDepth 100000 in
set_option maxHeartbeats 1000000 in
theorem pred_calls (nm s : ByteArray) (b : Nat) (w : World) (h : w.cell? ⟨b, 0, none⟩ = some (.string s)) :
    Calls Try.prog 38 #[ev nm, .pointer (some ⟨b, 0, none⟩)] w (TB w (.bool (nm.toList == s.toList))) := by
  have hb := World.block_lt_of_cell? w _ h
  have h' : ∀ o, (w.alloc o).cell? ⟨b, 0, none⟩ = some (.string s) := fun o => below_cell (below_alloc _ _) h
  have hta : ∀ W, (Instr.typeAssert (ev nm) 74 72 true).run Try.prog W = .ok (.tuple #[.agg #[.string nm], .bool true]) W := fun W => by kernel_rfl
  go_enter Try.func38, Try.ntmps38
  go_wp2
  go_ret
  exact ⟨rfl, below_alloc _ _⟩
/-- n events, the j-th the anomaly f j -/
structure EvAt (w : World) (a : Option Addr) (sb so n : Nat) (f : Nat → ByteArray) : Prop where
  addr : 0 < n → a = some ⟨sb, so, none⟩
  c : ∀ j, j < n → w.cell? ⟨sb, so + j, none⟩ = some (ev (f j))
theorem EvAt.below {w w' : World} {a : Option Addr} {sb so n : Nat} {f : Nat → ByteArray} (h : EvAt w a sb so n f) (hb : Below w.heap.size w w') : EvAt w' a sb so n f := ⟨h.addr, fun j hj => below_cell hb (h.c j hj)⟩

def IdxP (w : World) (f : Nat → ByteArray) (s : ByteArray) (n : Nat) (e : Ending) (w' : World) : Prop := ∃ z : Int, e = .returned (.int .i64 z) ∧ -1 ≤ z ∧ decide (0 ≤ z) = hasF f s n ∧ Below w.heap.size w w'

set_option maxRecDepth 100000 in
set_option maxHeartbeats 1000000 in
theorem index_calls (a : Option Addr) (sb so n cap b : Nat) (f : Nat → ByteArray) (s : ByteArray) (w : World) (h : EvAt w a sb so n f) (hs : w.cell? ⟨b, 0, none⟩ = some (.string s)) (hn : n ≤ 1048576) :
    Calls Try.prog 44 #[.slice a n cap, pr b] w (IdxP w f s n) := by
  go_enter Try.func44, Try.ntmps44
  go_wp2
  go_loopw [8] (fun i wr => ∃ (j : Nat), j ≤ n ∧ i = .int .i64 j ∧ Below w.heap.size w wr ∧ Hid (hasF f s j = false)) (fun i _ => n - (intOf i).toNat)
  case atStart => exact ⟨0, Nat.zero_le _, rfl, Below.refl _ _, (rfl : hasF f s 0 = false)⟩
  case round =>
    obtain ⟨j, hj, rfl, hB, hall⟩ := hrel
    by_cases hlt : j < n
    · have ha := h.addr (by omega)
      subst ha
      have hc := below_cell hB (h.c j hlt)
      have hs2 := below_cell hB hs
      have hlt' : (j : Int) < (n : Int) := by omega
      go_wp2_with fail
      refine (pred_calls (f j) s b wr hs2).mono ?_
      rintro e w1 ⟨rfl, hB1⟩
      cases he : ((f j).toList == s.toList) with
      | true =>
        have He := Lib.hid he
        clear he
        go_wp2
        go_ret
        refine ⟨j, rfl, by omega, ?_, below_tr hB hB1⟩
        rw [hasF_of He.out hlt]
        simp
      | false =>
        have He := Lib.hid he
        clear he
        go_wp2
        go_roundw
        case rel => exact ⟨j + 1, hlt, by go_num, below_tr hB hB1, (by simp only [hasF, hall.out, He.out]; rfl : hasF f s (j + 1) = false)⟩
        case measure => simp [intOf]; omega
    · have hlt' : ¬ (j : Int) < (n : Int) := by omega
      (obtain rfl : j = n := by omega)
      go_wp2
      go_ret
      exact ⟨-1, rfl, by omega, by rw [hall.out]; rfl, hB⟩

set_option maxRecDepth 100000 in
theorem contains_calls (a : Option Addr) (sb so n cap b : Nat) (f : Nat → ByteArray) (s : ByteArray) (w : World) (h : EvAt w a sb so n f) (hs : w.cell? ⟨b, 0, none⟩ = some (.string s)) (hn : n ≤ 1048576) :
    Calls Try.prog 37 #[.slice a n cap, pr b] w (TB w (.bool (hasF f s n))) := by
  go_enter Try.func37, Try.ntmps37
  go_wp2_with fail
  refine (index_calls a sb so n cap b f s w h hs hn).mono ?_
  rintro e w1 ⟨z, rfl, hz, hd, hB⟩
  have Hd := Lib.hid hd
  clear hd
  go_wp2
  go_ret
  exact ⟨by rw [← Hd.out]; rfl, hB⟩

/-- an outcome's value: its events, its other fields nil -/
abbrev outc (a : Option Addr) (n cap : Nat) (rest : List Value) : Value := .agg (Value.slice a n cap :: rest).toArray
end Go.Proofs.Qxb6616141a
