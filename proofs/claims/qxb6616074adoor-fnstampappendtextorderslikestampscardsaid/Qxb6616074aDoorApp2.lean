/-
  OWN TEXT. The walks over AppendUint, AppendText, cloneBytes and the guards on length.
-/
import Derived.Test.Qxb6616074aDoorApp
namespace Go.Proofs.Qxb6616074aDoor
open Go.RowKit Go.Sort

def AppP (w : World) (n u : Nat) (f : Nat → Int) (e : Ending) (w' : World) : Prop := ∃ v', e = .returned v' ∧ AppR w n u f v' w'

theorem nd20 {u : Nat} (hu64 : u < 18446744073709551616) : Lib.nDigits u ≤ 20 := by
  by_cases h : u < 10
  · rw [Lib.nDigits_small h]; omega
  · have := Lib.numDigits_eq u (by omega) hu64
    split at this <;> omega

set_option maxHeartbeats 6400000 in
set_option maxRecDepth 100000 in
theorem appU_small (n u : Nat) (hu : u < 100) (a : Option Addr) (f : Nat → Int) (w : World) (h : Full w a n f) (hlim : n + 20 ≤ 140737488355328) :
    Calls Tryd.prog 17 #[.slice a n n, .int .u64 u, .int .i64 10] w (AppP w n u f) := by
  have iu : (u : Int) < 100 := by omega
  have hu0 : (0 : Int) ≤ (u : Int) := by omega
  have hd := nd20 (u := u) (by omega)
  go_enter Tryd.func17, Tryd.ntmps17
  go_wp2_with (first
    | (go_at_call 18; refine (Tryd.internal_strconv_small u hu _).mono ?_; rintro e w' ⟨rfl, hw⟩; obtain rfl := hw.symm; clear hw)
    | (at_builtin; refine wpList_append_of rfl _ _ 23 9 rfl _ _ rfl rfl (AppR w n u f) (run_full_string h u hlim hd) ?_))
  intro v' w' hR
  go_wp2
  go_ret
  exact ⟨v', rfl, hR⟩
set_option maxHeartbeats 12800000 in
set_option maxRecDepth 100000 in
theorem appU_big (n u : Nat) (hu : 100 ≤ u) (hu64 : u < 18446744073709551616) (a : Option Addr) (f : Nat → Int) (w : World) (h : Full w a n f) (hlim : n + 20 ≤ 140737488355328)
    (htab : Tab w) :
    Calls Tryd.prog 17 #[.slice a n n, .int .u64 u, .int .i64 10] w (AppP w n u f) := by
  have hu1 : 1 ≤ u := by omega
  have hd := nd20 hu64
  have hal : Tryd.prog.arrayLen 39 = 24 := by simp [Program.arrayLen, Tryd.underlying39]
  have hsl : ∀ W, (Instr.sliceAt 39 (.pointer (some ⟨w.heap.size, 0, none⟩)) none (some (.int .i64 (Lib.nDigits u : Int))) none).run Tryd.prog W = .ok (.slice (some ⟨w.heap.size, 0, none⟩) (Lib.nDigits u) 24) W := fun W => by
    rw [run_sliceAt_array_h W 39 ⟨w.heap.size, 0, none⟩ (by simp [Program.arrayLen, Program.elem, Tryd.underlying39]) .i64 (Lib.nDigits u : Int) (by omega) (by rw [hal]; omega)]
    go_simp
  have hH0 := Lib.holds_zero0 w 39 (Lib.nDigits u) (by omega)
  have hfmt := Tryd.internal_strconv_formatBase10 w.heap.size 0 24 u (Array.replicate (Lib.nDigits u) 0) (w.alloc (.cells Lib.zeros24 39)) hH0 (by rw [Array.size_replicate]; exact Lib.lt_pow_nDigits u) hu64 (by rw [Array.size_replicate]; omega)
  rw [Array.size_replicate] at hfmt
  have HH0 := Lib.hid hH0
  have iu : (100 : Int) ≤ (u : Int) := by omega
  clear hH0 hal
  go_enter Tryd.func17, Tryd.ntmps17
  go_wp2_with (first
    | (go_at_call 19; refine (Any.internal_strconv_numDigits Tryd.laysM284 u hu1 hu64 _ (Lib.tabIs_alloc htab _)).mono ?_; rintro e w' ⟨rfl, rfl⟩))
  go_at_call 20
  refine hfmt.mono ?_
  rintro e w' ⟨rfl, k, v', dk, rfl, hF⟩
  have hcells : ∀ j u', (Lib.byteCells (Lib.decDigits u))[j]? = some u' → ((putRow (fun (b : UInt8) => Value.int .u8 (b.toNat : Int)) (w.alloc (.cells Lib.zeros24 39)) w.heap.size 0 dk).drewN k).cell? ((⟨w.heap.size, 0, none⟩ : Addr).add j) = some u' := by
    intro j u' hj
    have hjl : j < (Lib.decDigits u).length := by
      have h5 := (List.getElem?_eq_some_iff.1 hj).1
      rwa [Lib.byteCells_length] at h5
    have e5 : (Lib.byteCells (Lib.decDigits u))[j]? = some (Value.int .u8 ((Lib.decDigits u)[j].toNat : Int)) := by simp [Lib.byteCells, hjl]
    rw [e5] at hj
    cases hj
    rw [Lib.row_is_numeral hF j hjl, Lib.add_plain, World.cell?_drewN]
    exact cell?_putRow (fun (b : UInt8) => Value.int .u8 (b.toNat : Int)) _ w.heap.size 0 _ dk HH0.out (by rw [hF.size, Array.size_replicate]) j (by rw [hF.size]; rw [Lib.decDigits_length] at hjl; exact hjl)
  obtain ⟨os, eo⟩ := Lib.fin_at w (.cells Lib.zeros24 39) dk k 0
  have hbel : Below w.heap.size w ((putRow (fun (b : UInt8) => Value.int .u8 (b.toNat : Int)) (w.alloc (.cells Lib.zeros24 39)) w.heap.size 0 dk).drewN k) := by rw [eo]; exact Lib.below_grow w.heap.size w (Nat.le_refl _) k os
  generalize (putRow (fun (b : UInt8) => Value.int .u8 (b.toNat : Int)) (w.alloc (.cells Lib.zeros24 39)) w.heap.size 0 dk).drewN k = W2 at hcells hbel ⊢
  clear eo HH0 hfmt
  go_wp2_with (at_builtin; refine wpList_append_of rfl _ _ 23 23 rfl _ _ rfl rfl (AppR W2 n u f) (run_full_slice (h.below hbel) u ⟨w.heap.size, 0, none⟩ 24 hlim hd hcells) ?_)
  intro v2 w3 hR
  go_wp2
  go_ret
  obtain ⟨g, cap, e1, e2, e3, e4, e5, e6⟩ := hR
  exact ⟨v2, rfl, g, cap, e1, e2, e3, Nat.le_trans hbel.size e4, e5, hbel.trans ⟨e6.os, e6.tape, e6.output, e6.size, fun k hk => e6.block k (Nat.lt_of_lt_of_le hk hbel.size)⟩⟩

theorem appU (n u : Nat) (hu64 : u < 18446744073709551616) (a : Option Addr) (f : Nat → Int) (w : World) (h : Full w a n f) (hlim : n + 20 ≤ 140737488355328)
    (htab : Tab w) :
    Calls Tryd.prog 17 #[.slice a n n, .int .u64 u, .int .i64 10] w (AppP w n u f) := by
  by_cases hu : u < 100
  · exact appU_small n u hu a f w h hlim
  · exact appU_big n u (by omega) hu64 a f w h hlim htab

def TextP (w : World) (n u : Nat) (f : Nat → Int) (e : Ending) (w' : World) : Prop := ∃ v', e = .returned (.tuple #[v', .nilIface]) ∧ AppR w n u f v' w'

theorem appendText (n u : Nat) (hu64 : u < 18446744073709551616) (a : Option Addr) (f : Nat → Int) (w : World) (h : Full w a n f) (hlim : n + 20 ≤ 140737488355328)
    (htab : Tab w) :
    Calls Tryd.prog 9 #[.int .u64 u, .slice a n n] w (TextP w n u f) := by
  have hmid : Calls Tryd.prog 16 #[.slice a n n, .int .u64 u, .int .i64 10] w (AppP w n u f) := by
    go_enter Tryd.func16, Tryd.ntmps16
    go_wp2_with (go_at_call 17; refine (appU n u hu64 a f w h hlim htab).mono ?_; rintro e w' ⟨v', rfl, hR⟩)
    go_wp2
    go_ret
    exact ⟨v', rfl, hR⟩
  go_enter Tryd.func9, Tryd.ntmps9
  go_wp2_with (go_at_call 16; refine hmid.mono ?_; rintro e w' ⟨v', rfl, hR⟩)
  go_wp2
  go_ret2
  exact ⟨v', rfl, hR⟩

def CloneP (w : World) (n : Nat) (f : Nat → Int) (e : Ending) (w' : World) : Prop := ∃ a, e = .returned (.slice a n n) ∧ Full w' a n f ∧ Below w.heap.size w w'

end Go.Proofs.Qxb6616074aDoor
