/-
  OWN TEXT. zzDst once more, with the row that may grow; zzIota.
-/
import Derived.Test.Qxb6616141aTab
import Derived.Test.Qxb6616141aMat
import Derived.Laws.AppendOwn
import Derived.Laws.OwnMore
namespace Go.Proofs.Qxb6616141a
open Go.RowKit
def OwnE (W : World) (base g n : Nat) : Prop := ∃ xs, W.ownsRow base 58 4 (.slice (some ⟨g, 0, none⟩) n n) n xs
theorem OwnE.set {W : World} {base g n : Nat} (h : OwnE W base g n) (o : Nat) (u : Value) : OwnE (W.setCell ⟨g, o, none⟩ u) base g n := by
  obtain ⟨xs, hx⟩ := h
  exact ⟨_, (hx.stored o u).1⟩
theorem OwnE.other {W : World} {base g n g2 : Nat} (h : OwnE W base g n) (hne : g2 ≠ g) (o : Nat) (u : Value) : OwnE (W.setCell ⟨g2, o, none⟩ u) base g n := by
  obtain ⟨xs, hx⟩ := h
  refine ⟨xs, hx.kept (row := some g2) ⟨rfl, rfl, rfl, by simp, fun k _ hk => Below.heap_setCell W ⟨g2, o, none⟩ u k (fun e => hk (by rw [e]))⟩ (.inr ?_)⟩
  intro e
  injection e with e
  exact hne e.symm
theorem OwnE.below {W W' : World} {base g n : Nat} (h : OwnE W base g n) (_hlt : g < W.heap.size) (hb : Below W.heap.size W W') : OwnE W' base g n := by
  obtain ⟨xs, hx⟩ := h
  exact ⟨xs, hx.kept (row := none) ⟨hb.os, hb.tape, hb.output, hb.size, fun k hk _ => hb.block k hk⟩ (.inr (by simp [Value.ownBlock]))⟩
theorem ownE_start (w : World) (n : Nat) (hn : n ≤ maxLen) : OwnE ((w.alloc (.cells (madeCells #[.pointer none, .int .u64 0, .pointer none, .slice none 0 0] (n * 4)) 58)).alloc (.cells (madeCells #[.pointer none] n) 49)) w.heap.size w.heap.size n :=
  ⟨_, (World.ownsRow_lit (base := w.heap.size) (e := 58) (size := 4) w (madeCells #[.pointer none, .int .u64 0, .pointer none, .slice none 0 0] (n * 4)) n (Nat.le_refl _) hn (by simp [madeCells])).alloc _⟩
def DstO (w : World) (nil : Bool) (n : Nat) (e : Ending) (w' : World) : Prop :=
  (nil = true ∧ n = 0 ∧ e = .returned (.tuple #[.slice none 0 0, .slice none 0 0]) ∧ w' = w) ∨ (nil = false ∧ ∃ g1 g2, g1 ≠ g2 ∧ e = .returned (.tuple #[.slice (some ⟨g1, 0, none⟩) n n, .slice (some ⟨g2, 0, none⟩) n n]) ∧ Two w w' g1 4 g2 n n pixC ∧ OwnE w' w.heap.size g1 n)
set_option maxRecDepth 100000 in
set_option maxHeartbeats 2000000 in
theorem dst_own (a : Option Addr) (sb so n cap : Nat) (f : Nat → Int) (w : World) (h : KeyAt w a sb so n f) (hn : n ≤ 4096) (hnil : a = none → cap = 0) :
    Calls Try.prog 16 #[.slice a n cap] w (DstO w (a.isNone) n) := by
  obtain ⟨i0, hi, hz0, hz1, hz2⟩ := info_parts info58
  obtain ⟨i1, hi1, hz10, hz11, hz12⟩ := info_parts info49
  have hmk : ∀ W : World, (Instr.makeSlice 43 (.int .i64 n) (.int .i64 n)).run Try.prog W = .ok (.slice (some ⟨W.heap.size, 0, none⟩) n n) (W.alloc (.cells (madeCells #[.pointer none, .int .u64 0, .pointer none, .slice none 0 0] (n * 4)) 58)) := fun W => by
    have := run_make (P := Try.prog) W 43 58 i0 _ Try.underlying43 hi hz0 .i64 .i64 n n (by omega) (Int.le_refl _) (by rw [hz2]; omega) (by omega)
    simp only [Int.toNat_natCast, hz1] at this
    exact this
  have hmk2 : ∀ W : World, (Instr.makeSlice 40 (.int .i64 n) (.int .i64 n)).run Try.prog W = .ok (.slice (some ⟨W.heap.size, 0, none⟩) n n) (W.alloc (.cells (madeCells #[.pointer none] n) 49)) := fun W => by
    have := run_make (P := Try.prog) W 40 49 i1 _ Try.underlying40 hi1 hz10 .i64 .i64 n n (by omega) (Int.le_refl _) (by rw [hz12]; omega) (by omega)
    simp only [Int.toNat_natCast, hz11, Nat.mul_one] at this
    exact this
  clear hi hz0 hz1 hz2 hi1 hz10 hz11 hz12
  cases a with
  | none =>
    obtain rfl := hnil rfl
    obtain rfl : n = 0 := by
      by_cases h0 : 0 < n
      · have := h.addr h0
        cases this
      · omega
    have hnl : ∀ W, (binOp .eql 35 (.slice none 0 0) (.slice none 0 0)).run Try.prog W = .ok (.bool true) W := fun W => Lib.run_eql_slice_nil W _ _ _ _ _ _ _ Try.underlying35
    go_enter Try.func16, Try.ntmps16
    go_wp2
    go_ret2
    exact .inl ⟨rfl, rfl, rfl, rfl⟩
  | some ad =>
  have hnl : ∀ W, (binOp .eql 35 (.slice (some ad) n cap) (.slice none 0 0)).run Try.prog W = .ok (.bool false) W := fun W => Lib.run_eql_slice_nil W _ _ _ _ _ _ _ Try.underlying35
  go_enter Try.func16, Try.ntmps16
  go_wp2
  clear hmk hmk2 hnl
  go_loopw [6, 7] (fun i _ wr => ∃ (k : Nat), k ≤ n ∧ i = .int .i64 k ∧ Two w wr w.heap.size 4 (w.heap.size + 1) n k pixC ∧ OwnE wr w.heap.size w.heap.size n) (fun i _ _ => n - (intOf i).toNat)
  case atStart => exact ⟨0, Nat.zero_le _, rfl, two_start4 w n, ownE_start w n (by simp only [maxLen]; omega)⟩
  case round =>
    obtain ⟨k, hk, rfl, ⟨R, hT, hR⟩, hO⟩ := hrel
    by_cases hlt : k < n
    · have ha := h.addr (by omega)
      injection ha with ha
      subst ha
      have hc := below_cell hT.bel (h.c k hlt)
      have hlt' : (k : Int) < (n : Int) := by omega
      go_wp2_with fail
      refine (node_calls (f k) _).mono ?_
      rintro e w1 ⟨p, rfl, hB⟩
      have hT1 := hT.below hB
      have hR1 := hR.below hB
      obtain ⟨u0, hu0, hf0⟩ := hR1.cells hlt 0 (by omega)
      simp only [Nat.mul_one, Nat.add_zero] at hu0 hf0
      have hS := Two.root (p := p) hT1 hR1 (by omega) hlt
      go_wp2_with fail
      refine (newIdx_calls (some ⟨p, 0, none⟩) _).mono ?_
      rintro e w2a ⟨rfl, hB2a⟩
      go_wp2_with fail
      refine (newPix_calls (some ⟨p, 0, none⟩) _).mono ?_
      rintro e w2 ⟨rfl, hB2b⟩
      have hB2 := below_tr hB2a hB2b
      have hO2 := ((hO.below hT.lt hB).other (g2 := w.heap.size + 1) (by omega) k (.pointer (some ⟨p, 0, none⟩))).below (by rw [heap_setCell_size]; exact Nat.lt_of_lt_of_le hT.lt hB.size) hB2
      have hO3 := (((hO2.set (k * 4) (.pointer (some ⟨p, 0, none⟩))).set (k * 4 + 1) (.int .u64 0)).set (k * 4 + 2) (.pointer none)).set (k * 4 + 3) (.slice none 0 0)
      clear hO hO2
      obtain ⟨hT2, hR2⟩ := hS
      have hT3 := hT2.below hB2
      have hR3 := hR2.below hB2
      clear hu0 hf0 hT2 hR2 hT1 hR1
      obtain ⟨v0, hv0, hz0⟩ := hT3.cells hlt 0 (by omega)
      obtain ⟨v1, hv1, hz1⟩ := hT3.cells hlt 1 (by omega)
      obtain ⟨v2, hv2, hz2⟩ := hT3.cells hlt 2 (by omega)
      obtain ⟨v3, hv3, hz3⟩ := hT3.cells hlt 3 (by omega)
      simp only [Nat.add_zero] at hv0 hz0
      have hN := Two.next hT3 hR3 (by omega) hlt pixC_length pixC_congr
      rw [show pixC (upN R k p) k = [.pointer (some ⟨p, 0, none⟩), .int .u64 0, .pointer none, .slice none 0 0] by unfold pixC; rw [upN_same]] at hN
      simp only [World.setCells] at hN
      go_wp2
      go_roundw
      case rel => exact ⟨k + 1, hlt, by go_num, hN, hO3⟩
      case measure => first | (simp [intOf]; done) | (simp [intOf]; omega)
    · have hlt' : ¬ (k : Int) < (n : Int) := by omega
      (obtain rfl : k = n := by omega)
      go_wp2
      go_ret2
      exact .inr ⟨rfl, w.heap.size, w.heap.size + 1, by omega, rfl, ⟨R, hT, hR⟩, hO⟩
def intC (i : Nat) : List Value := [.int .i64 i]
def IotaP (w : World) (n : Nat) (e : Ending) (w' : World) : Prop := ∃ g, e = .returned (.slice (some ⟨g, 0, none⟩) n n) ∧ Below w.heap.size w w' ∧ IxAt w' (some ⟨g, 0, none⟩) g n (fun i => i)
theorem info3' : (Try.prog.info? 3).map (fun i => (i.zero, i.size, i.bytes)) = some (some (.int .i64 0), 1, 8) := by kernel_rfl
set_option maxRecDepth 100000 in
theorem iota_calls (n : Nat) (w : World) (hn : n ≤ 4096) : Calls Try.prog 24 #[.int .i64 n] w (IotaP w n) := by
  obtain ⟨i1, hi1, hz10, hz11, hz12⟩ := info_parts info3'
  have hmk : ∀ W : World, (Instr.makeSlice 63 (.int .i64 n) (.int .i64 n)).run Try.prog W = .ok (.slice (some ⟨W.heap.size, 0, none⟩) n n) (W.alloc (.cells (madeCells #[.int .i64 0] (n * 1)) 3)) := fun W => by
    have := run_make (P := Try.prog) W 63 3 i1 _ Try.underlying63 hi1 hz10 .i64 .i64 n n (by omega) (Int.le_refl _) (by rw [hz12]; omega) (by omega)
    simp only [Int.toNat_natCast, hz11] at this
    exact this
  clear hi1 hz10 hz11 hz12
  go_enter Try.func24, Try.ntmps24
  go_wp2
  clear hmk
  go_loopw [4] (fun i wr => ∃ (k : Nat), k ≤ n ∧ i = .int .i64 k ∧ Mk w wr w.heap.size 1 n k intC) (fun i _ => n - (intOf i).toNat)
  case atStart => exact ⟨0, Nat.zero_le _, rfl, by have := mk_start w #[.int .i64 0] 1 n 3 intC; first | exact this | simpa using this⟩
  case round =>
    obtain ⟨k, hk, rfl, hM⟩ := hrel
    by_cases hlt : k < n
    · have hlt' : (k : Int) < (n : Int) := by omega
      obtain ⟨u0, hu0, hf0⟩ := hM.cells hlt 0 (by omega)
      simp only [Nat.mul_one, Nat.add_zero] at hu0 hf0
      have hN := hM.step hlt (fun i => rfl)
      simp only [Nat.mul_one, intC, World.setCells] at hN
      go_wp2
      go_roundw
      case rel => exact ⟨k + 1, hlt, by go_num, hN⟩
      case measure => first | (simp [intOf]; done) | (simp [intOf]; omega)
    · have hlt' : ¬ (k : Int) < (n : Int) := by omega
      (obtain rfl : k = n := by omega)
      go_wp2
      go_ret
      refine ⟨w.heap.size, rfl, hM.bel, ⟨fun _ => rfl, fun j hj => ?_⟩⟩
      have := hM.r j hj 0 (.int .i64 j) rfl
      rwa [Nat.mul_one, Nat.add_zero] at this
end Go.Proofs.Qxb6616141a
