/-
  OWN TEXT. zzOutcomes: a row of outcomes made.
-/
import Derived.Test.Qxb6616141aMake
namespace Go.Proofs.Qxb6616141a
open Go.RowKit

theorem StrAt.below {w w' : World} {a : Option Addr} {sb so n : Nat} {f : Nat → ByteArray} (h : StrAt w a sb so n f) (hb : Below w.heap.size w w') : StrAt w' a sb so n f := ⟨h.addr, fun j hj => below_cell hb (h.c j hj)⟩
/-- the i-th outcome of the row in block g, its events in a block of their own -/
def SlotAt (wr : World) (g : Nat) (L : Nat → Nat) (F : Nat → Nat → ByteArray) (i : Nat) : Prop :=
  ∃ e, e ≠ g ∧ wr.cell? ⟨g, i * 2, none⟩ = some (.slice (some ⟨e, 0, none⟩) (L i) (L i)) ∧ wr.cell? ⟨g, i * 2 + 1, none⟩ = some (.slice none 0 0) ∧ EvAt wr (some ⟨e, 0, none⟩) e 0 (L i) (F i)

structure Ws (w0 wr : World) (g n k : Nat) (L : Nat → Nat) (F : Nat → Nat → ByteArray) : Prop where
  bel : Below w0.heap.size w0 wr
  ge : w0.heap.size ≤ g
  lt : g < wr.heap.size
  s : ∀ i, i < k → SlotAt wr g L F i
  t : ∀ i, i < 2 * n → (wr.cell? ⟨g, i, none⟩).isSome = true
  fz : ∀ i, i < 2 * n → wr.frozen? ⟨g, i, none⟩ = false


theorem EvAt.set {w : World} {g k e n : Nat} {f : Nat → ByteArray} {u : Value} (h : EvAt w (some ⟨e, 0, none⟩) e 0 n f) (hne : e ≠ g) : EvAt (w.setCell ⟨g, k, none⟩ u) (some ⟨e, 0, none⟩) e 0 n f :=
  ⟨h.addr, fun j hj => (World.cell?_setCell_other _ _ _ _ (by rw [ne_eq, Addr.mk.injEq]; omega)).trans (h.c j hj)⟩

theorem cell_set {w : World} {g k i : Nat} {u : Value} (hs : (w.cell? ⟨g, k, none⟩).isSome = true) : (w.setCell ⟨g, k, none⟩ u).cell? ⟨g, i, none⟩ = if i = k then some u else w.cell? ⟨g, i, none⟩ := by
  obtain ⟨x, hx⟩ := Option.isSome_iff_exists.1 hs
  by_cases hik : i = k
  · subst hik; rw [World.cell?_setCell_same _ _ _ hx, if_pos rfl]
  · rw [World.cell?_setCell_other _ _ _ _ (by rw [ne_eq, Addr.mk.injEq]; omega), if_neg hik]

theorem SlotAt.set {wr : World} {g k i : Nat} {L : Nat → Nat} {F : Nat → Nat → ByteArray} {u : Value} (h : SlotAt wr g L F i) (h0 : k ≠ i * 2) (h1 : k ≠ i * 2 + 1) : SlotAt (wr.setCell ⟨g, k, none⟩ u) g L F i := by
  obtain ⟨e, hne, a, b, c⟩ := h
  exact ⟨e, hne, (World.cell?_setCell_other _ _ _ _ (by rw [ne_eq, Addr.mk.injEq]; omega)).trans a, (World.cell?_setCell_other _ _ _ _ (by rw [ne_eq, Addr.mk.injEq]; omega)).trans b, c.set hne⟩
theorem SlotAt.below {w w' : World} {g i : Nat} {L : Nat → Nat} {F : Nat → Nat → ByteArray} (h : SlotAt w g L F i) (hb : Below w.heap.size w w') : SlotAt w' g L F i := by
  obtain ⟨e, hne, a, b, c⟩ := h
  exact ⟨e, hne, below_cell hb a, below_cell hb b, c.below hb⟩

theorem Ws.below {w0 wr w' : World} {g n k : Nat} {L : Nat → Nat} {F : Nat → Nat → ByteArray} (h : Ws w0 wr g n k L F) (hb : Below wr.heap.size wr w') : Ws w0 w' g n k L F :=
  ⟨below_tr h.bel hb, h.ge, Nat.lt_of_lt_of_le h.lt hb.size, fun i hi => (h.s i hi).below hb, fun i hi => by rw [hb.cell (p := ⟨g, i, none⟩) h.lt]; exact h.t i hi, fun i hi => by rw [hb.frozen (p := ⟨g, i, none⟩) h.lt]; exact h.fz i hi⟩

theorem heap_setCell_size (w : World) (a : Addr) (u : Value) : (w.setCell a u).heap.size = w.heap.size := by
  simp

theorem Ws.step {w0 wr : World} {g n k e : Nat} {L : Nat → Nat} {F : Nat → Nat → ByteArray} (h : Ws w0 wr g n k L F) (hk : k < n) (hE : EvAt wr (some ⟨e, 0, none⟩) e 0 (L k) (F k)) (hne : e ≠ g) :
    Ws w0 ((wr.setCell ⟨g, k * 2, none⟩ (.slice (some ⟨e, 0, none⟩) (L k) (L k))).setCell ⟨g, k * 2 + 1, none⟩ (.slice none 0 0)) g n (k + 1) L F := by
  have t0 := h.t (k * 2) (by omega)
  have t1 : ((wr.setCell ⟨g, k * 2, none⟩ (.slice (some ⟨e, 0, none⟩) (L k) (L k))).cell? ⟨g, k * 2 + 1, none⟩).isSome = true := by
    rw [cell_set t0, if_neg (by omega)]; exact h.t _ (by omega)
  refine ⟨(h.bel.setCell (p := ⟨g, k * 2, none⟩) h.ge _).setCell (p := ⟨g, k * 2 + 1, none⟩) h.ge _, h.ge, by rw [heap_setCell_size, heap_setCell_size]; exact h.lt, ?_, ?_, fun i hi => by rw [World.frozen?_setCell, World.frozen?_setCell]; exact h.fz i hi⟩
  · intro i hi
    by_cases hik : i = k
    · subst hik
      exact ⟨e, hne, by rw [cell_set t1, if_neg (by omega), cell_set t0, if_pos rfl], by rw [cell_set t1, if_pos rfl], (hE.set hne).set hne⟩
    · exact ((h.s i (by omega)).set (by omega) (by omega)).set (by omega) (by omega)
  · intro i hi
    rw [cell_set t1]
    split
    · rfl
    · rw [cell_set t0]
      split
      · rfl
      · exact h.t i hi

theorem ws_start (w : World) (n : Nat) (L : Nat → Nat) (F : Nat → Nat → ByteArray) : Ws w (w.alloc (.cells (madeCells #[.slice none 0 0, .slice none 0 0] (n * 2)) 33)) w.heap.size n 0 L F := by
  refine ⟨below_alloc _ _, Nat.le_refl _, by simp, fun i hi => by omega, fun i hi => ?_, fun i hi => frozen_new rfl _ _ _⟩
  rw [cell_new rfl]
  simp [madeCells]
  omega

def OutsP (w : World) (n : Nat) (L : Nat → Nat) (F : Nat → Nat → ByteArray) (e : Ending) (w' : World) : Prop := ∃ g E, e = .returned (.slice (some ⟨g, 0, none⟩) n n) ∧ OutAt w' (some ⟨g, 0, none⟩) g 0 n (fun i => some ⟨E i, 0, none⟩) L L E (fun _ => 0) F ∧ Below w.heap.size w w' ∧ w.heap.size ≤ g ∧ (∀ i, i < n → E i ≠ g)
theorem Ws.fin {w0 wr : World} {g n : Nat} {L : Nat → Nat} {F : Nat → Nat → ByteArray} (h : Ws w0 wr g n n L F) : OutsP w0 n L F (.returned (.slice (some ⟨g, 0, none⟩) n n)) wr := by
  have : ∀ i, ∃ e, i < n → e ≠ g ∧ wr.cell? ⟨g, i * 2, none⟩ = some (.slice (some ⟨e, 0, none⟩) (L i) (L i)) ∧ wr.cell? ⟨g, i * 2 + 1, none⟩ = some (.slice none 0 0) ∧ EvAt wr (some ⟨e, 0, none⟩) e 0 (L i) (F i) := fun i => by
    by_cases hi : i < n
    · obtain ⟨e, he⟩ := h.s i hi
      exact ⟨e, fun _ => he⟩
    · exact ⟨0, fun h' => absurd h' hi⟩
  obtain ⟨E, hE⟩ := Classical.axiomOfChoice this
  exact ⟨g, E, rfl, ⟨fun _ => rfl, fun i hi => by rw [Nat.zero_add]; exact (hE i hi).2.1, fun i hi => by rw [Nat.zero_add]; exact (hE i hi).2.2.1, fun i hi => (hE i hi).2.2.2⟩, h.bel, h.ge, fun i hi => (hE i hi).1⟩

set_option maxRecDepth 100000 in
set_option maxHeartbeats 1000000 in
theorem outcomes_calls (a : Option Addr) (nb no n cap : Nat) (A : Nat → Option Addr) (L C IB IQ : Nat → Nat) (F : Nat → Nat → ByteArray) (w : World) (h : NmAt w a nb no n A L C IB IQ F) (hn : n ≤ 65536) (hL : ∀ i, i < n → L i ≤ 65536) :
    Calls Try.prog 8 #[.slice a n cap] w (OutsP w n L F) := by
  have hi : (Try.prog.info? 33).map (fun i => (i.zero, i.size, i.bytes)) = some (some (.agg #[.slice none 0 0, .slice none 0 0]), 2, 48) := by kernel_rfl
  obtain ⟨i0, hi, hz0, hz1, hz2⟩ := info_parts hi
  have hmk := run_make (P := Try.prog) w 25 33 i0 _ Try.underlying25 hi hz0 .i64 .i64 n n (by omega) (Int.le_refl _) (by rw [hz2]; omega) (by omega)
  simp only [Int.toNat_natCast, hz1] at hmk
  go_enter Try.func8, Try.ntmps8
  go_wp2
  go_loopw [4] (fun i wr => ∃ (k : Nat), k ≤ n ∧ i = .int .i64 k ∧ Ws w wr w.heap.size n k L F) (fun i _ => n - (intOf i).toNat)
  case atStart => exact ⟨0, Nat.zero_le _, rfl, ws_start w n L F⟩
  case round =>
    obtain ⟨k, hk, rfl, hW⟩ := hrel
    by_cases hlt : k < n
    · have ha := h.addr (by omega)
      subst ha
      have hc := below_cell hW.bel (h.c k hlt)
      have hlt' : (k : Int) < (n : Int) := by omega
      go_wp2_with fail
      refine (outcome_calls (A k) (IB k) (IQ k) (L k) (C k) (F k) _ ((h.r k hlt).below hW.bel) (by have := hL k hlt; omega)).mono ?_
      rintro e w1 ⟨g, rfl, hE, hgw, hB⟩
      have hW1 := hW.below hB
      have hlt1 := hW.lt
      have hst := hW1.step hlt hE (by omega)
      obtain ⟨u0, hu0⟩ := Option.isSome_iff_exists.1 (hW1.t (k * 2) (by omega))
      obtain ⟨u1, hu1⟩ := Option.isSome_iff_exists.1 (hW1.t (k * 2 + 1) (by omega))
      have z0 := hW1.fz (k * 2) (by omega)
      have z1 := hW1.fz (k * 2 + 1) (by omega)
      go_wp2
      go_roundw
      case rel => exact ⟨k + 1, hlt, by go_num, hst⟩
      case measure => simp [intOf]; omega
    · have hlt' : ¬ (k : Int) < (n : Int) := by omega
      (obtain rfl : k = n := by omega)
      go_wp2
      go_ret
      exact hW.fin
end Go.Proofs.Qxb6616141a
