/-
  OWN TEXT. Outcomes made: ZZoutcome, zzOutcomes.
-/
import Derived.Test.Qxb6616141aOut
namespace Go.Proofs.Qxb6616141a
open Go.RowKit

/-- a row under way in a block of the call's own: k of n events are laid; the result's block r stands -/
structure Wr (w0 wr : World) (g r n k : Nat) (f : Nat → ByteArray) : Prop where
  bel : Below w0.heap.size w0 wr
  ge : w0.heap.size ≤ g
  ger : w0.heap.size ≤ r
  ne : g ≠ r
  c : ∀ i, i < k → wr.cell? ⟨g, i, none⟩ = some (ev (f i))
  t : ∀ i, i < n → (wr.cell? ⟨g, i, none⟩).isSome = true
  fz : ∀ i, i < n → wr.frozen? ⟨g, i, none⟩ = false
  r0 : wr.cell? ⟨r, 0, none⟩ = some (.slice none 0 0)
  r1 : wr.cell? ⟨r, 1, none⟩ = some (.slice none 0 0)
  z0 : wr.frozen? ⟨r, 0, none⟩ = false
  z1 : wr.frozen? ⟨r, 1, none⟩ = false

theorem Wr.step {w0 wr : World} {g r n k : Nat} {f : Nat → ByteArray} (h : Wr w0 wr g r n k f) (hk : k < n) : Wr w0 (wr.setCell ⟨g, k, none⟩ (ev (f k))) g r n (k + 1) f := by
  obtain ⟨u, hu⟩ := Option.isSome_iff_exists.1 (h.t k hk)
  have oth : ∀ o, (⟨r, o, none⟩ : Addr) ≠ ⟨g, k, none⟩ := fun o e => h.ne (by injection e with e1; exact e1.symm)
  refine ⟨h.bel.setCell (p := ⟨g, k, none⟩) h.ge _, h.ge, h.ger, h.ne, ?_, ?_, fun i hi => by rw [World.frozen?_setCell]; exact h.fz i hi, ?_, ?_, by rw [World.frozen?_setCell]; exact h.z0, by rw [World.frozen?_setCell]; exact h.z1⟩
  · intro i hi
    by_cases hik : i = k
    · subst hik
      exact World.cell?_setCell_same _ _ _ hu
    · rw [World.cell?_setCell_other _ _ _ _ (by rw [ne_eq, Addr.mk.injEq]; omega)]
      exact h.c i (by omega)
  · intro i hi
    by_cases hik : i = k
    · subst hik
      rw [World.cell?_setCell_same _ _ _ hu]; rfl
    · rw [World.cell?_setCell_other _ _ _ _ (by rw [ne_eq, Addr.mk.injEq]; omega)]
      exact h.t i hi
  · rw [World.cell?_setCell_other _ _ _ _ (Ne.symm (oth 0))]; exact h.r0
  · rw [World.cell?_setCell_other _ _ _ _ (Ne.symm (oth 1))]; exact h.r1

theorem frozen_new {w : World} {n : Nat} (hn : n = w.heap.size) (cs : Array Value) (t : TypeId) (j : Nat) : (w.alloc (.cells cs t)).frozen? ⟨n, j, none⟩ = false := by
  have := heap_at hn (.cells cs t)
  unfold World.frozen?
  rw [this]
  simp
theorem wr_start (w : World) (n : Nat) (f : Nat → ByteArray) : Wr w ((w.alloc (.cells #[.slice none 0 0, .slice none 0 0] 33)).alloc (.cells (madeCells #[Value.nilIface] n) 74)) (w.heap.size + 1) w.heap.size n 0 f := by
  refine ⟨below_tr (below_alloc _ _) (below_alloc _ _), by omega, Nat.le_refl _, by omega, fun i hi => by omega, fun i hi => ?_, fun i hi => frozen_new (by simp) _ _ _, ?_, ?_, ?_, ?_⟩
  · rw [cell_new (by simp)]
    simp [madeCells, hi]
  · exact below_cell (below_alloc _ _) ((cell_new rfl _ _ _).trans rfl)
  · exact below_cell (below_alloc _ _) ((cell_new rfl _ _ _).trans rfl)
  · exact (World.frozen?_of_block (Below.heap_alloc _ _ _ (by simp))).trans (frozen_new rfl _ _ _)
  · exact (World.frozen?_of_block (Below.heap_alloc _ _ _ (by simp))).trans (frozen_new rfl _ _ _)

theorem Wr.fin {w0 wr : World} {g r n : Nat} {f : Nat → ByteArray} (h : Wr w0 wr g r n n f) :
    ((wr.setCell ⟨r, 0, none⟩ (.slice (some ⟨g, 0, none⟩) n n)).setCell ⟨r, 1, none⟩ (.slice none 0 0)).cell? ⟨r, 0, none⟩ = some (.slice (some ⟨g, 0, none⟩) n n) ∧
    ((wr.setCell ⟨r, 0, none⟩ (.slice (some ⟨g, 0, none⟩) n n)).setCell ⟨r, 1, none⟩ (.slice none 0 0)).cell? ⟨r, 1, none⟩ = some (.slice none 0 0) ∧
    EvAt ((wr.setCell ⟨r, 0, none⟩ (.slice (some ⟨g, 0, none⟩) n n)).setCell ⟨r, 1, none⟩ (.slice none 0 0)) (some ⟨g, 0, none⟩) g 0 n f ∧
    Below w0.heap.size w0 ((wr.setCell ⟨r, 0, none⟩ (.slice (some ⟨g, 0, none⟩) n n)).setCell ⟨r, 1, none⟩ (.slice none 0 0)) := by
  have hne := h.ne
  refine ⟨?_, ?_, ⟨fun _ => rfl, fun i hi => ?_⟩, (h.bel.setCell (p := ⟨r, 0, none⟩) h.ger _).setCell (p := ⟨r, 1, none⟩) h.ger _⟩
  · rw [World.cell?_setCell_other _ _ _ _ (by rw [ne_eq, Addr.mk.injEq]; omega)]
    exact World.cell?_setCell_same _ _ _ h.r0
  · refine World.cell?_setCell_same _ _ (u := .slice none 0 0) _ ?_
    rw [World.cell?_setCell_other _ _ _ _ (by rw [ne_eq, Addr.mk.injEq]; omega)]
    exact h.r1
  · rw [Nat.zero_add, World.cell?_setCell_other _ _ _ _ (by rw [ne_eq, Addr.mk.injEq]; omega), World.cell?_setCell_other _ _ _ _ (by rw [ne_eq, Addr.mk.injEq]; omega)]
    exact h.c i hi

def OutP (w : World) (n : Nat) (f : Nat → ByteArray) (e : Ending) (w' : World) : Prop := ∃ g, e = .returned (.agg #[.slice (some ⟨g, 0, none⟩) n n, .slice none 0 0]) ∧ EvAt w' (some ⟨g, 0, none⟩) g 0 n f ∧ w.heap.size ≤ g ∧ Below w.heap.size w w'

set_option maxRecDepth 100000 in
set_option maxHeartbeats 1000000 in
theorem outcome_calls (a : Option Addr) (sb so n cap : Nat) (f : Nat → ByteArray) (w : World) (h : StrAt w a sb so n f) (hn : n ≤ 1048576) :
    Calls Try.prog 12 #[.slice a n cap] w (OutP w n f) := by
  have hi : (Try.prog.info? 74).map (fun i => (i.zero, i.size, i.bytes)) = some (some .nilIface, 1, 16) := by kernel_rfl
  obtain ⟨i0, hi, hz0, hz1, hz2⟩ := info_parts hi
  have hmk := run_make (P := Try.prog) (w.alloc (.cells #[.slice none 0 0, .slice none 0 0] 33)) 31 74 i0 .nilIface Try.underlying31 hi hz0 .i64 .i64 n n (by omega) (Int.le_refl _) (by rw [hz2]; omega) (by omega)
  simp only [Int.toNat_natCast, hz1, Nat.mul_one] at hmk
  go_enter Try.func12, Try.ntmps12
  go_wp2
  go_loopw [4] (fun i wr => ∃ (k : Nat), k ≤ n ∧ i = .int .i64 k ∧ Wr w wr (w.heap.size + 1) w.heap.size n k f) (fun i _ => n - (intOf i).toNat)
  case atStart => exact ⟨0, Nat.zero_le _, rfl, wr_start w n f⟩
  case round =>
    obtain ⟨k, hk, rfl, hW⟩ := hrel
    by_cases hlt : k < n
    · have ha := h.addr (by omega)
      subst ha
      have hc := below_cell hW.bel (h.c k hlt)
      obtain ⟨u, hu⟩ := Option.isSome_iff_exists.1 (hW.t k hlt)
      have hz := hW.fz k hlt
      have hlt' : (k : Int) < (n : Int) := by omega
      have hst := hW.step hlt
      go_wp2
      go_roundw
      case rel => exact ⟨k + 1, hlt, by go_num, hst⟩
      case measure => simp [intOf]; omega
    · have hlt' : ¬ (k : Int) < (n : Int) := by omega
      (obtain rfl : k = n := by omega)
      have r0 := hW.r0
      have r1 := hW.r1
      have z0 := hW.z0
      have z1 := hW.z1
      have hfin := hW.fin
      go_wp2
      obtain ⟨q0, q1, hE, hB⟩ := hfin
      generalize ((wr.setCell ⟨w.heap.size, 0, none⟩ (.slice (some ⟨w.heap.size + 1, 0, none⟩) k k)).setCell ⟨w.heap.size, 1, none⟩ (.slice none 0 0)) = W at q0 q1 hE hB ⊢
      refine bodyPost_ret (v := .agg #[.slice (some ⟨w.heap.size + 1, 0, none⟩) k k, .slice none 0 0]) (by simp [results, Try.results12, go_sem, q0, q1]) rfl ?_
      exact ⟨w.heap.size + 1, rfl, hE, by omega, hB⟩
end Go.Proofs.Qxb6616141a
