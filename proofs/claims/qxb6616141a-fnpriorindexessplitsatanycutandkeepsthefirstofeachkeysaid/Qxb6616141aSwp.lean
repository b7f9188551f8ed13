/-
  OWN TEXT. swapRangeCmpFunc, rotateCmpFunc.
-/
import Derived.Test.Qxb6616141aPe
import Derived.BigRegion
import Derived.Deep.DeepCutAuto
import Derived.Deep.Cut
namespace Go.Proofs.Qxb6616141a
open Go.RowKit

def swE (xs : Nat → E) (i j : Nat) : Nat → E := upE (upE xs i (xs j)) j (xs i)

theorem PR.drew {w : World} {g n : Nat} {xs : Nat → E} (h : PR w g n xs) : PR w.drew g n xs := ⟨fun i hi j v hv => h.r i hi j v hv, fun i hi j hj => h.t i hi j hj⟩
theorem Chg.drew {F : Nat → Prop} {w w' : World} (h : Chg F w w') : Chg F w w'.drew := ⟨h.os, h.tape, h.output, h.size, h.block⟩

/-- the world behind a swap -/
theorem PR.swap {w : World} {g n : Nat} {xs : Nat → E} (h : PR w g n xs) {i j : Nat} (hi : i < n) (hj : j < n) :
    PR ((w.setCells g (i * 15) (encE (xs j))).setCells g (j * 15) (encE (xs i))) g n (swE xs i j) ∧ Chg (fun k => k = g) w ((w.setCells g (i * 15) (encE (xs j))).setCells g (j * 15) (encE (xs i))) :=
  ⟨(h.set hi _).set hj _, (chg_setCells g _ _ w).tr (chg_setCells g _ _ _)⟩

/-- what a swap of the elements i, j wants and leaves -/
structure SwF (w : World) (g n : Nat) (i j : Nat) (ei ej : E) (W1 W2 : World) (ys : Nat → E) : Prop where
  ci : ∀ q, q < 15 → w.cell? ⟨g, i * 15 + q, none⟩ = some (cE ei q)
  ci0 : w.cell? ⟨g, i * 15, none⟩ = some (cE ei 0)
  cj : ∀ q, q < 15 → w.cell? ⟨g, j * 15 + q, none⟩ = some (cE ej q)
  cj0 : w.cell? ⟨g, j * 15, none⟩ = some (cE ej 0)
  s1 : (storeCells ⟨g, i * 15, none⟩ (encE ej)).run Try.prog w.drew = .ok () W1
  s2 : (storeCells ⟨g, j * 15, none⟩ (encE ei)).run Try.prog W1 = .ok () W2
  pr : PR W2 g n ys
  chg : Chg (fun k => k = g) w W2

theorem swap_facts {w : World} {g n : Nat} {xs : Nat → E} (h : PR w g n xs) {i j : Nat} (hi : i < n) (hj : j < n) : ∃ W1 W2, SwF w g n i j (xs i) (xs j) W1 W2 (swE xs i j) := by
  obtain ⟨hR2, hC2⟩ := h.drew.swap hi hj
  exact ⟨_, _, ⟨(h.cells hi).1, (h.cells hi).2, (h.cells hj).1, (h.cells hj).2, h.drew.storeC hi (xs j), (h.drew.set hi (xs j)).storeC hj (xs i), hR2, ((Chg.refl (fun k => k = g) w).drew).tr hC2⟩⟩

/-- m places from a on and m from b on change places: the first k have -/
def swapR (xs : Nat → E) (a b : Nat) : Nat → Nat → E
  | 0 => xs
  | k + 1 => swE (swapR xs a b k) (a + k) (b + k)

def RowP (w : World) (g n : Nat) (ys : Nat → E) (e : Ending) (w' : World) : Prop := e = .returned (.tuple #[]) ∧ PR w' g n ys ∧ Chg (fun k => k = g) w w'

set_option maxRecDepth 100000 in
set_option maxHeartbeats 4000000 in
theorem swapRange_calls (g n cap : Nat) (xs : Nat → E) (w : World) (h : PR w g n xs) (hn : n ≤ 1000000) (cv : Value) (ai bi mi : Int) (a b m : Nat) (ea : ai = a) (eb : bi = b) (em : mi = m) (ha : a + m ≤ n) (hb : b + m ≤ n) :
    Calls Try.prog 50 #[.slice (some ⟨g, 0, none⟩) n cap, .int .i64 ai, .int .i64 bi, .int .i64 mi, cv] w (RowP w g n (swapR xs a b m)) := by
  subst ea eb em
  have hm' : (m : Int) ≤ 1000000 := by omega
  go_enter Try.func50, Try.ntmps50
  go_wp2
  go_loopw [10] (fun iv wr => ∃ k : Nat, k ≤ m ∧ iv = .int .i64 k ∧ PR wr g n (swapR xs a b k) ∧ Chg (fun k => k = g) w wr) (fun iv _ => m - (intOf iv).toNat)
  case atStart => exact ⟨0, Nat.zero_le _, rfl, h, Chg.refl _ _⟩
  case round =>
    obtain ⟨k, hk, rfl, hR, hC⟩ := hrel
    by_cases hlt : k < m
    · have hlt' : (k : Int) < (m : Int) := by omega
      have h1 : (a : Int) + (k : Int) < (n : Int) := by omega
      have h2 : (b : Int) + (k : Int) < (n : Int) := by omega
      have h3 : (0 : Int) ≤ (a : Int) + (k : Int) := by omega
      have h4 : (0 : Int) ≤ (b : Int) + (k : Int) := by omega
      have t1 : ((a : Int) + (k : Int)).toNat = a + k := by omega
      have t2 : ((b : Int) + (k : Int)).toNat = b + k := by omega
      obtain ⟨W1, W2, hS⟩ := swap_facts hR (i := a + k) (j := b + k) (by omega) (by omega)
      have hst : swE (swapR xs a b k) (a + k) (b + k) = swapR xs a b (k + 1) := rfl
      rw [hst] at hS
      clear hst hR
      generalize swapR xs a b k (a + k) = ea at hS
      generalize swapR xs a b k (b + k) = eb at hS
      obtain ⟨ci, ci0, cj, cj0, s1, s2, hR2, hC2⟩ := hS
      have hC3 := hC.tr hC2
      clear hC hC2
      have fa := foldE ea
      have fb := foldE eb
      have la := encE_length ea
      have lb := encE_length eb
      go_wp2_with fail
      go_region
      all_goals
        go_wp2
        go_roundw
        case rel => exact ⟨k + 1, by omega, by go_num, hR2, hC3⟩
        case measure => simp [intOf]; omega
    · have hlt' : ¬ (k : Int) < (m : Int) := by omega
      obtain rfl : k = m := by omega
      go_wp2
      go_end0
      exact ⟨rfl, hR, hC⟩
end Go.Proofs.Qxb6616141a
