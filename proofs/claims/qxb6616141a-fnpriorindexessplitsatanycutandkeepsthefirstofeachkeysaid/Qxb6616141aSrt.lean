/-
  OWN TEXT. THE PLAIN SIDE of a stable sort by keys: segments, stability, order.
-/
import Derived.Test.Qxb6616141aRot
namespace Go.Proofs.Qxb6616141a

def segL (xs : Nat → E) (a : Nat) : Nat → List E
  | 0 => []
  | m + 1 => xs a :: segL xs (a + 1) m
/-- the entries from a up to b -/
def seg (xs : Nat → E) (a b : Nat) : List E := segL xs a (b - a)
theorem segL_congr {xs ys : Nat → E} : ∀ {m a c : Nat}, (∀ t, t < m → xs (a + t) = ys (c + t)) → segL xs a m = segL ys c m
  | 0, _, _, _ => rfl
  | m + 1, a, c, h => by
    have h0 : xs a = ys c := h 0 (by omega)
    simp only [segL]
    rw [h0, segL_congr (m := m) (a := a + 1) (c := c + 1) (fun t ht => by have := h (t + 1) (by omega); rwa [show a + (t + 1) = a + 1 + t by omega, show c + (t + 1) = c + 1 + t by omega] at this)]
theorem segL_add (xs : Nat → E) : ∀ (p q a : Nat), segL xs a (p + q) = segL xs a p ++ segL xs (a + p) q
  | 0, q, a => by simp [segL]
  | p + 1, q, a => by
    rw [show p + 1 + q = (p + q) + 1 by omega]
    simp only [segL, List.cons_append]
    rw [segL_add xs p q (a + 1), show a + 1 + p = a + (p + 1) by omega]
theorem seg_split (xs : Nat → E) {a m b : Nat} (h1 : a ≤ m) (h2 : m ≤ b) : seg xs a b = seg xs a m ++ seg xs m b := by
  unfold seg
  rw [show b - a = (m - a) + (b - m) by omega, segL_add, show a + (m - a) = m by omega]
theorem seg_congr {xs ys : Nat → E} {a b c d : Nat} (hl : b - a = d - c) (h : ∀ t, t < b - a → xs (a + t) = ys (c + t)) : seg xs a b = seg ys c d := by
  unfold seg
  rw [← hl]
  exact segL_congr h
theorem mem_segL {xs : Nat → E} {e : E} : ∀ {m a : Nat}, e ∈ segL xs a m ↔ ∃ t, t < m ∧ xs (a + t) = e
  | 0, a => by simp [segL]
  | m + 1, a => by
    simp only [segL, List.mem_cons, mem_segL (m := m)]
    constructor
    · rintro (h | ⟨t, ht, h⟩)
      · exact ⟨0, by omega, h.symm⟩
      · exact ⟨t + 1, by omega, by rw [← h]; congr 1; omega⟩
    · rintro ⟨t, ht, h⟩
      cases t with
      | zero => exact .inl h.symm
      | succ t => exact .inr ⟨t, by omega, by rw [← h]; congr 1; omega⟩

/-- the entries of each key stand in the same order -/
def Stb (l l' : List E) : Prop := ∀ k : Int, l'.filter (fun e => e.1 == k) = l.filter (fun e => e.1 == k)
theorem Stb.refl (l : List E) : Stb l l := fun _ => rfl
theorem Stb.trans {a b c : List E} (h : Stb a b) (k : Stb b c) : Stb a c := fun q => (k q).trans (h q)
theorem Stb.app {a b c d : List E} (h : Stb a b) (k : Stb c d) : Stb (a ++ c) (b ++ d) := fun q => by rw [List.filter_append, List.filter_append, h q, k q]
/-- two lists without a key in common may change places -/
theorem Stb.comm {a b : List E} (h : ∀ x ∈ a, ∀ y ∈ b, x.1 ≠ y.1) : Stb (a ++ b) (b ++ a) := fun q => by
  rw [List.filter_append, List.filter_append]
  by_cases ha : a.filter (fun e => e.1 == q) = []
  · rw [ha]; simp
  · by_cases hb : b.filter (fun e => e.1 == q) = []
    · rw [hb]; simp
    · obtain ⟨x, hx⟩ := List.exists_mem_of_ne_nil _ ha
      obtain ⟨y, hy⟩ := List.exists_mem_of_ne_nil _ hb
      simp only [List.mem_filter, beq_iff_eq] at hx hy
      exact absurd (hx.2.trans hy.2.symm) (h x hx.1 y hy.1)

def SrtOn (xs : Nat → E) (a b : Nat) : Prop := ∀ i j, a ≤ i → i < j → j < b → (xs i).1 ≤ (xs j).1
def Out (xs ys : Nat → E) (a b : Nat) : Prop := ∀ t, t < a ∨ b ≤ t → ys t = xs t
theorem Out.refl (xs : Nat → E) (a b : Nat) : Out xs xs a b := fun _ _ => rfl
theorem Out.trans {xs ys zs : Nat → E} {a b : Nat} (h : Out xs ys a b) (k : Out ys zs a b) : Out xs zs a b := fun t ht => (k t ht).trans (h t ht)
theorem Out.mono {xs ys : Nat → E} {a b c d : Nat} (h : Out xs ys a b) (h1 : c ≤ a) (h2 : b ≤ d) : Out xs ys c d := fun t ht => h t (by omega)

/-- a part turned stably turns the whole stably -/
theorem stb_part {xs ys : Nat → E} {a b c d : Nat} (ho : Out xs ys a b) (h : Stb (seg xs a b) (seg ys a b)) (hab : a ≤ b) (hc : c ≤ a) (hd : b ≤ d) : Stb (seg xs c d) (seg ys c d) := by
  rw [seg_split xs hc (show a ≤ d by omega), seg_split xs hab hd, seg_split ys hc (show a ≤ d by omega), seg_split ys hab hd]
  have e1 : seg ys c a = seg xs c a := seg_congr rfl (fun t ht => ho _ (by omega))
  have e2 : seg ys b d = seg xs b d := seg_congr rfl (fun t ht => ho _ (by omega))
  rw [e1, e2]
  exact (Stb.refl _).app (h.app (Stb.refl _))

/-- two neighbours, the latter of the smaller key, change places -/
theorem stb_swap {xs : Nat → E} {j : Nat} (hlt : (xs (j + 1)).1 < (xs j).1) : Out xs (swE xs (j + 1) j) j (j + 2) ∧ Stb (seg xs j (j + 2)) (seg (swE xs (j + 1) j) j (j + 2)) := by
  have e0 : swE xs (j + 1) j j = xs (j + 1) := by simp [swE, upE]
  have e1 : swE xs (j + 1) j (j + 1) = xs j := by simp [swE, upE]
  refine ⟨fun t ht => ?_, ?_⟩
  · unfold swE upE
    rw [if_neg (by omega), if_neg (by omega)]
  · have s1 : seg xs j (j + 2) = [xs j] ++ [xs (j + 1)] := by
      unfold seg
      rw [show j + 2 - j = 2 by omega]
      rfl
    have s2 : seg (swE xs (j + 1) j) j (j + 2) = [xs (j + 1)] ++ [xs j] := by
      unfold seg
      rw [show j + 2 - j = 2 by omega]
      show [swE xs (j + 1) j j, swE xs (j + 1) j (j + 1)] = _
      rw [e0, e1]; rfl
    rw [s1, s2]
    refine Stb.comm fun x hx y hy => ?_
    simp at hx hy
    rw [hx, hy]
    omega

/-- two parts change places, all keys of the latter smaller -/
theorem stb_rot {xs : Nat → E} {a m b : Nat} (h1 : a ≤ m) (h2 : m ≤ b) (h : ∀ i j, a ≤ i → i < m → m ≤ j → j < b → (xs j).1 < (xs i).1) : Out xs (Rot xs a m b) a b ∧ Stb (seg xs a b) (seg (Rot xs a m b) a b) := by
  refine ⟨fun t ht => by unfold Rot; rw [if_pos ht], ?_⟩
  rw [seg_split xs h1 h2, seg_split (Rot xs a m b) (show a ≤ a + (b - m) by omega) (show a + (b - m) ≤ b by omega)]
  have e1 : seg (Rot xs a m b) a (a + (b - m)) = seg xs m b := seg_congr (by omega) (fun t ht => by
    unfold Rot
    rw [if_neg (by omega), if_pos (by omega)]
    congr 1; omega)
  have e2 : seg (Rot xs a m b) (a + (b - m)) b = seg xs a m := seg_congr (by omega) (fun t ht => by
    unfold Rot
    rw [if_neg (by omega), if_neg (by omega)]
    congr 1; omega)
  rw [e1, e2]
  refine Stb.comm fun x hx y hy => ?_
  unfold seg at hx hy
  obtain ⟨t, ht, rfl⟩ := mem_segL.1 hx
  obtain ⟨q, hq, rfl⟩ := mem_segL.1 hy
  have := h (a + t) (m + q) (by omega) (by omega) (by omega) (by omega)
  omega
end Go.Proofs.Qxb6616141a
