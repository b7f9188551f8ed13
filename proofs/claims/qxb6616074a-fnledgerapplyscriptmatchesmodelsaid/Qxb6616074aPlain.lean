/-
  OWN TEXT. THE PLAIN LAW of the heap: no Go in sight.
-/
import Derived.Test.Qxb6616074aDefs
namespace Go.Proofs.Qxb6616074a

/-! ### what is held: nothing is lost, nothing is added -/
theorem set_set_perm {α : Type} [BEq α] [LawfulBEq α] {l : List α} {i j : Nat} {a b : α} (hi : l[i]? = some a) (hj : l[j]? = some b) (hij : i ≠ j) : ((l.set i b).set j a).Perm l := by
  have hil : i < l.length := (List.getElem?_eq_some_iff.1 hi).1
  have hjl : j < l.length := (List.getElem?_eq_some_iff.1 hj).1
  have hia : l[i] = a := (List.getElem?_eq_some_iff.1 hi).2
  have hjb : l[j] = b := (List.getElem?_eq_some_iff.1 hj).2
  rw [List.perm_iff_count]
  intro x
  rw [List.count_set (by simpa using hjl), List.count_set hil, List.getElem_set_ne hij, hia, hjb]
  have h1 : (if a == x then 1 else 0) ≤ l.count x := by
    split
    · rename_i h
      have : a = x := by simpa using h
      subst this
      exact List.count_pos_iff.2 (List.mem_of_getElem? hi)
    · omega
  generalize List.count x l = c at h1 ⊢
  by_cases h2 : (a == x) = true
  · rw [if_pos h2] at h1 ⊢
    by_cases h3 : (b == x) = true
    · rw [if_pos h3]; omega
    · rw [if_neg h3]; omega
  · rw [if_neg h2]
    by_cases h3 : (b == x) = true
    · rw [if_pos h3]; omega
    · rw [if_neg h3]; omega
theorem swp_perm (hs : List Dbt) (i j : Nat) : (swp hs i j).Perm hs := by
  unfold swp
  split
  · rename_i a b hi hj
    have hia : hs[i]'((List.getElem?_eq_some_iff.1 hi).1) = a := (List.getElem?_eq_some_iff.1 hi).2
    by_cases hij : i = j
    · subst hij
      rw [hi] at hj
      cases hj
      rw [List.set_set, ← hia, List.set_getElem_self]
    · exact @set_set_perm Dbt instBEqOfDecidableEq inferInstance hs i j a b hi hj hij
  · exact List.Perm.refl _
theorem upF_perm : ∀ (f : Nat) (hs : List Dbt) (j : Nat), (upF f hs j).Perm hs
  | 0, _, _ => List.Perm.refl _
  | f + 1, hs, j => by
    unfold upF
    split
    · exact List.Perm.refl _
    · exact (upF_perm f _ _).trans (swp_perm _ _ _)
theorem downF_perm : ∀ (f : Nat) (hs : List Dbt) (n i : Nat), (downF f hs n i).1.Perm hs
  | 0, _, _, _ => List.Perm.refl _
  | f + 1, hs, n, i => by
    unfold downF
    split
    · exact List.Perm.refl _
    · exact (downF_perm f _ _ _).trans (swp_perm _ _ _)

theorem swp_get_other (hs : List Dbt) {i j m : Nat} (h1 : m ≠ i) (h2 : m ≠ j) : (swp hs i j)[m]? = hs[m]? := by
  unfold swp
  split
  · rw [List.getElem?_set_ne (Ne.symm h2), List.getElem?_set_ne (Ne.symm h1)]
  · rfl
theorem upF_get_above : ∀ (f : Nat) (hs : List Dbt) (j m : Nat), j < m → (upF f hs j)[m]? = hs[m]?
  | 0, _, _, _, _ => rfl
  | f + 1, hs, j, m, h => by
    unfold upF
    split
    · rfl
    · rw [upF_get_above f _ _ m (by omega), swp_get_other _ (by omega) (by omega)]
theorem pickF_cases (hs : List Dbt) (n i : Nat) : pickF hs n i = 2 * i + 1 ∨ (pickF hs n i = 2 * i + 2 ∧ 2 * i + 2 < n) := by
  unfold pickF
  split
  · rename_i h; exact .inr ⟨rfl, h.1⟩
  · exact .inl rfl
theorem downF_get_above : ∀ (f : Nat) (hs : List Dbt) (n i m : Nat), i < m → n ≤ m → (downF f hs n i).1[m]? = hs[m]?
  | 0, _, _, _, _, _, _ => rfl
  | f + 1, hs, n, i, m, h1, h2 => by
    unfold downF
    split
    · rfl
    · rename_i h
      have hp := pickF_cases hs n i
      have h0 : ¬ n ≤ 2 * i + 1 := fun x => h (.inl x)
      rw [downF_get_above f _ _ _ m (by omega) h2, swp_get_other _ (by omega) (by omega)]

theorem perm_of_snoc {α : Type} {L hs : List α} {m i : Nat} {a : α} (hL : L.length = m + 1) (hp : L.Perm hs) (hm : L[m]? = some a) (hi : hs[i]? = some a) : (L.take m).Perm (hs.eraseIdx i) := by
  have e1 : L = L.take m ++ [a] := by
    have hml : m < L.length := by omega
    have : L[m] = a := (List.getElem?_eq_some_iff.1 hm).2
    rw [← this, ← List.take_succ_eq_append_getElem hml, List.take_of_length_le (by omega)]
  have e2 : hs.Perm (a :: hs.eraseIdx i) := by
    have hil : i < hs.length := (List.getElem?_eq_some_iff.1 hi).1
    have := ChangeMaps.set_perm hs i hil hs[i]
    rw [List.set_getElem_self, (List.getElem?_eq_some_iff.1 hi).2] at this
    exact this
  have e3 : (a :: L.take m).Perm (a :: hs.eraseIdx i) := by
    refine List.Perm.trans ?_ (hp.trans e2)
    conv => rhs; rw [e1]
    exact (List.perm_append_singleton a (L.take m)).symm
  exact (List.perm_cons a).1 e3

theorem removeF_perm (hs : List Dbt) (i : Nat) (hi : i < hs.length) : (removeF hs i).Perm (hs.eraseIdx i) := by
  obtain ⟨m, hm⟩ : ∃ m, hs.length = m + 1 := ⟨hs.length - 1, by omega⟩
  have ei : hs[i]? = some hs[i] := List.getElem?_eq_getElem hi
  unfold removeF
  rw [hm]
  simp only [Nat.add_sub_cancel]
  split
  · rename_i h
    subst h
    exact perm_of_snoc hm (List.Perm.refl _) ei ei
  · rename_i h
    have em : hs[m]? = some (hs[m]'(by omega)) := List.getElem?_eq_getElem (by omega)
    have es : (swp hs i m)[m]? = some hs[i] := by
      rw [swp_eq ei em, List.getElem?_set_self (by simp; omega)]
    have ed : (downF (m + 1) (swp hs i m) m i).1[m]? = some hs[i] := by rw [downF_get_above _ _ _ _ _ (by omega) (Nat.le_refl _), es]
    split
    · exact perm_of_snoc (by rw [downF_length, swp_length, hm]) ((downF_perm _ _ _ _).trans (swp_perm _ _ _)) ed ei
    · refine perm_of_snoc (by rw [upF_length, downF_length, swp_length, hm]) ((upF_perm _ _ _).trans ((downF_perm _ _ _ _).trans (swp_perm _ _ _))) ?_ ei
      rw [upF_get_above _ _ _ _ (by omega)]
      exact ed
theorem pushF_perm (hs : List Dbt) (d : Dbt) : (pushF hs d).Perm (d :: hs) := (upF_perm _ _ _).trans (List.perm_append_singleton d hs)

/-! ### the order of the heap -/
def HeapOn (s : Nat → Int) (n : Nat) : Prop := ∀ k, 0 < k → k < n → s ((k - 1) / 2) ≤ s k

theorem stampAt_swp {hs : List Dbt} {i j : Nat} (hi : i < hs.length) (hj : j < hs.length) (hij : i ≠ j) (k : Nat) :
    stampAt (swp hs i j) k = if k = i then stampAt hs j else if k = j then stampAt hs i else stampAt hs k := by
  have ei : hs[i]? = some hs[i] := List.getElem?_eq_getElem hi
  have ej : hs[j]? = some hs[j] := List.getElem?_eq_getElem hj
  by_cases h1 : k = i
  · subst h1
    rw [if_pos rfl, stampAt_eq ej]
    exact stampAt_eq (by rw [swp_eq ei ej, List.getElem?_set_ne (Ne.symm hij), List.getElem?_set_self hi])
  · rw [if_neg h1]
    by_cases h2 : k = j
    · subst h2
      rw [if_pos rfl, stampAt_eq ei]
      exact stampAt_eq (by rw [swp_eq ei ej, List.getElem?_set_self (by simpa using hj)])
    · rw [if_neg h2]
      unfold stampAt
      rw [swp_get_other _ h1 h2]

theorem lessF_false {hs : List Dbt} {i j : Nat} (h : lessF hs i j = false) : stampAt hs j ≤ stampAt hs i := by
  unfold lessF at h
  have := of_decide_eq_false h
  omega
theorem lessF_true {hs : List Dbt} {i j : Nat} (h : lessF hs i j = true) : stampAt hs i < stampAt hs j := by
  unfold lessF at h
  exact of_decide_eq_true h

theorem upF_heap (n : Nat) : ∀ (f : Nat) (hs : List Dbt) (j : Nat), n ≤ hs.length → j < n → j < f →
    (∀ k, 0 < k → k < n → k ≠ j → stampAt hs ((k - 1) / 2) ≤ stampAt hs k) →
    (0 < j → ∀ c, 0 < c → c < n → (c - 1) / 2 = j → stampAt hs ((j - 1) / 2) ≤ stampAt hs c) →
    HeapOn (stampAt (upF f hs j)) n
  | 0, _, _, _, _, h, _, _ => by omega
  | f + 1, hs, j, hn, hj, hf, U1, U2 => by
    unfold upF
    split
    · rename_i h
      intro k h0 hk
      by_cases hkj : k = j
      · subst hkj
        rcases h with h | h
        · omega
        · exact lessF_false h
      · exact U1 k h0 hk hkj
    · rename_i h
      have h1 : (j - 1) / 2 ≠ j := fun x => h (.inl x)
      have h2 : lessF hs j ((j - 1) / 2) = true := by
        cases hl : lessF hs j ((j - 1) / 2) with
        | true => rfl
        | false => exact absurd (.inr hl) h
      have hlt := lessF_true h2
      generalize hp : (j - 1) / 2 = p at *
      have hpj : p < j := by omega
      have S := stampAt_swp (hs := hs) (i := p) (j := j) (by omega) (by omega) (by omega)
      refine upF_heap n f (swp hs p j) p (by rw [swp_length]; exact hn) (by omega) (by omega) ?_ ?_
      · intro k h0 hk hkp
        rw [S, S]
        by_cases hkj : k = j
        · subst hkj
          rw [hp]
          simp [Ne.symm (show p ≠ k by omega)]
          omega
        · rw [if_neg hkp, if_neg hkj]
          have hu := U1 k h0 hk hkj
          by_cases hq : (k - 1) / 2 = p
          · rw [if_pos hq]
            rw [hq] at hu
            omega
          · rw [if_neg hq]
            by_cases hq2 : (k - 1) / 2 = j
            · rw [if_pos hq2]
              have := U2 (by omega) k h0 hk hq2
              omega
            · rw [if_neg hq2]
              exact hu
      · intro h0 c hc0 hc hcp
        rw [S, S]
        have hpp : (p - 1) / 2 ≠ p := by omega
        have hpj' : (p - 1) / 2 ≠ j := by omega
        rw [if_neg hpp, if_neg hpj']
        have hu := U1 p h0 (by omega) (by omega)
        by_cases hcj : c = j
        · subst hcj
          rw [if_neg (by omega), if_pos rfl]
          exact hu
        · rw [if_neg (by omega), if_neg hcj]
          have := U1 c hc0 hc hcj
          rw [hcp] at this
          omega

theorem pick_min {hs : List Dbt} {n i : Nat} (c : Nat) (h0 : 0 < c) (hc : c < n) (hp : (c - 1) / 2 = i) : stampAt hs (pickF hs n i) ≤ stampAt hs c := by
  unfold pickF
  split
  · rename_i h
    have := lessF_true h.2
    have hcc : c = 2 * i + 1 ∨ c = 2 * i + 2 := by omega
    rcases hcc with rfl | rfl <;> omega
  · rename_i h
    have hcc : c = 2 * i + 1 ∨ c = 2 * i + 2 := by omega
    rcases hcc with rfl | rfl
    · omega
    · have : lessF hs (2 * i + 2) (2 * i + 1) = false := by
        cases hl : lessF hs (2 * i + 2) (2 * i + 1) with
        | false => rfl
        | true => exact absurd ⟨hc, hl⟩ h
      exact lessF_false this

/-- What one exchange of 'down' leaves. -/
theorem down_step {hs : List Dbt} {n i : Nat} (hn : n ≤ hs.length) (h0 : 2 * i + 1 < n) (hl : lessF hs (pickF hs n i) i = true)
    (D1 : ∀ k, 0 < k → k < n → k ≠ i → (k - 1) / 2 ≠ i → stampAt hs ((k - 1) / 2) ≤ stampAt hs k)
    (D2 : 0 < i → ∀ c, 0 < c → c < n → (c - 1) / 2 = i → stampAt hs ((i - 1) / 2) ≤ stampAt hs c) :
    (∀ k, 0 < k → k < n → (k - 1) / 2 ≠ pickF hs n i → stampAt (swp hs i (pickF hs n i)) ((k - 1) / 2) ≤ stampAt (swp hs i (pickF hs n i)) k) ∧
    (0 < pickF hs n i → ∀ c, 0 < c → c < n → (c - 1) / 2 = pickF hs n i → stampAt (swp hs i (pickF hs n i)) ((pickF hs n i - 1) / 2) ≤ stampAt (swp hs i (pickF hs n i)) c) := by
  have hlt := lessF_true hl
  have hmin := fun c => pick_min (hs := hs) (n := n) (i := i) c
  have hpc := pickF_cases hs n i
  generalize pickF hs n i = j at *
  have hji : i < j := by omega
  have hpj : (j - 1) / 2 = i := by omega
  have hjn : j < n := by omega
  have S := stampAt_swp (hs := hs) (i := i) (j := j) (by omega) (by omega) (by omega)
  constructor
  · intro k hk0 hk hpk
    rw [S, S]
    by_cases hkj : k = j
    · subst hkj
      rw [hpj, if_pos rfl, if_neg (by omega), if_pos rfl]
      omega
    · by_cases hki : k = i
      · subst hki
        rw [if_neg (by omega), if_neg (by omega), if_pos rfl]
        exact D2 hk0 j (by omega) hjn hpj
      · by_cases hq : (k - 1) / 2 = i
        · rw [if_pos hq, if_neg hki, if_neg hkj]
          exact hmin k hk0 hk hq
        · rw [if_neg hq, if_neg hpk, if_neg hki, if_neg hkj]
          exact D1 k hk0 hk hki hq
  · intro _ c hc0 hc hcp
    rw [S, S, hpj, if_pos rfl, if_neg (by omega), if_neg (by omega)]
    have := D1 c hc0 hc (by omega) (by omega)
    rw [hcp] at this
    exact this

theorem downF_heap (n : Nat) : ∀ (f : Nat) (hs : List Dbt) (i : Nat), n ≤ hs.length → i ≤ n → n < f + i →
    (∀ k, 0 < k → k < n → (k - 1) / 2 ≠ i → stampAt hs ((k - 1) / 2) ≤ stampAt hs k) →
    (0 < i → ∀ c, 0 < c → c < n → (c - 1) / 2 = i → stampAt hs ((i - 1) / 2) ≤ stampAt hs c) →
    HeapOn (stampAt (downF f hs n i).1) n
  | 0, _, _, _, _, h, _, _ => by omega
  | f + 1, hs, i, hn, hi, hf, E1, D2 => by
    unfold downF
    split
    · rename_i h
      intro k h0 hk
      show stampAt hs _ ≤ stampAt hs _
      by_cases hq : (k - 1) / 2 = i
      · rcases h with h | h
        · omega
        · have := lessF_false h
          have := pick_min (hs := hs) k h0 hk hq
          rw [hq]
          omega
      · exact E1 k h0 hk hq
    · rename_i h
      have h0 : 2 * i + 1 < n := Nat.lt_of_not_le (fun x => h (.inl x))
      have hl : lessF hs (pickF hs n i) i = true := by
        cases hl : lessF hs (pickF hs n i) i with
        | true => rfl
        | false => exact absurd (.inr hl) h
      have hpc := pickF_cases hs n i
      obtain ⟨E1', D2'⟩ := down_step hn h0 hl (fun k a b _ c => E1 k a b c) D2
      exact downF_heap n f _ _ (by rw [swp_length]; exact hn) (by omega) (by omega) E1' D2'

theorem downF_ge : ∀ (f : Nat) (hs : List Dbt) (n i : Nat), i ≤ (downF f hs n i).2
  | 0, _, _, _ => Nat.le_refl _
  | f + 1, hs, n, i => by
    unfold downF
    split
    · exact Nat.le_refl _
    · have := downF_ge f (swp hs i (pickF hs n i)) n (pickF hs n i)
      have hpc := pickF_cases hs n i
      omega

/-- 'down' from a place that may be wrong both ways: where it moved, all is in order; where it did not, only the way up is open. -/
theorem downF_first (n f : Nat) (hs : List Dbt) (i : Nat) (hn : n ≤ hs.length) (hf : n < f + 1 + i)
    (D1 : ∀ k, 0 < k → k < n → k ≠ i → (k - 1) / 2 ≠ i → stampAt hs ((k - 1) / 2) ≤ stampAt hs k)
    (D2 : 0 < i → ∀ c, 0 < c → c < n → (c - 1) / 2 = i → stampAt hs ((i - 1) / 2) ≤ stampAt hs c) :
    (i < (downF (f + 1) hs n i).2 → HeapOn (stampAt (downF (f + 1) hs n i).1) n) ∧
    (¬ i < (downF (f + 1) hs n i).2 → (downF (f + 1) hs n i).1 = hs ∧ ∀ k, 0 < k → k < n → k ≠ i → stampAt hs ((k - 1) / 2) ≤ stampAt hs k) := by
  have e : downF (f + 1) hs n i = if n ≤ 2 * i + 1 ∨ lessF hs (pickF hs n i) i = false then (hs, i) else downF f (swp hs i (pickF hs n i)) n (pickF hs n i) := rfl
  by_cases h : n ≤ 2 * i + 1 ∨ lessF hs (pickF hs n i) i = false
  · rw [e, if_pos h]
    refine ⟨fun x => by simp at x, fun _ => ⟨rfl, fun k h0 hk hki => ?_⟩⟩
    by_cases hq : (k - 1) / 2 = i
    · rcases h with h | h
      · omega
      · have := lessF_false h
        have := pick_min (hs := hs) k h0 hk hq
        rw [hq]
        omega
    · exact D1 k h0 hk hki hq
  · rw [e, if_neg h]
    have h0 : 2 * i + 1 < n := Nat.lt_of_not_le (fun x => h (.inl x))
    have hl : lessF hs (pickF hs n i) i = true := by
      cases hl : lessF hs (pickF hs n i) i with
      | true => rfl
      | false => exact absurd (.inr hl) h
    have hpc := pickF_cases hs n i
    obtain ⟨E1', D2'⟩ := down_step hn h0 hl D1 D2
    have hge := downF_ge f (swp hs i (pickF hs n i)) n (pickF hs n i)
    refine ⟨fun _ => downF_heap n f _ _ (by rw [swp_length]; exact hn) (by omega) (by omega) E1' D2', fun x => by omega⟩

theorem heap_take {L : List Dbt} {m : Nat} (h : HeapOn (stampAt L) m) : HeapOn (stampAt (L.take m)) m := by
  intro k h0 hk
  have e : ∀ q, q < m → stampAt (L.take m) q = stampAt L q := by
    intro q hq
    unfold stampAt
    rw [List.getElem?_take, if_pos hq]
  rw [e _ (by omega), e _ hk]
  exact h k h0 hk

theorem removeF_heap (hs : List Dbt) (i : Nat) (hi : i < hs.length) (h : HeapOn (stampAt hs) hs.length) : HeapOn (stampAt (removeF hs i)) (removeF hs i).length := by
  obtain ⟨m, hm⟩ : ∃ m, hs.length = m + 1 := ⟨hs.length - 1, by omega⟩
  rw [hm] at h
  have hlen : (removeF hs i).length = m := by
    rw [(removeF_perm hs i hi).length_eq, List.length_eraseIdx, if_pos hi, hm]
    omega
  rw [hlen]
  unfold removeF
  rw [hm]
  simp only [Nat.add_sub_cancel]
  split
  · exact heap_take (fun k h0 hk => h k h0 (by omega))
  · rename_i hne
    have S := stampAt_swp (hs := hs) (i := i) (j := m) hi (by omega) (by omega)
    have hl : (swp hs i m).length = m + 1 := by rw [swp_length, hm]
    have D1 : ∀ k, 0 < k → k < m → k ≠ i → (k - 1) / 2 ≠ i → stampAt (swp hs i m) ((k - 1) / 2) ≤ stampAt (swp hs i m) k := by
      intro k h0 hk hki hq
      rw [S, S, if_neg hq, if_neg (by omega), if_neg hki, if_neg (by omega)]
      exact h k h0 (by omega)
    have D2 : 0 < i → ∀ c, 0 < c → c < m → (c - 1) / 2 = i → stampAt (swp hs i m) ((i - 1) / 2) ≤ stampAt (swp hs i m) c := by
      intro h0 c hc0 hc hcp
      rw [S, S, if_neg (by omega), if_neg (by omega), if_neg (by omega), if_neg (by omega)]
      have h1 := h i h0 (by omega)
      have h2 := h c hc0 (by omega)
      rw [hcp] at h2
      omega
    obtain ⟨A, B⟩ := downF_first m m (swp hs i m) i (by omega) (by omega) D1 D2
    split
    · rename_i hmv
      exact heap_take (A hmv)
    · rename_i hmv
      obtain ⟨B1, B2⟩ := B hmv
      rw [B1]
      exact heap_take (upF_heap m (m + 1) (swp hs i m) i (by omega) (by omega) (by omega) B2 D2)

theorem pushF_heap (hs : List Dbt) (d : Dbt) (h : HeapOn (stampAt hs) hs.length) : HeapOn (stampAt (pushF hs d)) (pushF hs d).length := by
  have hlen : (pushF hs d).length = hs.length + 1 := by rw [(pushF_perm hs d).length_eq]; simp
  rw [hlen]
  have e : ∀ q, q < hs.length → stampAt (hs ++ [d]) q = stampAt hs q := by
    intro q hq
    unfold stampAt
    rw [List.getElem?_append_left hq]
  refine upF_heap (hs.length + 1) (hs.length + 1) (hs ++ [d]) hs.length (by simp) (by omega) (by omega) ?_ ?_
  · intro k h0 hk hkn
    rw [e _ (by omega), e _ (by omega)]
    exact h k h0 (by omega)
  · intro _ c _ hc hcp
    omega

/-! ### drop and hold -/
def dropF (hs : List Dbt) (t : ByteArray) : List Dbt :=
  match hs.findIdx? (fun d => decide (d.1 = t)) with
  | some i => removeF hs i
  | none => hs
def holdF (hs : List Dbt) (t : ByteArray) (s : Int) : List Dbt := pushF (dropF hs t) (t, s)

theorem good_findIdx {hs : List Dbt} {pl : ByteArray → Option Nat} (h : Good hs pl) (t : ByteArray) : hs.findIdx? (fun d => decide (d.1 = t)) = pl t := by
  cases hp : pl t with
  | none =>
    rw [List.findIdx?_eq_none_iff]
    intro x hx
    obtain ⟨i, hi⟩ := List.mem_iff_getElem?.1 hx
    have : x.1 ≠ t := by
      intro e
      rw [(h t i).2 ⟨x, hi, e⟩] at hp
      cases hp
    simpa using this
  | some i =>
    obtain ⟨x, hx, hx1⟩ := (h t i).1 hp
    have hil : i < hs.length := (List.getElem?_eq_some_iff.1 hx).1
    have hxe : hs[i] = x := (List.getElem?_eq_some_iff.1 hx).2
    rw [List.findIdx?_eq_some_iff_getElem]
    refine ⟨hil, by simp [hxe, hx1], ?_⟩
    intro j hj hcon
    have hjl : j < hs.length := by omega
    have e : (hs[j]).1 = t := by simpa using hcon
    have := h.inj (List.getElem?_eq_getElem hjl) hx (e.trans hx1.symm)
    omega

theorem dropF_heap {hs : List Dbt} (t : ByteArray) (h : HeapOn (stampAt hs) hs.length) : HeapOn (stampAt (dropF hs t)) (dropF hs t).length := by
  unfold dropF
  split
  · rename_i i hi
    exact removeF_heap hs i (List.findIdx?_eq_some_iff_getElem.1 hi).1 h
  · exact h
theorem holdF_heap {hs : List Dbt} (t : ByteArray) (s : Int) (h : HeapOn (stampAt hs) hs.length) : HeapOn (stampAt (holdF hs t s)) (holdF hs t s).length := pushF_heap _ _ (dropF_heap t h)

def KeysND (hs : List Dbt) : Prop := (hs.map (·.1)).Nodup

theorem mem_dropF {hs : List Dbt} (h : KeysND hs) (t : ByteArray) (x : Dbt) : x ∈ dropF hs t ↔ x ∈ hs ∧ x.1 ≠ t := by
  unfold dropF
  split
  · rename_i i hi
    obtain ⟨hil, hit, _⟩ := List.findIdx?_eq_some_iff_getElem.1 hi
    have hit' : hs[i].1 = t := by simpa using hit
    rw [(removeF_perm hs i hil).mem_iff, List.mem_eraseIdx_iff_getElem?]
    constructor
    · rintro ⟨j, hji, hj⟩
      refine ⟨List.mem_of_getElem? hj, fun e => hji ?_⟩
      have e1 : (hs.map (·.1))[j]? = some t := by simp [hj, e]
      have e2 : (hs.map (·.1))[i]? = some t := by simp [List.getElem?_eq_getElem hil, hit']
      have hjl : j < (hs.map (·.1)).length := (List.getElem?_eq_some_iff.1 e1).1
      exact (List.getElem?_inj hjl h).1 (e1.trans e2.symm)
    · rintro ⟨hx, hne⟩
      obtain ⟨j, hj⟩ := List.mem_iff_getElem?.1 hx
      refine ⟨j, fun e => hne ?_, hj⟩
      subst e
      rw [List.getElem?_eq_getElem hil] at hj
      cases hj
      exact hit'
  · rename_i hi
    rw [List.findIdx?_eq_none_iff] at hi
    constructor
    · intro hx
      exact ⟨hx, by simpa using hi x hx⟩
    · exact fun hx => hx.1
theorem mem_holdF {hs : List Dbt} (h : KeysND hs) (t : ByteArray) (s : Int) (x : Dbt) : x ∈ holdF hs t s ↔ x = (t, s) ∨ (x ∈ hs ∧ x.1 ≠ t) := by
  unfold holdF
  rw [(pushF_perm _ _).mem_iff, List.mem_cons, mem_dropF h]
theorem dropF_nd {hs : List Dbt} (h : KeysND hs) (t : ByteArray) : KeysND (dropF hs t) := by
  unfold dropF
  split
  · rename_i i hi
    obtain ⟨hil, _, _⟩ := List.findIdx?_eq_some_iff_getElem.1 hi
    have hp := (removeF_perm hs i hil).map (·.1)
    exact hp.nodup_iff.2 (((List.eraseIdx_sublist hs i).map (fun d : Dbt => d.1)).nodup h)
  · exact h
theorem holdF_nd {hs : List Dbt} (h : KeysND hs) (t : ByteArray) (s : Int) : KeysND (holdF hs t s) := by
  have hp := (pushF_perm (dropF hs t) (t, s)).map (·.1)
  refine hp.nodup_iff.2 ?_
  rw [List.map_cons, List.nodup_cons]
  refine ⟨?_, dropF_nd h t⟩
  intro hm
  obtain ⟨x, hx, hx1⟩ := List.mem_map.1 hm
  exact ((mem_dropF h t x).1 hx).2 hx1
theorem dropF_length {hs : List Dbt} (t : ByteArray) : (dropF hs t).length = if (hs.findIdx? (fun d => decide (d.1 = t))).isSome then hs.length - 1 else hs.length := by
  unfold dropF
  split
  · rename_i i hi
    obtain ⟨hil, _, _⟩ := List.findIdx?_eq_some_iff_getElem.1 hi
    rw [(removeF_perm hs i hil).length_eq, List.length_eraseIdx, if_pos hil, hi]
    rfl
  · rename_i hi
    rw [hi]
    rfl
theorem holdF_length {hs : List Dbt} (t : ByteArray) (s : Int) : (holdF hs t s).length = (dropF hs t).length + 1 := by
  unfold holdF
  rw [(pushF_perm _ _).length_eq]
  simp
end Go.Proofs.Qxb6616074a
