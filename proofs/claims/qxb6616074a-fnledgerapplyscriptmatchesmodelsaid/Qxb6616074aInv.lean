/-
  OWN TEXT. THE PLAIN LAW of the doubts over a script: the heap against the map of last prepares.
-/
import Derived.Test.Qxb6616074aAcc
namespace Go.Proofs.Qxb6616074a

theorem applyF_hs (L : Led) (kd : Int) (t : ByteArray) (s : Int) : (applyF L kd t s).hs = if kd = 1 then holdF L.hs t s else dropF L.hs t := by
  unfold applyF
  by_cases h1 : kd = 1
  · rw [if_pos h1, if_pos h1]
  · rw [if_neg h1, if_neg h1]
    by_cases h2 : kd = 2
    · rw [if_pos h2]
    · rw [if_neg h2]
      by_cases h5 : kd = 5
      · rw [if_pos h5]
      · rw [if_neg h5]
        by_cases h34 : kd = 3 ∨ kd = 4
        · rw [if_pos h34]
        · rw [if_neg h34]

theorem trimF_length : ∀ (ord : List Dbt) (f : Latest) (g : Int), (trimF ord f g).1.length ≤ ord.length
  | [], _, _ => Nat.le_refl _
  | old :: r, f, g => by
    unfold trimF
    split
    · exact Nat.le_refl _
    · split
      · exact Nat.le_trans (trimF_length r _ _) (by simp)
      · exact Nat.le_trans (trimF_length r _ _) (by simp)
theorem addS_order (S : LogS) (kd : Int) (t : ByteArray) (s : Int) : (addS S kd t s).order.length ≤ S.order.length + 1 := by
  have := trimF_length (S.order ++ [(t, (S.count : Int) + 1)]) (upd S.latest t (some ((S.count : Int) + 1, kd, s))) 0
  simpa [addS, addT] using this

theorem dropF_le (hs : List Dbt) (t : ByteArray) : (dropF hs t).length ≤ hs.length := by
  rw [dropF_length]; split <;> omega

theorem small_apply {L : Led} {n : Nat} (h : Small L n) (kd : Int) (t : ByteArray) (s : Int) : Small (applyF L kd t s) (n + 1) := by
  have hd := dropF_le L.hs t
  have hh := holdF_length (hs := L.hs) t s
  have h1 := h.h
  have h2 := h.ac
  have h3 := h.ao
  have h4 := h.cc
  have h5 := h.co
  have ha := addS_order L.ab kd t s
  have hc := addS_order L.cm 5 t s
  unfold applyF
  split
  · exact ⟨by simp only; omega, by simp only; omega, by simp only; omega, by simp only; omega, by simp only; omega⟩
  · split
    · exact ⟨by simp only; omega, by simp only; omega, by simp only; omega, by simp only; omega, by simp only; omega⟩
    · split
      · exact ⟨by simp only; omega, by simp only; omega, by simp only; omega, by simp only [addS]; omega, by simp only; omega⟩
      · split
        · exact ⟨by simp only; omega, by simp only [addS]; omega, by simp only; omega, by simp only; omega, by simp only; omega⟩
        · exact ⟨by simp only; omega, by simp only; omega, by simp only; omega, by simp only; omega, by simp only; omega⟩
theorem small_led0 : Small led0 0 := ⟨Nat.le_refl _, Nat.le_refl _, Nat.le_refl _, Nat.le_refl _, Nat.le_refl _⟩

structure DInv (hs : List Dbt) (f : ByteArray → Option Int) (n : Nat) (src : ByteArray → Prop) (top : Int) : Prop where
  heap : HeapOn (stampAt hs) hs.length
  nd : KeysND hs
  mem : ∀ t s, f t = some s ↔ (t, s) ∈ hs
  cnt : n = hs.length
  from_ : ∀ x ∈ hs, src x.1
  bnd : ∀ x ∈ hs, x.2 ≤ top

theorem find_isSome (hs : List Dbt) (t : ByteArray) : (hs.findIdx? (fun d => decide (d.1 = t))).isSome = true ↔ ∃ x ∈ hs, x.1 = t := by
  rw [List.findIdx?_isSome]
  simp

theorem DInv.some_iff {hs : List Dbt} {f : ByteArray → Option Int} {n : Nat} {src : ByteArray → Prop} {top : Int} (h : DInv hs f n src top) (t : ByteArray) : (f t).isSome = (hs.findIdx? (fun d => decide (d.1 = t))).isSome := by
  rw [Bool.eq_iff_iff, find_isSome]
  constructor
  · intro hf
    obtain ⟨s, hs'⟩ := Option.isSome_iff_exists.1 hf
    exact ⟨(t, s), (h.mem t s).1 hs', rfl⟩
  · rintro ⟨⟨t', s⟩, hx, rfl⟩
    rw [(h.mem t' s).2 hx]; rfl

theorem DInv.drop {hs : List Dbt} {f : ByteArray → Option Int} {n : Nat} {src src' : ByteArray → Prop} {top : Int} (h : DInv hs f n src top) (t : ByteArray) (hsrc : ∀ x, src x → src' x) :
    DInv (dropF hs t) (upd f t none) (if (f t).isSome then n - 1 else n) src' top := by
  refine ⟨dropF_heap t h.heap, dropF_nd h.nd t, ?_, ?_, ?_, ?_⟩
  · intro x s
    rw [mem_dropF h.nd]
    by_cases hx : x = t
    · subst hx
      rw [upd_same]
      simp
    · rw [upd_other _ _ hx, h.mem]
      simp [hx]
  · rw [dropF_length, ← h.some_iff t, h.cnt]
  · intro x hx
    exact hsrc _ (h.from_ x ((mem_dropF h.nd t x).1 hx).1)
  · intro x hx
    exact h.bnd x ((mem_dropF h.nd t x).1 hx).1

theorem DInv.hold {hs : List Dbt} {f : ByteArray → Option Int} {n : Nat} {src src' : ByteArray → Prop} {top : Int} (h : DInv hs f n src top) (t : ByteArray) (s : Int) (hsrc : ∀ x, src x → src' x) (ht : src' t) (hs' : s ≤ top) :
    DInv (holdF hs t s) (upd f t (some s)) (if (f t).isSome then n else n + 1) src' top := by
  refine ⟨holdF_heap t s h.heap, holdF_nd h.nd t s, ?_, ?_, ?_, ?_⟩
  · intro x v
    rw [mem_holdF h.nd]
    by_cases hx : x = t
    · subst hx
      rw [upd_same]
      simp
      exact eq_comm
    · rw [upd_other _ _ hx, h.mem]
      simp [hx]
  · rw [holdF_length, dropF_length, ← h.some_iff t, h.cnt]
    split
    · rename_i hf
      rw [h.some_iff t, find_isSome] at hf
      obtain ⟨x, hx, _⟩ := hf
      have := List.length_pos_of_mem hx
      omega
    · rfl
  · intro x hx
    rcases (mem_holdF h.nd t s x).1 hx with rfl | ⟨hx, _⟩
    · exact ht
    · exact hsrc _ (h.from_ x hx)
  · intro x hx
    rcases (mem_holdF h.nd t s x).1 hx with rfl | ⟨hx, _⟩
    · exact hs'
    · exact h.bnd x hx

theorem dinv_nil (src : ByteArray → Prop) (top : Int) : DInv [] (fun _ => none) 0 src top := ⟨fun k _ hk => by simp at hk, by simp [KeysND], by simp, rfl, by simp, by simp⟩

/-- the least stamp stands on top -/
theorem heap_top {hs : List Dbt} (h : HeapOn (stampAt hs) hs.length) : ∀ k, k < hs.length → stampAt hs 0 ≤ stampAt hs k := by
  intro k
  induction k using Nat.strongRecOn with
  | _ k ih =>
    intro hk
    by_cases h0 : k = 0
    · subst h0; exact Int.le_refl _
    · have h1 := h k (by omega) hk
      have h2 := ih ((k - 1) / 2) (by omega) (by omega)
      omega

/-- the least over the script's first k entries, 'top' where none is in doubt -/
def leastTo (f : ByteArray → Option Int) (es : Nat → EntD) (top : Int) : Nat → Int
  | 0 => top
  | k + 1 => match f (es k).2.1 with
    | some s => if s < leastTo f es top k then s else leastTo f es top k
    | none => leastTo f es top k

theorem leastTo_le (f : ByteArray → Option Int) (es : Nat → EntD) (top : Int) : ∀ (k j : Nat) (s : Int), j < k → f (es j).2.1 = some s → leastTo f es top k ≤ s
  | 0, _, _, h, _ => by omega
  | k + 1, j, s, h, hs => by
    unfold leastTo
    rcases Nat.lt_or_eq_of_le (Nat.lt_succ_iff.1 h) with h' | h'
    · have := leastTo_le f es top k j s h' hs
      split
      · split <;> omega
      · exact this
    · subst h'
      rw [hs]
      simp only
      split <;> omega
theorem leastTo_ge (f : ByteArray → Option Int) (es : Nat → EntD) (top m : Int) (hm : m ≤ top) (hall : ∀ t s, f t = some s → m ≤ s) : ∀ k, m ≤ leastTo f es top k
  | 0 => hm
  | k + 1 => by
    have := leastTo_ge f es top m hm hall k
    unfold leastTo
    split
    · rename_i s hs
      have := hall _ _ hs
      split <;> omega
    · exact this

theorem DInv.least {hs : List Dbt} {f : ByteArray → Option Int} {n m : Nat} {top : Int} {es : Nat → EntD} (h : DInv hs f n (fun t => ∃ j, j < m ∧ (es j).2.1 = t) top) (hn : 0 < hs.length) : leastTo f es top m = stampAt hs 0 := by
  have e0 : hs[0]? = some hs[0] := List.getElem?_eq_getElem hn
  have hmem : hs[0] ∈ hs := List.getElem_mem hn
  have hle : stampAt hs 0 ≤ leastTo f es top m := by
    refine leastTo_ge f es top _ ?_ ?_ m
    · rw [stampAt_eq e0]; exact h.bnd _ hmem
    · intro t s hf
      have hx := (h.mem t s).1 hf
      obtain ⟨k, hk⟩ := List.mem_iff_getElem?.1 hx
      have := heap_top h.heap k (List.getElem?_eq_some_iff.1 hk).1
      rw [stampAt_eq hk] at this
      exact this
  obtain ⟨j, hj, hjt⟩ := h.from_ _ hmem
  have hge := leastTo_le f es top m j hs[0].2 hj (by rw [hjt]; exact (h.mem _ _).2 hmem)
  rw [stampAt_eq e0] at hle ⊢
  omega
end Go.Proofs.Qxb6616074a
