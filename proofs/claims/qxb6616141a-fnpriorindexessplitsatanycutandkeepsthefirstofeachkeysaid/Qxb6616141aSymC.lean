/-
  OWN TEXT. symMergeCmpFunc, the general case: THE PLAIN LAW of its cut.
-/
import Derived.Test.Qxb6616141aSymB
namespace Go.Proofs.Qxb6616141a

/-- the cut s that the search finds: 'mid' the middle, e + s = mid + m -/
structure CutAt (xs : Nat → E) (a m b mid s e : Nat) : Prop where
  srt1 : SrtOn xs a m
  srt2 : SrtOn xs m b
  es : e + s = mid + m
  asx : a ≤ s
  sm : s ≤ m
  me : m ≤ e
  eb : e ≤ b
  smid : s ≤ mid
  mide : mid ≤ e
  /-- where something stands on both sides of the rotation -/
  hi : s < m → m < e → (xs (e - 1)).1 < (xs s).1
  /-- where something stands before and behind it -/
  lo : a < s → e < b → (xs (s - 1)).1 ≤ (xs e).1

theorem CutAt.sep {xs : Nat → E} {a m b mid s e : Nat} (h : CutAt xs a m b mid s e) : ∀ i j, s ≤ i → i < m → m ≤ j → j < e → (xs j).1 < (xs i).1 := by
  intro i j h1 h2 h3 h4
  have e1 := h.hi (by omega) (by omega)
  have heb := h.eb
  have has := h.asx
  have e2 : (xs s).1 ≤ (xs i).1 := by
    by_cases hsi : s = i
    · subst hsi; exact Int.le_refl _
    · exact h.srt1 s i has (by omega) h2
  have e3 : (xs j).1 ≤ (xs (e - 1)).1 := by
    by_cases hje : j = e - 1
    · subst hje; exact Int.le_refl _
    · exact h.srt2 j (e - 1) h3 (by omega) (by omega)
  omega

theorem rot_val (xs : Nat → E) {m s e mid : Nat} (hes : e + s = mid + m) (hme : m ≤ e) (t : Nat) : Rot xs s m e t = if t < s ∨ e ≤ t then xs t else if t < mid then xs (t - s + m) else xs (t - (e - m)) := by
  unfold Rot
  by_cases h1 : t < s ∨ e ≤ t
  · rw [if_pos h1, if_pos h1]
  · rw [if_neg h1, if_neg h1]
    by_cases h2 : t < mid
    · rw [if_pos h2, if_pos (by omega)]
    · rw [if_neg h2, if_neg (by omega)]

structure Halves (xs zs : Nat → E) (a b mid s e : Nat) : Prop where
  ins : InsI xs zs a b
  s1 : SrtOn zs a s
  s2 : SrtOn zs s mid
  s3 : SrtOn zs mid e
  s4 : SrtOn zs e b
  cross : ∀ i j, a ≤ i → i < mid → mid ≤ j → j < b → (zs i).1 ≤ (zs j).1

theorem CutAt.halves {xs : Nat → E} {a m b mid s e : Nat} (h : CutAt xs a m b mid s e) : Halves xs (Rot xs s m e) a b mid s e := by
  have hes := h.es
  have has := h.asx
  have hsm := h.sm
  have hme := h.me
  have heb := h.eb
  have h1 := h.smid
  have h2 := h.mide
  have v := rot_val xs hes hme
  obtain ⟨o, st⟩ := stb_rot (xs := xs) (a := s) (m := m) (b := e) hsm hme h.sep
  refine ⟨⟨o.mono has heb, stb_part o st (by omega) has heb⟩, ?_, ?_, ?_, ?_, ?_⟩
  · intro i j hi hij hj
    rw [v, v, if_pos (by omega), if_pos (by omega)]
    exact h.srt1 i j hi hij (by omega)
  · intro i j hi hij hj
    rw [v, v, if_neg (by omega), if_pos (by omega), if_neg (by omega), if_pos (by omega)]
    exact h.srt2 _ _ (by omega) (by omega) (by omega)
  · intro i j hi hij hj
    rw [v, v, if_neg (by omega), if_neg (by omega), if_neg (by omega), if_neg (by omega)]
    exact h.srt1 _ _ (by omega) (by omega) (by omega)
  · intro i j hi hij hj
    rw [v, v, if_pos (by omega), if_pos (by omega)]
    exact h.srt2 i j (by omega) hij hj
  · intro i j hi him hmj hjb
    rw [v, v]
    by_cases c1 : i < s
    · rw [if_pos (show i < s ∨ e ≤ i by omega)]
      by_cases c2 : e ≤ j
      · rw [if_pos (show j < s ∨ e ≤ j by omega)]
        have l := h.lo (by omega) (by omega)
        have l1 : (xs i).1 ≤ (xs (s - 1)).1 := by
          by_cases q : i = s - 1
          · subst q; exact Int.le_refl _
          · exact h.srt1 i (s - 1) hi (by omega) (by omega)
        have l2 : (xs e).1 ≤ (xs j).1 := by
          by_cases q : e = j
          · subst q; exact Int.le_refl _
          · exact h.srt2 e j hme (by omega) hjb
        omega
      · rw [if_neg (show ¬ (j < s ∨ e ≤ j) by omega), if_neg (show ¬ j < mid by omega)]
        exact h.srt1 i _ hi (by omega) (by omega)
    · rw [if_neg (show ¬ (i < s ∨ e ≤ i) by omega), if_pos him]
      by_cases c2 : e ≤ j
      · rw [if_pos (show j < s ∨ e ≤ j by omega)]
        exact h.srt2 _ j (by omega) (by omega) hjb
      · rw [if_neg (show ¬ (j < s ∨ e ≤ j) by omega), if_neg (show ¬ j < mid by omega)]
        have := h.sep (j - (e - m)) (i - s + m) (by omega) (by omega) (by omega) (by omega)
        omega

/-- stability keeps what is there -/
theorem Stb.mem {l l' : List E} (h : Stb l l') (x : E) : x ∈ l' ↔ x ∈ l := by
  have := h x.1
  constructor
  · intro hx
    have : x ∈ l.filter (fun e => e.1 == x.1) := by rw [← this]; simp [hx]
    exact (List.mem_filter.1 this).1
  · intro hx
    have : x ∈ l'.filter (fun e => e.1 == x.1) := by rw [this]; simp [hx]
    exact (List.mem_filter.1 this).1
theorem mem_seg {xs : Nat → E} {a b : Nat} {x : E} : x ∈ seg xs a b ↔ ∃ t, a ≤ t ∧ t < b ∧ xs t = x := by
  unfold seg
  rw [mem_segL]
  constructor
  · rintro ⟨t, ht, e⟩; exact ⟨a + t, by omega, by omega, e⟩
  · rintro ⟨t, h1, h2, e⟩; exact ⟨t - a, by omega, by rw [show a + (t - a) = t by omega]; exact e⟩

/-- both halves sorted stably: the whole is -/
theorem Halves.fin {xs zs ys us : Nat → E} {a b mid s e : Nat} (h : Halves xs zs a b mid s e) (ham : a ≤ mid) (hmb : mid ≤ b) (h1 : InsI zs ys a mid) (s1 : SrtOn ys a mid) (h2 : InsI ys us mid b) (s2 : SrtOn us mid b) : InsI xs us a b ∧ SrtOn us a b := by
  have hin1 := stb_part h1.out h1.st ham (Nat.le_refl a) hmb
  have hin2 := stb_part h2.out h2.st hmb ham (Nat.le_refl b)
  refine ⟨⟨h.ins.out.trans ((h1.out.mono (Nat.le_refl a) hmb).trans (h2.out.mono ham (Nat.le_refl b))), h.ins.st.trans (hin1.trans hin2)⟩, ?_⟩
  intro i j hi hij hj
  have left : ∀ t, t < mid → us t = ys t := fun t ht => h2.out t (.inl ht)
  by_cases c1 : j < mid
  · rw [left i (by omega), left j c1]
    exact s1 i j hi hij c1
  · by_cases c2 : mid ≤ i
    · exact s2 i j c2 hij hj
    · rw [left i (by omega)]
      have m1 : ys i ∈ seg ys a mid := mem_seg.2 ⟨i, hi, by omega, rfl⟩
      rw [h1.st.mem] at m1
      obtain ⟨p, p1, p2, p3⟩ := mem_seg.1 m1
      have m2 : us j ∈ seg us mid b := mem_seg.2 ⟨j, by omega, hj, rfl⟩
      rw [h2.st.mem] at m2
      obtain ⟨q, q1, q2, q3⟩ := mem_seg.1 m2
      have e1 : ys q = zs q := h1.out q (.inr q1)
      rw [← p3, ← q3, e1]
      exact h.cross p q p1 p2 q1 q2
end Go.Proofs.Qxb6616141a
