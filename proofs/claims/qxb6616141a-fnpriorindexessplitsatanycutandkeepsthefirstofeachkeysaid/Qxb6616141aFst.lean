/-
  OWN TEXT. THE PLAIN SIDE: the first record of each key, in ascending order of the keys.
-/
import Derived.Test.Qxb6616141aSrt
namespace Go.Proofs.Qxb6616141a

/-- e is the first of its key in l -/
def IsFst (l : List E) (e : E) : Prop := (l.filter (fun x => x.1 == e.1)).head? = some e
structure Fst (l d : List E) : Prop where
  asc : d.Pairwise (fun a b => a.1 < b.1)
  mem : ∀ e, e ∈ d ↔ IsFst l e

theorem asc_ext : ∀ {d d' : List E}, d.Pairwise (fun a b => a.1 < b.1) → d'.Pairwise (fun a b => a.1 < b.1) → (∀ e, e ∈ d ↔ e ∈ d') → d = d'
  | [], [], _, _, _ => rfl
  | [], b :: t, _, _, h => by have := (h b).2 (by simp); simp at this
  | a :: s, [], _, _, h => by have := (h a).1 (by simp); simp at this
  | a :: s, b :: t, hs, ht, h => by
    rw [List.pairwise_cons] at hs ht
    have hab : a = b := by
      have h1 := (h a).1 (by simp)
      have h2 := (h b).2 (by simp)
      rw [List.mem_cons] at h1 h2
      rcases h1 with h1 | h1
      · exact h1
      · rcases h2 with h2 | h2
        · exact h2.symm
        · have e1 := ht.1 a h1
          have e2 := hs.1 b h2
          omega
    subst hab
    congr 1
    refine asc_ext hs.2 ht.2 fun e => ?_
    constructor
    · intro he
      have := (h e).1 (by simp [he])
      rw [List.mem_cons] at this
      rcases this with h1 | h1
      · subst h1
        have := hs.1 e he
        omega
      · exact h1
    · intro he
      have := (h e).2 (by simp [he])
      rw [List.mem_cons] at this
      rcases this with h1 | h1
      · subst h1
        have := ht.1 e he
        omega
      · exact h1
theorem Fst.uniq {l d d' : List E} (h : Fst l d) (h' : Fst l d') : d = d' := asc_ext h.asc h'.asc fun e => (h.mem e).trans (h'.mem e).symm

def insK (e : E) : List E → List E
  | [] => [e]
  | h :: t => if e.1 < h.1 then e :: h :: t else if e.1 = h.1 then e :: t else h :: insK e t
def fstK : List E → List E
  | [] => []
  | e :: l => insK e (fstK l)

theorem mem_insK {e x : E} : ∀ {d : List E}, d.Pairwise (fun a b => a.1 < b.1) → (x ∈ insK e d ↔ x = e ∨ (x ∈ d ∧ x.1 ≠ e.1))
  | [], _ => by simp [insK]
  | h :: t, hd => by
    rw [List.pairwise_cons] at hd
    unfold insK
    split
    · rename_i h1
      rw [List.mem_cons]
      constructor
      · rintro (h2 | h2)
        · exact .inl h2
        · refine .inr ⟨h2, ?_⟩
          rw [List.mem_cons] at h2
          rcases h2 with h2 | h2
          · subst h2; omega
          · have := hd.1 x h2; omega
      · rintro (h2 | h2)
        · exact .inl h2
        · exact .inr h2.1
    · split
      · rename_i h1 h2
        rw [List.mem_cons]
        constructor
        · rintro (h3 | h3)
          · exact .inl h3
          · exact .inr ⟨by simp [h3], by have := hd.1 x h3; omega⟩
        · rintro (h3 | ⟨h3, h4⟩)
          · exact .inl h3
          · rw [List.mem_cons] at h3
            rcases h3 with h3 | h3
            · subst h3; exact absurd h2.symm h4
            · exact .inr h3
      · rename_i h1 h2
        rw [List.mem_cons, mem_insK hd.2, List.mem_cons]
        constructor
        · rintro (h3 | h3 | h3)
          · subst h3; exact .inr ⟨.inl rfl, fun h => h2 h.symm⟩
          · exact .inl h3
          · exact .inr ⟨.inr h3.1, h3.2⟩
        · rintro (h3 | ⟨h3 | h3, h4⟩)
          · exact .inr (.inl h3)
          · exact .inl h3
          · exact .inr (.inr ⟨h3, h4⟩)
theorem asc_insK {e : E} : ∀ {d : List E}, d.Pairwise (fun a b => a.1 < b.1) → (insK e d).Pairwise (fun a b => a.1 < b.1)
  | [], _ => by simp [insK]
  | h :: t, hd => by
    have hd0 := hd
    rw [List.pairwise_cons] at hd
    unfold insK
    split
    · rename_i h1
      rw [List.pairwise_cons]
      refine ⟨fun x hx => ?_, hd0⟩
      rw [List.mem_cons] at hx
      rcases hx with hx | hx
      · subst hx; exact h1
      · have := hd.1 x hx; omega
    · split
      · rename_i h1 h2
        rw [List.pairwise_cons]
        exact ⟨fun x hx => by have := hd.1 x hx; omega, hd.2⟩
      · rename_i h1 h2
        rw [List.pairwise_cons]
        refine ⟨fun x hx => ?_, asc_insK hd.2⟩
        rw [mem_insK hd.2] at hx
        rcases hx with hx | hx
        · subst hx; omega
        · exact hd.1 x hx.1

theorem isFst_cons {e x : E} {l : List E} : IsFst (e :: l) x ↔ x = e ∨ (IsFst l x ∧ x.1 ≠ e.1) := by
  unfold IsFst
  rw [List.filter_cons]
  by_cases h : e.1 = x.1
  · rw [if_pos (by simpa using h)]
    simp only [List.head?_cons, Option.some.injEq]
    constructor
    · intro q; exact .inl q.symm
    · rintro (q | ⟨_, q⟩)
      · exact q.symm
      · exact absurd h.symm q
  · rw [if_neg (by simpa using h)]
    constructor
    · intro q; exact .inr ⟨q, fun r => h r.symm⟩
    · rintro (q | ⟨q, _⟩)
      · subst q; exact absurd rfl h
      · exact q
theorem fst_fstK : ∀ (l : List E), Fst l (fstK l)
  | [] => ⟨by simp [fstK], fun e => by simp [fstK, IsFst]⟩
  | e :: l => by
    have h := fst_fstK l
    refine ⟨asc_insK h.asc, fun x => ?_⟩
    show x ∈ insK e (fstK l) ↔ _
    rw [mem_insK h.asc, isFst_cons, h.mem]
theorem Fst.eq {l d : List E} (h : Fst l d) : d = fstK l := h.uniq (fst_fstK l)
theorem Stb.fst {l l' d : List E} (h : Stb l l') (k : Fst l' d) : Fst l d := ⟨k.asc, fun e => by rw [k.mem]; unfold IsFst; rw [h e.1]⟩

theorem isFst_snoc {y x : E} {l : List E} : IsFst (l ++ [y]) x ↔ IsFst l x ∨ (x = y ∧ ∀ z ∈ l, z.1 ≠ y.1) := by
  unfold IsFst
  rw [List.filter_append, List.head?_append]
  by_cases hl : l.filter (fun z => z.1 == x.1) = []
  · rw [hl]
    simp only [List.head?_nil, Option.none_or]
    have hno : ∀ z ∈ l, z.1 ≠ x.1 := fun z hz he => by
      have : z ∈ l.filter (fun z => z.1 == x.1) := by simp [hz, he]
      rw [hl] at this; simp at this
    constructor
    · intro h
      right
      by_cases he : y.1 = x.1
      · rw [List.filter_cons, if_pos (by simpa using he)] at h
        simp at h
        subst h
        exact ⟨rfl, hno⟩
      · rw [List.filter_cons, if_neg (by simpa using he)] at h
        simp at h
    · rintro (h | ⟨rfl, _⟩)
      · simp at h
      · simp
  · obtain ⟨q, r, hq⟩ : ∃ q r, l.filter (fun z => z.1 == x.1) = q :: r := by
      cases hh : l.filter (fun z => z.1 == x.1) with
      | nil => exact absurd hh hl
      | cons q r => exact ⟨q, r, rfl⟩
    have hqm : q ∈ l.filter (fun z => z.1 == x.1) := by rw [hq]; simp
    rw [hq]
    simp only [List.head?_cons, Option.some_or]
    constructor
    · intro h; exact .inl h
    · rintro (h | ⟨rfl, h⟩)
      · exact h
      · simp only [List.mem_filter, beq_iff_eq] at hqm
        exact absurd hqm.2 (h q hqm.1)

/-- of neighbours of one key the first -/
def ddF (ys : Nat → E) : Nat → List E
  | 0 => []
  | p + 1 => if p = 0 ∨ (ys p).1 ≠ (ys (p - 1)).1 then ddF ys p ++ [ys p] else ddF ys p
theorem seg_snoc (ys : Nat → E) (p : Nat) : seg ys 0 (p + 1) = seg ys 0 p ++ [ys p] := by
  rw [seg_split ys (Nat.zero_le p) (by omega : p ≤ p + 1)]
  congr 1
  unfold seg
  rw [show p + 1 - p = 1 by omega]
  rfl
theorem mem_seg0 {xs : Nat → E} {b : Nat} {x : E} : x ∈ seg xs 0 b ↔ ∃ t, t < b ∧ xs t = x := by
  unfold seg
  rw [mem_segL]
  constructor
  · rintro ⟨t, ht, e⟩; exact ⟨t, by omega, by rw [← e]; congr 1; omega⟩
  · rintro ⟨t, h2, e⟩; exact ⟨t, by omega, by rw [Nat.zero_add]; exact e⟩
theorem seg_length (xs : Nat → E) : ∀ n, (seg xs 0 n).length = n
  | 0 => rfl
  | n + 1 => by rw [seg_snoc, List.length_append, seg_length xs n]; rfl
theorem fst_ddF {ys : Nat → E} : ∀ {p : Nat}, SrtOn ys 0 p → Fst (seg ys 0 p) (ddF ys p)
  | 0, _ => ⟨by simp [ddF], fun e => by simp [ddF, IsFst, seg, segL]⟩
  | p + 1, hs => by
    have ih := fst_ddF (p := p) (fun i j h1 h2 h3 => hs i j h1 h2 (by omega))
    rw [seg_snoc]
    unfold ddF
    split
    · rename_i hc
      have hgt : ∀ z ∈ seg ys 0 p, z.1 < (ys p).1 := fun z hz => by
        obtain ⟨t, ht, rfl⟩ := mem_seg0.1 hz
        have e1 := hs t p (by omega) ht (by omega)
        rcases hc with hc | hc
        · omega
        · by_cases q : t = p - 1
          · subst q; omega
          · have e2 := hs t (p - 1) (by omega) (by omega) (by omega)
            have e3 := hs (p - 1) p (by omega) (by omega) (by omega)
            omega
      have hsub : ∀ z ∈ ddF ys p, z ∈ seg ys 0 p := fun z hz => by
        have := (ih.mem z).1 hz
        unfold IsFst at this
        have h2 := List.mem_of_mem_head? this
        exact (List.mem_filter.1 h2).1
      refine ⟨List.pairwise_append.2 ⟨ih.asc, by simp, fun a ha b hb => ?_⟩, fun e => ?_⟩
      · simp at hb; subst hb; exact hgt a (hsub a ha)
      · rw [isFst_snoc, List.mem_append, ih.mem]
        simp only [List.mem_singleton]
        constructor
        · rintro (h | h)
          · exact .inl h
          · exact .inr ⟨h, fun z hz => by have := hgt z hz; omega⟩
        · rintro (h | h)
          · exact .inl h
          · exact .inr h.1
    · rename_i hc
      refine ⟨ih.asc, fun e => ?_⟩
      rw [isFst_snoc, ih.mem]
      constructor
      · intro h; exact .inl h
      · rintro (h | ⟨_, h⟩)
        · exact h
        · have h0 : ¬ p = 0 := fun q => hc (.inl q)
          have h1 : (ys p).1 = (ys (p - 1)).1 := by
            by_cases q : (ys p).1 = (ys (p - 1)).1
            · exact q
            · exact absurd (.inr q) hc
          exact absurd h1.symm (h (ys (p - 1)) (mem_seg0.2 ⟨p - 1, by omega, rfl⟩))

/-! by selection -/
structure FirstIds (xs : Nat → E) (n : Nat) (ids : List Nat) : Prop where
  asc : ids.Pairwise (fun i j => (xs i).1 < (xs j).1)
  fst : ∀ i ∈ ids, i < n ∧ ∀ j, j < i → (xs j).1 ≠ (xs i).1
  cov : ∀ j, j < n → ∃ i ∈ ids, (xs i).1 = (xs j).1
theorem isFst_at {xs : Nat → E} {n i : Nat} (hi : i < n) (h : ∀ j, j < i → (xs j).1 ≠ (xs i).1) : IsFst (seg xs 0 n) (xs i) := by
  unfold IsFst
  rw [seg_split xs (Nat.zero_le i) (Nat.le_of_lt hi), seg_split xs (by omega : i ≤ i + 1) (by omega : i + 1 ≤ n), List.filter_append]
  have e1 : (seg xs 0 i).filter (fun x => x.1 == (xs i).1) = [] := by
    rw [List.filter_eq_nil_iff]
    intro z hz
    obtain ⟨t, ht, rfl⟩ := mem_seg0.1 hz
    simpa using h t ht
  have e2 : seg xs i (i + 1) = [xs i] := by
    unfold seg
    rw [show i + 1 - i = 1 by omega]
    rfl
  rw [e1, e2]
  simp
theorem FirstIds.Fst {xs : Nat → E} {n : Nat} {ids : List Nat} (h : FirstIds xs n ids) : Fst (seg xs 0 n) (ids.map xs) := by
  refine ⟨?_, fun e => ?_⟩
  · rw [List.pairwise_map]; exact h.asc
  · rw [List.mem_map]
    constructor
    · rintro ⟨i, hi, rfl⟩
      exact isFst_at (h.fst i hi).1 (h.fst i hi).2
    · intro he
      have he' := he
      unfold IsFst at he'
      have h2 := (List.mem_filter.1 (List.mem_of_mem_head? he')).1
      obtain ⟨t, ht, rfl⟩ := mem_seg0.1 h2
      obtain ⟨i, hi, hk⟩ := h.cov t ht
      have q := isFst_at (h.fst i hi).1 (h.fst i hi).2
      unfold IsFst at he q
      rw [hk, he] at q
      exact ⟨i, hi, (Option.some.inj q).symm⟩
theorem FirstIds.eq {xs : Nat → E} {n : Nat} {ids : List Nat} (h : FirstIds xs n ids) : ids.map xs = fstK (seg xs 0 n) := h.Fst.eq

def sk (xs : Nat → E) (hv : Bool) (last : Int) (j : Nat) : Bool := hv && decide ((xs j).1 ≤ last)
/-- the least key not skipped, at its earliest place, among the first i -/
def Best (xs : Nat → E) (hv : Bool) (last : Int) (i : Nat) (b : Int) : Prop :=
  (b = -1 ∧ ∀ j, j < i → sk xs hv last j = true) ∨ ∃ p : Nat, b = p ∧ p < i ∧ sk xs hv last p = false ∧ (∀ j, j < i → sk xs hv last j = false → (xs p).1 ≤ (xs j).1) ∧ ∀ j, j < p → sk xs hv last j = false → (xs p).1 < (xs j).1
structure Sel (xs : Nat → E) (n : Nat) (hv : Bool) (last : Int) (ids : List Nat) : Prop where
  asc : ids.Pairwise (fun i j => (xs i).1 < (xs j).1)
  le : ∀ i ∈ ids, hv = true ∧ (xs i).1 ≤ last
  fst : ∀ i ∈ ids, i < n ∧ ∀ j, j < i → (xs j).1 ≠ (xs i).1
  cov : ∀ j, j < n → sk xs hv last j = true → ∃ i ∈ ids, (xs i).1 = (xs j).1
theorem Best.start (xs : Nat → E) (hv : Bool) (last : Int) : Best xs hv last 0 (-1) := .inl ⟨rfl, fun j hj => by omega⟩
theorem Best.skip {xs : Nat → E} {hv : Bool} {last : Int} {i : Nat} {b : Int} (h : Best xs hv last i b) (hs : sk xs hv last i = true) : Best xs hv last (i + 1) b := by
  rcases h with ⟨h1, h2⟩ | ⟨p, h1, h2, h3, h4, h5⟩
  · exact .inl ⟨h1, fun j hj => by
      by_cases q : j = i
      · subst q; exact hs
      · exact h2 j (by omega)⟩
  · exact .inr ⟨p, h1, by omega, h3, fun j hj hjs => by
      by_cases q : j = i
      · subst q; rw [hs] at hjs; cases hjs
      · exact h4 j (by omega) hjs, h5⟩
theorem Best.first {xs : Nat → E} {hv : Bool} {last : Int} {i : Nat} (h : Best xs hv last i (-1)) (hs : sk xs hv last i = false) : Best xs hv last (i + 1) i := by
  rcases h with ⟨h1, h2⟩ | ⟨p, h1, _⟩
  · refine .inr ⟨i, rfl, by omega, hs, fun j hj hjs => ?_, fun j hj hjs => ?_⟩
    · by_cases q : j = i
      · subst q; omega
      · rw [h2 j (by omega)] at hjs; cases hjs
    · rw [h2 j hj] at hjs; cases hjs
  · omega
theorem Best.less {xs : Nat → E} {hv : Bool} {last : Int} {i p : Nat} (h : Best xs hv last i p) (hs : sk xs hv last i = false) (hl : (xs i).1 < (xs p).1) : Best xs hv last (i + 1) i := by
  rcases h with ⟨h1, h2⟩ | ⟨p', h1, h2, h3, h4, h5⟩
  · omega
  · obtain rfl : p' = p := by omega
    refine .inr ⟨i, rfl, by omega, hs, fun j hj hjs => ?_, fun j hj hjs => ?_⟩
    · by_cases q : j = i
      · subst q; omega
      · have := h4 j (by omega) hjs; omega
    · have := h4 j hj hjs; omega
theorem Best.more {xs : Nat → E} {hv : Bool} {last : Int} {i p : Nat} (h : Best xs hv last i p) (hl : ¬ (xs i).1 < (xs p).1) : Best xs hv last (i + 1) p := by
  rcases h with ⟨h1, h2⟩ | ⟨p', h1, h2, h3, h4, h5⟩
  · omega
  · obtain rfl : p' = p := by omega
    refine .inr ⟨p', rfl, by omega, h3, fun j hj hjs => ?_, h5⟩
    by_cases q : j = i
    · subst q; omega
    · exact h4 j (by omega) hjs
theorem Best.cases {xs : Nat → E} {hv : Bool} {last : Int} {i : Nat} {b : Int} (h : Best xs hv last i b) : b = -1 ∨ ∃ p : Nat, b = p ∧ p < i := by
  rcases h with ⟨h1, h2⟩ | ⟨p', h1, h2, h3, h4, h5⟩
  · exact .inl h1
  · exact .inr ⟨p', h1, h2⟩
theorem Sel.start (xs : Nat → E) (n : Nat) (last : Int) : Sel xs n false last [] := ⟨by simp, by simp, by simp, fun j _ h => by simp [sk] at h⟩
theorem Sel.fin {xs : Nat → E} {n : Nat} {hv : Bool} {last : Int} {ids : List Nat} (h : Sel xs n hv last ids) (hb : Best xs hv last n (-1)) : FirstIds xs n ids := by
  rcases hb with ⟨h1, h2⟩ | ⟨p, h1, _⟩
  · exact ⟨h.asc, h.fst, fun j hj => h.cov j hj (h2 j hj)⟩
  · omega
theorem sk_false {xs : Nat → E} {hv : Bool} {last : Int} {p : Nat} (h : sk xs hv last p = false) : hv = true → last < (xs p).1 := by
  intro h'
  subst h'
  simp [sk] at h
  exact h
theorem Sel.step {xs : Nat → E} {n : Nat} {hv : Bool} {last : Int} {ids : List Nat} {p : Nat} (h : Sel xs n hv last ids) (hb : Best xs hv last n p) : Sel xs n true (xs p).1 (ids ++ [p]) := by
  rcases hb with ⟨h1, h2⟩ | ⟨p', h1, h2, h3, h4, h5⟩
  · omega
  · obtain rfl : p' = p := by omega
    have hgt : ∀ i ∈ ids, (xs i).1 < (xs p').1 := fun i hi => by
      have e1 := h.le i hi
      have e2 := sk_false h3 e1.1
      omega
    refine ⟨List.pairwise_append.2 ⟨h.asc, by simp, fun a ha b hb => ?_⟩, fun i hi => ?_, fun i hi => ?_, fun j hj hs => ?_⟩
    · simp at hb; subst hb; exact hgt a ha
    · rw [List.mem_append] at hi
      rcases hi with hi | hi
      · exact ⟨rfl, Int.le_of_lt (hgt i hi)⟩
      · simp at hi; subst hi; exact ⟨rfl, Int.le_refl _⟩
    · rw [List.mem_append] at hi
      rcases hi with hi | hi
      · exact h.fst i hi
      · simp at hi
        subst hi
        refine ⟨h2, fun j hj he => ?_⟩
        cases hsj : sk xs hv last j with
        | true =>
          obtain ⟨q, hq, hqe⟩ := h.cov j (by omega) hsj
          have := hgt q hq
          omega
        | false =>
          have := h5 j hj hsj
          omega
    · simp [sk] at hs
      cases hsj : sk xs hv last j with
      | true =>
        obtain ⟨q, hq, hqe⟩ := h.cov j hj hsj
        exact ⟨q, by simp [hq], hqe⟩
      | false =>
        have := h4 j hj hsj
        exact ⟨p', by simp, by omega⟩
/-- how many are still ahead -/
def cg (xs : Nat → E) (hv : Bool) (last : Int) : Nat → Nat
  | 0 => 0
  | n + 1 => cg xs hv last n + if sk xs hv last n then 0 else 1
theorem cg_le {xs : Nat → E} {hv hv' : Bool} {last last' : Int} (h : ∀ j, sk xs hv last j = true → sk xs hv' last' j = true) : ∀ n, cg xs hv' last' n ≤ cg xs hv last n
  | 0 => Nat.le_refl _
  | n + 1 => by
    have := cg_le h n
    simp only [cg]
    have := h n
    cases h1 : sk xs hv last n with
    | true => rw [this h1]; simp; omega
    | false =>
      cases sk xs hv' last' n <;> simp <;> omega
theorem cg_lt {xs : Nat → E} {hv hv' : Bool} {last last' : Int} {p : Nat} (h : ∀ j, sk xs hv last j = true → sk xs hv' last' j = true) (h1 : sk xs hv last p = false) (h2 : sk xs hv' last' p = true) : ∀ n, p < n → cg xs hv' last' n < cg xs hv last n
  | 0, hp => by omega
  | n + 1, hp => by
    simp only [cg]
    by_cases q : p = n
    · subst q
      have := cg_le h p
      rw [h1, h2]; simp; omega
    · have := cg_lt h h1 h2 n (by omega)
      have := h n
      cases h3 : sk xs hv last n with
      | true => rw [this h3]; simp; omega
      | false =>
        cases sk xs hv' last' n <;> simp <;> omega
theorem Best.ahead {xs : Nat → E} {n : Nat} {hv : Bool} {last : Int} {p : Nat} (hb : Best xs hv last n p) : cg xs true (xs p).1 n < cg xs hv last n := by
  rcases hb with ⟨h1, h2⟩ | ⟨p', h1, h2, h3, h4, h5⟩
  · omega
  · obtain rfl : p' = p := by omega
    refine cg_lt (fun j hj => ?_) h3 (by simp [sk]) n h2
    simp [sk] at hj ⊢
    have := sk_false h3 hj.1
    omega
end Go.Proofs.Qxb6616141a
