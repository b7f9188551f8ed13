/-
  OWN TEXT. THE PLAIN LAW of the logs of resolutions: the window of ten thousand against the whole log.
-/
import Derived.Test.Qxb6616074aInv
namespace Go.Proofs.Qxb6616074a

/-- the whole log: N resolutions, the i-th R i -/
abbrev Resn := Nat → EntD

/-- the number (from 1) of the last of the first n resolutions that is of t -/
def lastOf (R : Resn) (t : ByteArray) : Nat → Option Nat
  | 0 => none
  | n + 1 => if (R n).2.1 = t then some (n + 1) else lastOf R t n

theorem lastOf_congr {R R' : Resn} {t : ByteArray} : ∀ {n : Nat}, (∀ i, i < n → R i = R' i) → lastOf R t n = lastOf R' t n
  | 0, _ => rfl
  | n + 1, h => by
    simp only [lastOf]
    rw [h n (by omega), lastOf_congr (fun i hi => h i (by omega))]

theorem lastOf_some {R : Resn} {t : ByteArray} : ∀ {n m : Nat}, lastOf R t n = some m → 0 < m ∧ m ≤ n ∧ (R (m - 1)).2.1 = t ∧ ∀ j, m ≤ j → j < n → (R j).2.1 ≠ t
  | 0, m, h => by simp [lastOf] at h
  | n + 1, m, h => by
    simp only [lastOf] at h
    split at h
    · rename_i ht
      injection h with h
      subst h
      exact ⟨by omega, by omega, by simpa using ht, fun j h1 h2 => by omega⟩
    · rename_i ht
      obtain ⟨h1, h2, h3, h4⟩ := lastOf_some h
      refine ⟨h1, by omega, h3, fun j hj hj2 => ?_⟩
      by_cases hjn : j = n
      · subst hjn; exact ht
      · exact h4 j hj (by omega)
theorem lastOf_none {R : Resn} {t : ByteArray} : ∀ {n : Nat}, lastOf R t n = none → ∀ j, j < n → (R j).2.1 ≠ t
  | 0, _ => fun j hj => by omega
  | n + 1, h => by
    simp only [lastOf] at h
    split at h
    · cases h
    · rename_i ht
      intro j hj
      by_cases hjn : j = n
      · subst hjn; exact ht
      · exact lastOf_none h j (by omega)

/-- one resolution more -/
def ext (R : Resn) (N : Nat) (e : EntD) : Resn := fun i => if i = N then e else R i
theorem ext_lt {R : Resn} {N i : Nat} {e : EntD} (h : i < N) : ext R N e i = R i := by
  unfold ext
  rw [if_neg (by omega)]
theorem ext_at {R : Resn} {N : Nat} {e : EntD} : ext R N e N = e := by simp [ext]
theorem lastOf_ext {R : Resn} {N : Nat} {e : EntD} (t : ByteArray) : lastOf (ext R N e) t (N + 1) = if e.2.1 = t then some (N + 1) else lastOf R t N := by
  simp only [lastOf]
  rw [ext_at, lastOf_congr (R := ext R N e) (R' := R) (fun i hi => ext_lt hi)]

/-- the log that is remembered -/
def remF (R : Resn) (N : Nat) (t : ByteArray) : Option Outc :=
  match lastOf R t N with
  | some m => if N - m < 10000 then some ((m : Int), (R (m - 1)).1, (R (m - 1)).2.2) else none
  | none => none

/-- no resolution of the same transaction among the m behind the k-th -/
def freeF (R : Resn) (k : Nat) : Nat → Bool
  | 0 => true
  | m + 1 => freeF R k m && decide ((R (k + 1 + m)).2.1 ≠ (R k).2.1)
theorem freeF_iff {R : Resn} {k : Nat} : ∀ {m : Nat}, freeF R k m = true ↔ ∀ j, k < j → j ≤ k + m → (R j).2.1 ≠ (R k).2.1
  | 0 => by simp [freeF]; intro j h1 h2; omega
  | m + 1 => by
    simp only [freeF, Bool.and_eq_true, decide_eq_true_eq]
    rw [freeF_iff]
    constructor
    · rintro ⟨h1, h2⟩ j hj hj2
      by_cases hjm : j = k + 1 + m
      · subst hjm; exact h2
      · exact h1 j hj (by omega)
    · intro h
      exact ⟨fun j h1 h2 => h j h1 (by omega), h _ (by omega) (by omega)⟩

/-- the largest stamp among the first M that left the window as their transaction's latest -/
def fgF (R : Resn) : Nat → Int
  | 0 => 0
  | k + 1 => if freeF R k 10000 then max (fgF R k) (R k).2.2 else fgF R k
theorem fgF_nonneg (R : Resn) : ∀ n, 0 ≤ fgF R n
  | 0 => Int.le_refl _
  | n + 1 => by
    have := fgF_nonneg R n
    simp only [fgF]
    split <;> omega
theorem freeF_congr {R R' : Resn} {k : Nat} {m : Nat} (h : ∀ i, i ≤ k + m → R i = R' i) : freeF R k m = freeF R' k m := by
  rw [Bool.eq_iff_iff, freeF_iff, freeF_iff]
  constructor
  · intro g j h1 h2
    rw [← h j (by omega), ← h k (by omega)]
    exact g j h1 h2
  · intro g j h1 h2
    rw [h j (by omega), h k (by omega)]
    exact g j h1 h2
theorem fgF_congr {R R' : Resn} : ∀ {M N : Nat}, M + 10000 ≤ N → (∀ i, i < N → R i = R' i) → fgF R M = fgF R' M
  | 0, _, _, _ => rfl
  | M + 1, N, hM, h => by
    have e1 := fgF_congr (M := M) (N := N) (by omega) h
    have e2 : freeF R M 10000 = freeF R' M 10000 := freeF_congr (fun i hi => h i (by omega))
    unfold fgF
    rw [e1, e2, h M (by omega)]

/-- the order's window -/
def winF (R : Resn) (s : Nat) : Nat → List Dbt
  | 0 => []
  | m + 1 => ((R s).2.1, (s : Int) + 1) :: winF R (s + 1) m
theorem winF_length (R : Resn) : ∀ (m s : Nat), (winF R s m).length = m
  | 0, _ => rfl
  | m + 1, s => by simp [winF, winF_length R m]
theorem winF_snoc (R : Resn) : ∀ (m s : Nat), winF R s m ++ [((R (s + m)).2.1, ((s + m : Nat) : Int) + 1)] = winF R s (m + 1)
  | 0, s => by simp [winF]
  | m + 1, s => by
    have := winF_snoc R m (s + 1)
    rw [show s + 1 + m = s + (m + 1) by omega] at this
    show _ :: (winF R (s + 1) m ++ _) = _
    rw [this]
    rfl
theorem winF_congr {R R' : Resn} : ∀ {m s : Nat}, (∀ i, i < s + m → R i = R' i) → winF R s m = winF R' s m
  | 0, _, _ => rfl
  | m + 1, s, h => by
    simp only [winF]
    rw [h s (by omega), winF_congr (fun i hi => h i (by omega))]

structure SInv (S : LogS) (R : Resn) (N : Nat) : Prop where
  cnt : S.count = N
  ord : S.order = winF R (N - 10000) (min N 10000)
  lat : ∀ t, S.latest t = remF R N t

theorem sinv0 (R : Resn) : SInv ⟨fun _ => none, [], 0⟩ R 0 := ⟨rfl, rfl, fun _ => rfl⟩

theorem remF_ext {R : Resn} {N : Nat} {e : EntD} (t : ByteArray) : remF (ext R N e) (N + 1) t = if e.2.1 = t then some ((N : Int) + 1, e.1, e.2.2) else match lastOf R t N with
    | some m => if N + 1 - m < 10000 then some ((m : Int), (R (m - 1)).1, (R (m - 1)).2.2) else none
    | none => none := by
  unfold remF
  rw [lastOf_ext]
  by_cases h : e.2.1 = t
  · rw [if_pos h, if_pos h]
    simp only [Nat.sub_self, Nat.add_sub_cancel, ext_at]
    rw [if_pos (by omega)]
    simp
  · rw [if_neg h, if_neg h]
    cases hl : lastOf R t N with
    | none => rfl
    | some m =>
      obtain ⟨h1, h2, _, _⟩ := lastOf_some hl
      simp only
      rw [ext_lt (show m - 1 < N by omega)]

/-- one add: the log's form, and what it forgets -/
theorem SInv.add {S : LogS} {R : Resn} {N : Nat} (h : SInv S R N) (kd : Int) (t : ByteArray) (s : Int) :
    SInv (addS S kd t s) (ext R N (kd, t, s)) (N + 1) ∧ max (fgF R (N - 10000)) (addT S kd t s).2.2 = fgF (ext R N (kd, t, s)) (N + 1 - 10000) := by
  obtain ⟨e, he⟩ : ∃ e : EntD, e = (kd, t, s) := ⟨_, rfl⟩
  have hw : S.order ++ [(t, (S.count : Int) + 1)] = winF (ext R N e) (N - 10000) (min N 10000 + 1) := by
    rw [h.ord, h.cnt, winF_congr (R := R) (R' := ext R N e) (fun i hi => (ext_lt (by omega)).symm), ← winF_snoc]
    rw [show N - 10000 + min N 10000 = N by omega, ext_at, he]
  have hf : ∀ x, upd S.latest t (some ((S.count : Int) + 1, kd, s)) x = if e.2.1 = x then some ((N : Int) + 1, e.1, e.2.2) else remF R N x := by
    intro x
    rw [he]
    simp only [upd, h.cnt, h.lat]
    by_cases hx : x = t
    · rw [if_pos hx, if_pos hx.symm]
    · rw [if_neg hx, if_neg (fun h => hx h.symm)]
  by_cases hN : N < 10000
  · have hT : addT S kd t s = (winF (ext R N e) (N - 10000) (min N 10000 + 1), upd S.latest t (some ((S.count : Int) + 1, kd, s)), 0) := by
      unfold addT
      rw [hw]
      exact trim_stop (by rw [winF_length]; omega)
    rw [← he]
    refine ⟨⟨by simp [addS, h.cnt], ?_, ?_⟩, ?_⟩
    · simp only [addS, hT]
      rw [show N - 10000 = N + 1 - 10000 by omega, show min N 10000 + 1 = min (N + 1) 10000 by omega]
    · intro x
      simp only [addS, hT]
      rw [hf, remF_ext]
      split
      · rfl
      · unfold remF
        cases hl : lastOf R x N with
        | none => rfl
        | some m =>
          obtain ⟨h1, h2, _, _⟩ := lastOf_some hl
          simp only
          rw [if_pos (by omega), if_pos (by omega)]
    · rw [hT, show N - 10000 = 0 by omega, show N + 1 - 10000 = 0 by omega]
      simp [fgF]
  · obtain ⟨k, rfl⟩ : ∃ k, N = k + 10000 := ⟨N - 10000, by omega⟩
    rw [← he]
    have hmin : min (k + 10000) 10000 = 10000 := by omega
    rw [hmin, show k + 10000 - 10000 = k by omega] at hw
    have hhead : winF (ext R (k + 10000) e) k (10000 + 1) = ((R k).2.1, (k : Int) + 1) :: winF (ext R (k + 10000) e) (k + 1) 10000 := by
      show (((ext R (k + 10000) e) k).2.1, (k : Int) + 1) :: _ = _
      rw [ext_lt (by omega)]
    have hlk : ∃ m, lastOf R (R k).2.1 (k + 10000) = some m ∧ k + 1 ≤ m := by
      cases hl : lastOf R (R k).2.1 (k + 10000) with
      | none => exact absurd rfl (lastOf_none hl k (by omega))
      | some m =>
        refine ⟨m, rfl, ?_⟩
        obtain ⟨h1, h2, h3, h4⟩ := lastOf_some hl
        by_cases hm : k + 1 ≤ m
        · exact hm
        · exact absurd rfl (h4 k (by omega) (by omega))
    obtain ⟨m, hm, hkm⟩ := hlk
    obtain ⟨m1, m2, m3, m4⟩ := lastOf_some hm
    have hrk : remF R (k + 10000) (R k).2.1 = some ((m : Int), (R (m - 1)).1, (R (m - 1)).2.2) := by
      unfold remF
      rw [hm]
      simp only
      rw [if_pos (by omega)]
    have hfree : freeF (ext R (k + 10000) e) k 10000 = true ↔ (e.2.1 ≠ (R k).2.1 ∧ m = k + 1) := by
      rw [freeF_iff]
      constructor
      · intro g
        refine ⟨?_, ?_⟩
        · have := g (k + 10000) (by omega) (by omega)
          rwa [ext_at, ext_lt (by omega)] at this
        · by_cases hmk : m = k + 1
          · exact hmk
          · have := g (m - 1) (by omega) (by omega)
            rw [ext_lt (by omega), ext_lt (by omega), m3] at this
            exact absurd rfl this
      · rintro ⟨g1, g2⟩ j h1 h2
        rw [ext_lt (show k < k + 10000 by omega)]
        by_cases hj : j = k + 10000
        · subst hj; rw [ext_at]; exact g1
        · rw [ext_lt (by omega)]
          exact m4 j (by omega) (by omega)
    have hfg : fgF (ext R (k + 10000) e) (k + 10000 + 1 - 10000) = if freeF (ext R (k + 10000) e) k 10000 then max (fgF R k) (R k).2.2 else fgF R k := by
      rw [show k + 10000 + 1 - 10000 = k + 1 by omega]
      show (if freeF (ext R (k + 10000) e) k 10000 then max (fgF (ext R (k + 10000) e) k) (ext R (k + 10000) e k).2.2 else fgF (ext R (k + 10000) e) k) = _
      rw [fgF_congr (R := ext R (k + 10000) e) (R' := R) (N := k + 10000) (by omega) (fun i hi => ext_lt hi), ext_lt (by omega)]
    have hnn := fgF_nonneg R k
    by_cases hit : nOf (upd S.latest t (some ((S.count : Int) + 1, kd, s)) (R k).2.1) = (k : Int) + 1
    · have hne : e.2.1 ≠ (R k).2.1 := by
        intro hh
        rw [hf, if_pos hh] at hit
        simp [nOf] at hit
        omega
      have hmk : m = k + 1 := by
        rw [hf, if_neg hne, hrk] at hit
        simp [nOf] at hit
        omega
      have hst : stOf (upd S.latest t (some ((S.count : Int) + 1, kd, s)) (R k).2.1) = (R k).2.2 := by
        rw [hf, if_neg hne, hrk, hmk]
        simp [stOf]
      have hT : addT S kd t s = (winF (ext R (k + 10000) e) (k + 1) 10000, upd (upd S.latest t (some ((S.count : Int) + 1, kd, s))) (R k).2.1 none, max 0 (R k).2.2) := by
        unfold addT
        rw [hw, hhead, trim_hit (by rw [List.length_cons, winF_length]; omega) hit, hst]
        exact trim_stop (by rw [winF_length]; omega)
      refine ⟨⟨by simp [addS, h.cnt], ?_, ?_⟩, ?_⟩
      · simp only [addS, hT]
        rw [show k + 10000 + 1 - 10000 = k + 1 by omega, show min (k + 10000 + 1) 10000 = 10000 by omega]
      · intro x
        simp only [addS, hT]
        rw [remF_ext]
        by_cases hx : x = (R k).2.1
        · subst hx
          rw [upd_same, if_neg hne, hm]
          simp only
          rw [if_neg (by omega)]
        · rw [upd_other _ _ hx, hf]
          split
          · rfl
          · unfold remF
            cases hl : lastOf R x (k + 10000) with
            | none => rfl
            | some mx =>
              obtain ⟨h1, h2, h3, h4⟩ := lastOf_some hl
              simp only
              by_cases hmx : k + 2 ≤ mx
              · rw [if_pos (by omega), if_pos (by omega)]
              · by_cases hmx2 : mx = k + 1
                · subst hmx2
                  exact absurd (by simpa using h3.symm) hx
                · rw [if_neg (by omega), if_neg (by omega)]
      · rw [hT, hfg, if_pos (hfree.2 ⟨hne, hmk⟩), show k + 10000 - 10000 = k by omega]
        simp only
        omega
    · have hT : addT S kd t s = (winF (ext R (k + 10000) e) (k + 1) 10000, upd S.latest t (some ((S.count : Int) + 1, kd, s)), 0) := by
        unfold addT
        rw [hw, hhead, trim_miss (by rw [List.length_cons, winF_length]; omega) hit]
        exact trim_stop (by rw [winF_length]; omega)
      have hnf : ¬ freeF (ext R (k + 10000) e) k 10000 = true := by
        rw [hfree]
        rintro ⟨g1, g2⟩
        apply hit
        rw [hf, if_neg g1, hrk, g2]
        simp [nOf]
      refine ⟨⟨by simp [addS, h.cnt], ?_, ?_⟩, ?_⟩
      · simp only [addS, hT]
        rw [show k + 10000 + 1 - 10000 = k + 1 by omega, show min (k + 10000 + 1) 10000 = 10000 by omega]
      · intro x
        simp only [addS, hT]
        rw [remF_ext, hf]
        split
        · rfl
        · rename_i hx
          unfold remF
          cases hl : lastOf R x (k + 10000) with
          | none => rfl
          | some mx =>
            obtain ⟨h1, h2, h3, h4⟩ := lastOf_some hl
            simp only
            by_cases hmx : k + 2 ≤ mx
            · rw [if_pos (by omega), if_pos (by omega)]
            · by_cases hmx2 : mx = k + 1
              · subst hmx2
                rw [show k + 1 - 1 = k by omega] at h3
                exfalso
                refine hnf (hfree.2 ⟨fun hh => hx (hh.trans h3), ?_⟩)
                rw [h3, hl] at hm
                exact (Option.some.inj hm).symm
              · rw [if_neg (by omega), if_neg (by omega)]
      · rw [hT, hfg, if_neg hnf, show k + 10000 - 10000 = k by omega]
        simp only
        omega
end Go.Proofs.Qxb6616074a
