/-
  OWN TEXT. The heap of doubts as a plain list; what container/heap's functions make of it; where it lies in memory.
-/
import Derived.Test.Qxb6616074aRow
namespace Go.Proofs.Qxb6616074a
open Go.RowKit Go.MapKept Go.ChangeMaps

abbrev Dbt := ByteArray × Int

def flat : List Dbt → List Value
  | [] => []
  | d :: r => .string d.1 :: .int .u64 d.2 :: flat r

theorem flat_length : ∀ hs : List Dbt, (flat hs).length = hs.length * 2
  | [] => rfl
  | d :: r => by simp [flat, flat_length r]; omega
theorem flat_append : ∀ a b : List Dbt, flat (a ++ b) = flat a ++ flat b
  | [], _ => rfl
  | d :: r, b => by simp [flat, flat_append r b]
theorem flat_take : ∀ (hs : List Dbt) (m : Nat), flat (hs.take m) = (flat hs).take (m * 2)
  | [], m => by simp [flat]
  | d :: r, 0 => by simp [flat]
  | d :: r, m + 1 => by
    have e : (m + 1) * 2 = m * 2 + 1 + 1 := by omega
    simp [flat, e, flat_take r m]
theorem flat_get : ∀ (hs : List Dbt) (k : Nat) (d : Dbt), hs[k]? = some d → (flat hs)[k * 2]? = some (.string d.1) ∧ (flat hs)[k * 2 + 1]? = some (.int .u64 d.2)
  | [], _, _, h => by simp at h
  | x :: r, 0, d, h => by simp at h; subst h; simp [flat]
  | x :: r, k + 1, d, h => by
    have e : (k + 1) * 2 = k * 2 + 1 + 1 := by omega
    simp only [List.getElem?_cons_succ] at h
    simpa [flat, e] using flat_get r k d h
theorem flat_set : ∀ (hs : List Dbt) (k : Nat) (d : Dbt), flat (hs.set k d) = ((flat hs).set (k * 2) (.string d.1)).set (k * 2 + 1) (.int .u64 d.2)
  | [], _, _ => by simp [flat]
  | x :: r, 0, d => by simp [flat]
  | x :: r, k + 1, d => by
    have e : (k + 1) * 2 = k * 2 + 1 + 1 := by omega
    simp [flat, e, flat_set r k d]

def swp (hs : List Dbt) (i j : Nat) : List Dbt :=
  match hs[i]?, hs[j]? with
  | some a, some b => (hs.set i b).set j a
  | _, _ => hs
theorem swp_eq {hs : List Dbt} {i j : Nat} {a b : Dbt} (hi : hs[i]? = some a) (hj : hs[j]? = some b) : swp hs i j = (hs.set i b).set j a := by simp [swp, hi, hj]
theorem swp_length (hs : List Dbt) (i j : Nat) : (swp hs i j).length = hs.length := by
  unfold swp
  split <;> simp

def stampAt (hs : List Dbt) (i : Nat) : Int := ((hs[i]?).map (·.2)).getD 0
def lessF (hs : List Dbt) (i j : Nat) : Bool := decide (stampAt hs i < stampAt hs j)
theorem stampAt_eq {hs : List Dbt} {i : Nat} {d : Dbt} (h : hs[i]? = some d) : stampAt hs i = d.2 := by simp [stampAt, h]

/-- container/heap.up -/
def upF : Nat → List Dbt → Nat → List Dbt
  | 0, hs, _ => hs
  | f + 1, hs, j => if (j - 1) / 2 = j ∨ lessF hs j ((j - 1) / 2) = false then hs else upF f (swp hs ((j - 1) / 2) j) ((j - 1) / 2)
/-- which child container/heap.down looks at -/
def pickF (hs : List Dbt) (n i : Nat) : Nat := if 2 * i + 2 < n ∧ lessF hs (2 * i + 2) (2 * i + 1) = true then 2 * i + 2 else 2 * i + 1
/-- container/heap.down -/
def downF : Nat → List Dbt → Nat → Nat → List Dbt × Nat
  | 0, hs, _, i => (hs, i)
  | f + 1, hs, n, i => if n ≤ 2 * i + 1 ∨ lessF hs (pickF hs n i) i = false then (hs, i) else downF f (swp hs i (pickF hs n i)) n (pickF hs n i)
/-- container/heap.Remove -/
def removeF (hs : List Dbt) (i : Nat) : List Dbt :=
  if hs.length - 1 = i then hs.take (hs.length - 1)
  else
    let r := downF hs.length (swp hs i (hs.length - 1)) (hs.length - 1) i
    (if i < r.2 then r.1 else upF hs.length r.1 i).take (hs.length - 1)
/-- container/heap.Push -/
def pushF (hs : List Dbt) (d : Dbt) : List Dbt := upF (hs.length + 1) (hs ++ [d]) hs.length

theorem upF_length : ∀ (f : Nat) (hs : List Dbt) (j : Nat), (upF f hs j).length = hs.length
  | 0, _, _ => rfl
  | f + 1, hs, j => by
    unfold upF
    split
    · rfl
    · rw [upF_length, swp_length]
theorem downF_length : ∀ (f : Nat) (hs : List Dbt) (n i : Nat), (downF f hs n i).1.length = hs.length
  | 0, _, _, _ => rfl
  | f + 1, hs, n, i => by
    unfold downF
    split
    · rfl
    · rw [downF_length, swp_length]

/-- The place map tells each transaction's index. -/
def Good (hs : List Dbt) (pl : ByteArray → Option Nat) : Prop := ∀ k i, pl k = some i ↔ ∃ d, hs[i]? = some d ∧ d.1 = k

theorem Good.inj {hs : List Dbt} {pl : ByteArray → Option Nat} (h : Good hs pl) {i j : Nat} {a b : Dbt} (hi : hs[i]? = some a) (hj : hs[j]? = some b) (e : a.1 = b.1) : i = j := by
  have h1 := (h a.1 i).2 ⟨a, hi, rfl⟩
  have h2 := (h a.1 j).2 ⟨b, hj, e.symm⟩
  rw [h1] at h2
  exact Option.some.inj h2

theorem Good.swap {hs : List Dbt} {pl : ByteArray → Option Nat} (h : Good hs pl) {i j : Nat} {a b : Dbt} (hi : hs[i]? = some a) (hj : hs[j]? = some b) (hij : i ≠ j) :
    Good (swp hs i j) (upd (upd pl b.1 (some i)) a.1 (some j)) := by
  have hab : a.1 ≠ b.1 := fun e => hij (h.inj hi hj e)
  have hil : i < hs.length := (List.getElem?_eq_some_iff.1 hi).1
  have hjl : j < hs.length := (List.getElem?_eq_some_iff.1 hj).1
  intro k m
  rw [swp_eq hi hj]
  by_cases hka : k = a.1
  · subst hka
    rw [upd_same]
    constructor
    · intro e
      obtain rfl := Option.some.inj e
      exact ⟨a, by rw [List.getElem?_set_self (by simpa using hjl)], rfl⟩
    · rintro ⟨d, hd, hd1⟩
      by_cases hmj : m = j
      · rw [hmj]
      · rw [List.getElem?_set_ne (Ne.symm hmj)] at hd
        by_cases hmi : m = i
        · subst hmi
          rw [List.getElem?_set_self hil] at hd
          obtain rfl := Option.some.inj hd
          exact absurd hd1.symm hab
        · rw [List.getElem?_set_ne (Ne.symm hmi)] at hd
          exact absurd (h.inj hd hi hd1) hmi
  · rw [upd_other _ _ hka]
    by_cases hkb : k = b.1
    · subst hkb
      rw [upd_same]
      constructor
      · intro e
        obtain rfl := Option.some.inj e
        exact ⟨b, by rw [List.getElem?_set_ne (Ne.symm hij), List.getElem?_set_self hil], rfl⟩
      · rintro ⟨d, hd, hd1⟩
        by_cases hmi : m = i
        · rw [hmi]
        · by_cases hmj : m = j
          · subst hmj
            rw [List.getElem?_set_self (by simpa using hjl)] at hd
            obtain rfl := Option.some.inj hd
            exact absurd hd1 hab
          · rw [List.getElem?_set_ne (Ne.symm hmj), List.getElem?_set_ne (Ne.symm hmi)] at hd
            exact absurd (h.inj hd hj hd1) hmj
    · rw [upd_other _ _ hkb, h k m]
      by_cases hmi : m = i
      · subst hmi
        rw [List.getElem?_set_ne (Ne.symm hij), List.getElem?_set_self hil, hi]
        constructor
        · rintro ⟨d, hd, rfl⟩
          obtain rfl := Option.some.inj hd
          exact absurd rfl hka
        · rintro ⟨d, hd, rfl⟩
          obtain rfl := Option.some.inj hd
          exact absurd rfl hkb
      · by_cases hmj : m = j
        · subst hmj
          rw [List.getElem?_set_self (by simpa using hjl), hj]
          constructor
          · rintro ⟨d, hd, rfl⟩
            obtain rfl := Option.some.inj hd
            exact absurd rfl hkb
          · rintro ⟨d, hd, rfl⟩
            obtain rfl := Option.some.inj hd
            exact absurd rfl hka
        · rw [List.getElem?_set_ne (Ne.symm hmj), List.getElem?_set_ne (Ne.symm hmi)]

theorem Good.push {hs : List Dbt} {pl : ByteArray → Option Nat} (h : Good hs pl) (d : Dbt) (hn : pl d.1 = none) : Good (hs ++ [d]) (upd pl d.1 (some hs.length)) := by
  intro k m
  by_cases hk : k = d.1
  · subst hk
    rw [upd_same]
    constructor
    · intro e
      obtain rfl := Option.some.inj e
      exact ⟨d, by simp, rfl⟩
    · rintro ⟨x, hx, hx1⟩
      rcases Nat.lt_or_ge m hs.length with hm | hm
      · rw [List.getElem?_append_left hm] at hx
        rw [(h d.1 m).2 ⟨x, hx, hx1⟩] at hn
        cases hn
      · have : m < (hs ++ [d]).length := (List.getElem?_eq_some_iff.1 hx).1
        simp at this
        congr 1
        omega
  · rw [upd_other _ _ hk, h k m]
    rcases Nat.lt_or_ge m hs.length with hm | hm
    · rw [List.getElem?_append_left hm]
    · rw [List.getElem?_append_right hm]
      constructor
      · rintro ⟨x, hx, _⟩
        rw [List.getElem?_eq_none hm] at hx
        cases hx
      · rintro ⟨x, hx, rfl⟩
        exfalso
        match hj : m - hs.length with
        | 0 => rw [hj] at hx; simp at hx; exact hk (by rw [hx])
        | q + 1 => rw [hj] at hx; simp at hx

theorem Good.pop {hs : List Dbt} {pl : ByteArray → Option Nat} (h : Good hs pl) {n : Nat} {d : Dbt} (hn : hs.length = n + 1) (hd : hs[n]? = some d) : Good (hs.take n) (upd pl d.1 none) := by
  intro k m
  by_cases hk : k = d.1
  · subst hk
    rw [upd_same]
    constructor
    · intro e; cases e
    · rintro ⟨x, hx, hx1⟩
      rw [List.getElem?_take] at hx
      split at hx
      · rename_i hlt
        have := h.inj hx hd hx1
        omega
      · cases hx
  · rw [upd_other _ _ hk, h k m, List.getElem?_take]
    split
    · rfl
    · rename_i hlt
      constructor
      · rintro ⟨x, hx, rfl⟩
        have hml : m < hs.length := (List.getElem?_eq_some_iff.1 hx).1
        have : m = n := by omega
        subst this
        rw [hd] at hx
        obtain rfl := Option.some.inj hx
        exact absurd rfl hk
      · rintro ⟨x, hx, _⟩
        cases hx

def natV (i : Nat) : Value := .int .i64 i

/-- The heap of doubts, where it has been used: the struct's two cells at block lb, the row at block hb, the place map at block pb. -/
structure DL (w : World) (lb hb cap pb : Nat) (hs : List Dbt) : Prop where
  c0 : w.cell? ⟨lb, 0, none⟩ = some (.slice (some ⟨hb, 0, none⟩) hs.length cap)
  c1 : w.cell? ⟨lb, 1, none⟩ = some (.map (some pb))
  f0 : w.frozen? ⟨lb, 0, none⟩ = false
  f1 : w.frozen? ⟨lb, 1, none⟩ = false
  ne : lb ≠ hb
  nep : hb ≠ pb
  lt : hb < w.heap.size
  capm : cap ≤ maxLen
  row : RowAt w hb 0 2 hs.length cap (flat hs)
  small : hs.length ≤ 1000000000
  map : ∃ pl, MapAt w pb natV pl hs.length ∧ Good hs pl

section
variable {w : World} {lb hb cap pb : Nat} {hs : List Dbt}
theorem DL.cells (h : DL w lb hb cap pb hs) {k : Nat} {d : Dbt} (hd : hs[k]? = some d) :
    w.cell? ⟨hb, k * 2, none⟩ = some (.string d.1) ∧ w.cell? ⟨hb, k * 2 + 1, none⟩ = some (.int .u64 d.2) ∧ w.frozen? ⟨hb, k * 2, none⟩ = false ∧ w.frozen? ⟨hb, k * 2 + 1, none⟩ = false := by
  have hk : k < hs.length := (List.getElem?_eq_some_iff.1 hd).1
  obtain ⟨e0, e1⟩ := flat_get hs k d hd
  have hle := h.row.le
  have g0 := h.row.cell _ _ e0
  have g1 := h.row.cell _ _ e1
  have g2 := h.row.free (k * 2) (by omega)
  have g3 := h.row.free (k * 2 + 1) (by omega)
  rw [Nat.zero_add] at g0 g1 g2 g3
  exact ⟨g0, g1, g2, g3⟩
theorem DL.nelb (h : DL w lb hb cap pb hs) : lb ≠ pb := by
  obtain ⟨pl, hm, _⟩ := h.map
  obtain ⟨es, clock, hb', _⟩ := hm
  rintro rfl
  have := h.c0
  simp [World.cell?, hb'] at this
end
end Go.Proofs.Qxb6616074a
