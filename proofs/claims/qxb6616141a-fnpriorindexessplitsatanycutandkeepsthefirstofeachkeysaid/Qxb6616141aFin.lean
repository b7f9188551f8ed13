/-
  OWN TEXT. What stands when the indexes are made: views.
-/
import Derived.Test.Qxb6616141aPix
import Derived.Test.Qxb6616141aFbk
namespace Go.Proofs.Qxb6616141a
open Go.RowKit
/-- n indexes, the i-th of the cells C i -/
structure PxAt (W : World) (a : Option Addr) (b n : Nat) (C : Nat → List Value) : Prop where
  addr : 0 < n → a = some ⟨b, 0, none⟩
  r : ∀ i, i < n → W.rangeAt b (i * 4) (C i)
theorem PxAt.below {W W' : World} {a : Option Addr} {b n : Nat} {C : Nat → List Value} (h : PxAt W a b n C) (hb : Below W.heap.size W W') : PxAt W' a b n C := ⟨h.addr, fun i hi j v hv => below_cell hb (h.r i hi j v hv)⟩
theorem PxAt.at {W : World} {a : Option Addr} {b n : Nat} {C : Nat → List Value} (h : PxAt W a b n C) {i : Nat} (hi : i < n) {x0 x1 x2 x3 : Value} (hC : C i = [x0, x1, x2, x3]) :
    W.cell? ⟨b, i * 4, none⟩ = some x0 ∧ W.cell? ⟨b, i * 4 + 1, none⟩ = some x1 ∧ W.cell? ⟨b, i * 4 + 2, none⟩ = some x2 ∧ W.cell? ⟨b, i * 4 + 3, none⟩ = some x3 := by
  have := h.r i hi
  rw [hC] at this
  exact ⟨this 0 x0 rfl, this 1 x1 rfl, this 2 x2 rfl, this 3 x3 rfl⟩
/-- n roots -/
structure RtAt (W : World) (a : Option Addr) (b n : Nat) (R : Nat → Nat) : Prop where
  addr : 0 < n → a = some ⟨b, 0, none⟩
  c : ∀ i, i < n → W.cell? ⟨b, i, none⟩ = some (.pointer (some ⟨R i, 0, none⟩))
theorem RtAt.below {W W' : World} {a : Option Addr} {b n : Nat} {R : Nat → Nat} (h : RtAt W a b n R) (hb : Below W.heap.size W W') : RtAt W' a b n R := ⟨h.addr, fun i hi => below_cell hb (h.c i hi)⟩
theorem RtAt.keep {W W' : World} {a : Option Addr} {b n : Nat} {R : Nat → Nat} {F : Nat → Prop} (h : RtAt W a b n R) (hc : Chg F W W') (hF : ¬ F b) : RtAt W' a b n R := ⟨h.addr, fun i hi => hc.cell (h.c i hi) hF⟩
theorem Mk.roots {w0 W : World} {g n : Nat} {R : Nat → Nat} (h : Mk w0 W g 1 n n (rootC R)) : RtAt W (some ⟨g, 0, none⟩) g n R :=
  ⟨fun _ => rfl, fun i hi => by have := h.r i hi 0 _ rfl; rwa [Nat.mul_one, Nat.add_zero] at this⟩
theorem Mk.tabs {w0 W : World} {g n : Nat} {R : Nat → Nat} (h : Mk w0 W g 5 n n (tabC R)) : TabAt W (some ⟨g, 0, none⟩) g 0 n R :=
  ⟨fun _ => rfl, fun i hi => by have := h.r i hi 0 _ rfl; rwa [Nat.add_zero, ← Nat.zero_add (i * 5)] at this, fun i hi => by have := h.r i hi 1 _ rfl; rwa [← Nat.zero_add (i * 5)] at this, fun i hi => by have := h.r i hi 2 _ rfl; rwa [← Nat.zero_add (i * 5)] at this⟩
section
variable {R : Nat → Nat} {A : Nat → Option Addr} {EB L : Nat → Nat} {l0 : Nat → List E} {c : Nat}
theorem newR_length : ∀ j, (newR R A EB L l0 c j).length = j * 4
  | 0 => rfl
  | j + 1 => by
    show (newR R A EB L l0 c j ++ pixF R A EB L l0 (c + j)).length = _
    rw [List.length_append, newR_length j]
    show j * 4 + 4 = _
    omega
theorem newR_get : ∀ {j i q : Nat}, i < j → q < 4 → (newR R A EB L l0 c j)[i * 4 + q]? = (pixF R A EB L l0 (c + i))[q]?
  | 0, i, q, hi, _ => by omega
  | j + 1, i, q, hi, hq => by
    show (newR R A EB L l0 c j ++ pixF R A EB L l0 (c + j))[i * 4 + q]? = _
    by_cases h : i < j
    · rw [List.getElem?_append_left (by rw [newR_length]; omega)]
      exact newR_get h hq
    · have : i = j := by omega
      subst this
      rw [List.getElem?_append_right (by rw [newR_length]; omega), newR_length]
      congr 1
      omega
end
/-- a list of cells tells n indexes -/
def Tell (xs : List Value) (n : Nat) (C : Nat → List Value) : Prop := xs.length = n * 4 ∧ ∀ i q, i < n → q < 4 → xs[i * 4 + q]? = (C i)[q]?
theorem Tell.app {xs : List Value} {n m : Nat} {C : Nat → List Value} (h : Tell xs n C) {R : Nat → Nat} {A : Nat → Option Addr} {EB L : Nat → Nat} {l0 : Nat → List E} {c : Nat} {C' : Nat → List Value}
    (h1 : ∀ i, i < n → C' i = C i) (h2 : ∀ i, i < m → C' (n + i) = pixF R A EB L l0 (c + i)) : Tell (xs ++ newR R A EB L l0 c m) (n + m) C' := by
  refine ⟨by rw [List.length_append, h.1, newR_length, Nat.add_mul], fun i q hi hq => ?_⟩
  by_cases hin : i < n
  · rw [List.getElem?_append_left (by rw [h.1]; omega), h1 i hin]
    exact h.2 i q hin hq
  · obtain ⟨k, rfl⟩ : ∃ k, i = n + k := ⟨i - n, by omega⟩
    rw [List.getElem?_append_right (by rw [h.1]; omega), h.1, h2 k (by omega), show (n + k) * 4 + q - n * 4 = k * 4 + q by omega]
    exact newR_get (by omega) hq
theorem px_of_own {W : World} {base : Nat} {v : Value} {n : Nat} {xs : List Value} {C : Nat → List Value} (h : W.ownsRow base 58 4 v n xs) (ht : Tell xs n C) (hC : ∀ i, (C i).length = 4) : ∃ a b cap, v = .slice a n cap ∧ PxAt W a b n C := by
  rcases h.2 with ⟨q1, q2⟩ | ⟨g, cap, cur, q1, _⟩
  · subst q1 q2
    exact ⟨none, 0, 0, rfl, ⟨fun h => by omega, fun i hi => by omega⟩⟩
  · subst q1
    refine ⟨some ⟨g, 0, none⟩, g, cap, rfl, ⟨fun _ => rfl, fun i hi q u hu => ?_⟩⟩
    have hq : q < 4 := by
      have := (List.getElem?_eq_some_iff.1 hu).1
      rwa [hC] at this
    rw [h.cellAt (i * 4 + q) (by omega), ht.2 i q hi hq]
    exact hu
/-- the indexes that came first, then the tables' -/
def clF (RW R : Nat → Nat) (A : Nat → Option Addr) (EB L : Nat → Nat) (l0 : Nat → List E) (n i : Nat) : List Value := if i < n then pixC RW i else pixF R A EB L l0 (i - n)
theorem clF_length (RW R : Nat → Nat) (A : Nat → Option Addr) (EB L : Nat → Nat) (l0 : Nat → List E) (n i : Nat) : (clF RW R A EB L l0 n i).length = 4 := by
  unfold clF
  split <;> rfl
theorem tell_own {W w0 : World} {base g n : Nat} {RW : Nat → Nat} {xs : List Value} (h : W.ownsRow base 58 4 (.slice (some ⟨g, 0, none⟩) n n) n xs) (hm : Mk w0 W g 4 n n (pixC RW)) : Tell xs n (pixC RW) := by
  refine ⟨h.1, fun i q hi hq => ?_⟩
  rw [← h.cellAt (i * 4 + q) (by omega)]
  have hl : q < (pixC RW i).length := hq
  rw [List.getElem?_eq_getElem hl]
  exact hm.r i hi q _ (List.getElem?_eq_getElem hl)
theorem lj_zero (l0 : Nat → List E) (c i : Nat) : lj l0 c 0 i = l0 i := by unfold lj; rw [if_neg (by omega)]
theorem lj_join (l0 : Nat → List E) (k m i : Nat) (h : k ≤ m) : lj (lj l0 0 k) k (m - k) i = lj l0 0 m i := by
  unfold lj
  by_cases h1 : i < k
  · rw [if_neg (by omega), if_pos (by omega), if_pos (by omega)]
  · by_cases h2 : i < m
    · rw [if_pos (by omega), if_neg (by omega), if_pos (by omega)]
    · rw [if_neg (by omega), if_neg (by omega), if_neg (by omega)]
/-- the traces of the call's own, made -/
theorem Trc.tri {w0 W : World} {g n : Nat} {CH EN : Nat → Bool} {A : Nat → Option Addr} {L : Nat → Nat} {X : Nat → Nat → E} {EB : Nat → Nat} (h : Trc w0 W g n n CH EN A L X EB) (hnil : ∀ i, i < n → A i = none → L i = 0) {i : Nat} (hi : i < n) :
    TrI W g i (CH i) (EN i) (A i) (EB i) (L i) (seg (X i) 0 (L i)) := by
  have hr := h.m.r i hi
  refine ⟨?_, hr 1 _ rfl, ?_, (h.m.t i hi 2 (by omega)).2, fun q => ⟨?_, hnil i hi q⟩, fun q => ?_⟩
  · have := hr 0 _ rfl
    rwa [Nat.add_zero] at this
  · rw [seg_length]; exact hr 2 _ rfl
  · rw [hnil i hi q]; rfl
  · rw [seg_length]; exact ⟨h.hi i hi, X i, h.row i hi q, rfl⟩
theorem TrI.below {W W' : World} {rb i : Nat} {ch en : Bool} {a : Option Addr} {e c : Nat} {l : List E} (h : TrI W rb i ch en a e c l) (hb : Below W.heap.size W W') : TrI W' rb i ch en a e c l := h.keep (F := fun _ => False) (Chg.of_below hb) (fun x => x) (fun _ x => x)
theorem Trc.dis {w0 W : World} {g n : Nat} {CH EN : Nat → Bool} {A : Nat → Option Addr} {L : Nat → Nat} {X : Nat → Nat → E} {EB : Nat → Nat} (h : Trc w0 W g n n CH EN A L X EB) {tb : Nat} {dv : Value} (ht : tb < w0.heap.size) (hd : ∀ k, dv.ownBlock = some k → k < w0.heap.size ∧ k ≠ tb) : Dis W g tb n EB dv := by
  have hge := h.m.ge
  refine ⟨fun i j hi hj hij => ?_, fun i hi => ?_, fun i hi => ?_, by omega, h.m.lt, Nat.lt_of_lt_of_le ht h.m.bel.size, h.hi, fun k hk => ?_⟩
  · rcases Nat.lt_or_gt_of_ne hij with q | q
    · have := h.mono i j q hj; omega
    · have := h.mono j i q hi; omega
  · have := h.lo i hi; omega
  · have := h.lo i hi; omega
  · obtain ⟨q1, q2⟩ := hd k hk
    exact ⟨by omega, q2, fun i hi => by have := h.lo i hi; omega⟩
theorem seg_get (zs : Nat → E) : ∀ {n k : Nat}, k < n → (seg zs 0 n)[k]? = some (zs k)
  | 0, k, h => by omega
  | n + 1, k, h => by
    rw [seg_snoc]
    by_cases q : k < n
    · rw [List.getElem?_append_left (by rw [seg_length]; exact q)]
      exact seg_get zs q
    · have : k = n := by omega
      subst this
      rw [List.getElem?_append_right (by rw [seg_length]; omega), seg_length]
      simp
/-- an entry list as it is compared -/
theorem ids_at {zs xs : Nat → E} {n : Nat} {ids : List Nat} {l : List E} (h : FirstIds xs n ids) (hl : l = fstK (seg xs 0 n)) (hz : seg zs 0 l.length = l) : l.length = ids.length ∧ ∀ k, k < ids.length → ids.getD k 0 < n ∧ zs k = xs (ids.getD k 0) := by
  have he := h.eq
  rw [← hl] at he
  have hlen : l.length = ids.length := by rw [← he, List.length_map]
  refine ⟨hlen, fun k hk => ?_⟩
  have hg : ids[k]? = some (ids.getD k 0) := by rw [List.getD_eq_getElem?_getD, List.getElem?_eq_getElem hk]; rfl
  refine ⟨(h.fst _ (List.mem_of_getElem? hg)).1, ?_⟩
  have h1 : l[k]? = some (xs (ids.getD k 0)) := by rw [← he, List.getElem?_map, hg]; rfl
  rw [← hz] at h1
  rw [seg_get zs (by omega)] at h1
  exact Option.some.inj h1
theorem IdS.ix {w0 W : World} {v : Value} {ids : List Nat} (h : IdS w0 W v ids) : ∃ a b cap, v = .slice a ids.length cap ∧ IxAt W a b ids.length (fun k => ids.getD k 0) := by
  rcases h.own.2 with ⟨q1, q2⟩ | ⟨g, cap, cur, q1, _⟩
  · subst q1
    rw [q2]
    exact ⟨none, 0, 0, rfl, ⟨fun h => by omega, fun i hi => by omega⟩⟩
  · have ho := h.own
    subst q1
    refine ⟨some ⟨g, 0, none⟩, g, cap, rfl, ⟨fun _ => rfl, fun k hk => ?_⟩⟩
    rw [ho.cellAt k (by omega)]
    unfold idC
    rw [List.getElem?_map, List.getElem?_eq_getElem hk, List.getD_eq_getElem?_getD, List.getElem?_eq_getElem hk]
    rfl
theorem TrI.got {W : World} {rb i : Nat} {ch en : Bool} {a : Option Addr} {e c : Nat} {l : List E} (h : TrI W rb i ch en a e c l) : ∃ zs, GotAt W (bO a e) e l.length zs ∧ seg zs 0 l.length = l := by
  cases ha : a with
  | none =>
    obtain ⟨h1, h2⟩ := h.nil ha
    subst h1
    exact ⟨fun _ => (0, 0, false), ⟨fun h => by simp at h, fun i hi => by simp at hi⟩, rfl⟩
  | some ad =>
    obtain ⟨r1, zs, r2, r3⟩ := h.row (by rw [ha]; simp)
    exact ⟨zs, ⟨fun _ => rfl, fun i hi => (r2.cells hi).1⟩, r3⟩
end Go.Proofs.Qxb6616141a
