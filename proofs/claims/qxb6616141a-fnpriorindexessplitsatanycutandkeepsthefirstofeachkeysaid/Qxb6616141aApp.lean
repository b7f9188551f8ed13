/-
  OWN TEXT. Rows of the call's own that grow by append.
-/
import Derived.Test.Qxb6616141aLaw6
import Derived.Laws.AppendOwn
import Derived.Laws.OwnMore
import Derived.Laws.MakeOwn
import Derived.Laws.CopyRow
import Derived.Laws.IdiomCopy
import Derived.Great.BuildSlice
import Derived.Deep.DeepAppendRoom
namespace Go.Proofs.Qxb6616141a
open Go.RowKit

theorem wpList_append_of {P : Program} {w : World} {ops : Array Oper} {rest : List Oper} {o : Oper} {a : Act} {Q : Exit → Act → World → Prop} (hgd : o.guard = none) (s x : Operand) (t u : TypeId)
    (ho : o.op = .call { callee := .builtin .append, args := #[s, x], argTypes := #[t, u] }) (v1 v2 : Value) (hs : a.eval s = v1) (hx : a.eval x = v2)
    (R : Value → World → Prop) (hr : ∀ ty, ∃ v' w', (Builtin.append_ #[t, u] ty #[v1, v2]).run P w = .ok v' w' ∧ R v' w')
    (h : ∀ v' w', R v' w' → wpList P ops Q rest (a.put o.dst v') w') : wpList P ops Q (o :: rest) a w := by
  refine wpList_plain hgd fun K hK => ?_
  obtain ⟨v', w', hr, h2⟩ := hr o.type
  unfold Oper.wp execOp
  simp only [ho, resolve, invoke, builtin, Sem.run_bind, Sem.run_pure, Result.andThen_ok, List.map_toArray, List.map_cons, List.map_nil, hs, hx, hr]
  exact hK _ _ (h v' w' h2)

/-- a row of the call's own, in the block g -/
structure Own (w0 w : World) (e size g n cap : Nat) (xs : List Value) : Prop where
  own : w.ownsRow w0.heap.size e size (.slice (some ⟨g, 0, none⟩) n cap) n xs
  bel : Below w0.heap.size w0 w
/-- what an append leaves -/
structure AppR (w0 w : World) (e size g n cap : Nat) (xs : List Value) (v' : Value) (w' : World) : Prop where
  val : v' = .slice (some ⟨g, 0, none⟩) n cap
  row : Own w0 w' e size g n cap xs
  grow : w.grownBy w' (some g)

theorem Own.below {w0 w w' : World} {e size g n cap : Nat} {xs : List Value} (h : Own w0 w e size g n cap xs) (hb : Below w.heap.size w w') : Own w0 w' e size g n cap xs :=
  ⟨h.own.kept (row := none) ⟨hb.os, hb.tape, hb.output, hb.size, fun k hk _ => hb.block k hk⟩ (by simp [Value.ownBlock]), below_tr h.bel hb⟩

theorem Own.lt {w0 w : World} {e size g n cap : Nat} {xs : List Value} (h : Own w0 w e size g n cap xs) : w0.heap.size ≤ g ∧ g < w.heap.size := h.own.lt g rfl

theorem Own.grown {w0 w w' : World} {e size g n m cap : Nat} {xs ys : List Value} (h : Own w0 w e size g n cap xs) (ho : w'.ownsRow w0.heap.size e size (.slice (some ⟨g, 0, none⟩) m cap) m ys) (hg : w.grownBy w' (some g)) : AppR w0 w e size g m cap ys (.slice (some ⟨g, 0, none⟩) m cap) w' :=
  ⟨rfl, ⟨ho, h.bel.grown hg h.bel.size (fun k hk => by injection hk with hk; subst hk; exact h.lt.1)⟩, hg⟩

theorem own_made (w : World) (e size cap : Nat) (cur : Array Value) (hm : cap ≤ maxLen) (hs : cur.size = cap * size) : Own w (w.alloc (.cells cur e)) e size w.heap.size 0 cap [] :=
  ⟨World.ownsRow_made w cur cap (Nat.le_refl _) hm hs, below_alloc _ _⟩

def strL (f : Nat → ByteArray) (n : Nat) : List Value := (List.range n).map fun j => .string (f j)
theorem strL_at {f : Nat → ByteArray} {n j : Nat} {u : Value} (h : (strL f n)[j]? = some u) : j < n ∧ u = .string (f j) := by
  unfold strL at h
  rw [List.getElem?_map] at h
  by_cases hj : j < n
  · rw [List.getElem?_range hj] at h
    exact ⟨hj, by simpa using h.symm⟩
  · rw [List.getElem?_eq_none (by simpa using hj)] at h
    simp at h
theorem strL_get (f : Nat → ByteArray) {n j : Nat} (h : j < n) : (strL f n)[j]? = some (.string (f j)) := by
  simp [strL, h]

theorem appS {w0 w : World} {g n cap : Nat} {xs : List Value} (h : Own w0 w 9 1 g n cap xs) {xa : Option Addr} {xb xo xn xc : Nat} {xf : Nat → ByteArray} (hx : StrAt w xa xb xo xn xf) (hnil : xa = none → xc = 0) (hn : n + xn ≤ cap) :
    ∀ ty, ∃ v' w', (Builtin.append_ #[29, 29] ty #[.slice (some ⟨g, 0, none⟩) n cap, .slice xa xn xc]).run Try.prog w = .ok v' w' ∧ AppR w0 w 9 1 g (n + xn) cap (xs ++ strL xf xn) v' w' := by
  intro ty
  have hi : (Try.prog.info? 9).map (fun i => (i.zero, i.size, i.bytes)) = some (some (.string ByteArray.empty), 1, 16) := by kernel_rfl
  obtain ⟨i0, hi, hz0, hz1, hz2⟩ := info_parts hi
  cases xa with
  | none =>
    obtain rfl := hnil rfl
    have hx0 : xn = 0 := by
      by_cases h0 : 0 < xn
      · have := hx.addr h0
        cases this
      · omega
    subst hx0
    have hr := run_append_owned_none (P := Try.prog) w w0.heap.size 29 ty 9 i0 1 Try.underlying29 hi _ n xs h.own
    refine ⟨_, w, hr, ⟨rfl, ?_, ⟨rfl, rfl, rfl, Nat.le_refl _, fun _ _ _ => rfl⟩⟩⟩
    simpa [strL] using h
  | some ad =>
    obtain ⟨w', hr, ho, hg⟩ := run_append_own_spare (P := Try.prog) w w0.heap.size 29 ty 9 i0 1 Try.underlying29 hi hz1 g n cap xs h.own ad xn xc (strL xf xn) (by simp [strL])
      (fun j u hu => by
        obtain ⟨hj, rfl⟩ := strL_at hu
        have ha := hx.addr (by omega)
        cases ha
        rw [Addr.add_lit]
        exact hx.c j hj)
      (fun u hu => by
        simp only [strL, List.mem_map] at hu
        obtain ⟨j, _, rfl⟩ := hu
        rfl) hn
    exact ⟨_, w', hr, h.grown ho hg⟩

theorem appO {w0 w : World} {g n cap : Nat} {xs : List Value} (h : Own w0 w 33 2 g n cap xs) (ad : Addr) (m c : Nat) (news : List Value) (hl : news.length = m * 2) (hnews : ∀ j u, news[j]? = some u → w.cell? (ad.add j) = some u) (h1 : ∀ u ∈ news, u.oneCell' = true) (hn : n + m ≤ cap) :
    ∀ ty, ∃ v' w', (Builtin.append_ #[25, 25] ty #[.slice (some ⟨g, 0, none⟩) n cap, .slice (some ad) m c]).run Try.prog w = .ok v' w' ∧ AppR w0 w 33 2 g (n + m) cap (xs ++ news) v' w' := by
  intro ty
  have hi : (Try.prog.info? 33).map (fun i => (i.zero, i.size, i.bytes)) = some (some (.agg #[.slice none 0 0, .slice none 0 0]), 2, 48) := by kernel_rfl
  obtain ⟨i0, hi, hz0, hz1, hz2⟩ := info_parts hi
  obtain ⟨w', hr, ho, hg⟩ := run_append_own_spare (P := Try.prog) w w0.heap.size 25 ty 33 i0 2 Try.underlying25 hi hz1 g n cap xs h.own ad m c news hl hnews h1 hn
  exact ⟨_, w', hr, h.grown ho hg⟩

theorem Own.str {w0 w : World} {g n cap : Nat} {xs : List Value} (h : Own w0 w 9 1 g n cap xs) {f : Nat → ByteArray} (hf : ∀ j, j < n → xs[j]? = some (.string (f j))) : StrAt w (some ⟨g, 0, none⟩) g 0 n f :=
  ⟨fun _ => rfl, fun j hj => by rw [Nat.zero_add, h.own.cellAt j (by omega)]; exact hf j hj⟩
theorem strL_twice (f : Nat → ByteArray) (n j : Nat) (hj : j < n + n) : ([] ++ strL f n ++ strL f n)[j]? = some (.string (if j < n then f j else f (j - n))) := by
  rw [List.nil_append, List.getElem?_append]
  simp only [strL, List.length_map, List.length_range]
  split
  · rename_i h
    simp [h]
  · rename_i h
    simp [show j - n < n by omega]

/-- the cells of outcomes -/
def cellF (A : Nat → Option Addr) (L : Nat → Nat) (j : Nat) : Value := if j % 2 = 0 then .slice (A (j / 2)) (L (j / 2)) (L (j / 2)) else .slice none 0 0
def rowL (A : Nat → Option Addr) (L : Nat → Nat) (k m : Nat) : List Value := (List.range (m * 2)).map fun j => cellF A L (k * 2 + j)
theorem rowL_get (A : Nat → Option Addr) (L : Nat → Nat) (k m j : Nat) : (rowL A L k m)[j]? = if j < m * 2 then some (cellF A L (k * 2 + j)) else none := by
  unfold rowL
  by_cases hj : j < m * 2
  · simp [hj]
  · rw [if_neg hj, List.getElem?_eq_none (by simpa using hj)]
theorem rowL_length (A : Nat → Option Addr) (L : Nat → Nat) (k m : Nat) : (rowL A L k m).length = m * 2 := by simp [rowL]
theorem rowL_one (A : Nat → Option Addr) (L : Nat → Nat) (k m : Nat) : ∀ u ∈ rowL A L k m, u.oneCell' = true := by
  intro u hu
  simp only [rowL, List.mem_map] at hu
  obtain ⟨j, _, rfl⟩ := hu
  unfold cellF
  split <;> rfl
theorem OutAt.cells {w : World} {a : Option Addr} {ob oo n : Nat} {A : Nat → Option Addr} {L EB EO : Nat → Nat} {F : Nat → Nat → ByteArray} (h : OutAt w a ob oo n A L L EB EO F) (k m : Nat) (hkm : k + m ≤ n) :
    ∀ j u, (rowL A L k m)[j]? = some u → w.cell? ((⟨ob, oo + k * 2, none⟩ : Addr).add j) = some u := by
  intro j u hu
  rw [rowL_get] at hu
  split at hu
  · injection hu with hu
    subst hu
    rw [Addr.add_lit]
    unfold cellF
    split
    · have := h.c ((k * 2 + j) / 2) (by omega)
      rwa [show oo + (k * 2 + j) / 2 * 2 = oo + k * 2 + j by omega] at this
    · have := h.d ((k * 2 + j) / 2) (by omega)
      rwa [show oo + (k * 2 + j) / 2 * 2 + 1 = oo + k * 2 + j by omega] at this
  · cases hu

/-- what stands after an insertion at c -/
def insF {α : Type} (A : Nat → α) (x : α) (c i : Nat) : α := if i < c then A i else if i = c then x else A (i - 1)

theorem ins_list (A : Nat → Option Addr) (L : Nat → Nat) (a : Option Addr) (l c n : Nat) (hc : c ≤ n) (j : Nat) (hj : j < (n + 1) * 2) :
    (rowL A L 0 c ++ rowL (fun _ => a) (fun _ => l) 0 1 ++ rowL A L c (n - c))[j]? = some (cellF (insF A a c) (insF L l c) j) := by
  rw [List.append_assoc, List.getElem?_append]
  simp only [rowL_length]
  split
  · rename_i h1
    rw [rowL_get, if_pos h1]
    simp only [cellF, Nat.zero_mul, Nat.zero_add, insF]
    rw [if_pos (show j / 2 < c by omega), if_pos (show j / 2 < c by omega)]
  · rename_i h1
    rw [List.getElem?_append]
    simp only [rowL_length]
    split
    · rename_i h2
      rw [rowL_get, if_pos h2]
      simp only [cellF, insF]
      rw [if_neg (show ¬ j / 2 < c by omega), if_neg (show ¬ j / 2 < c by omega), if_pos (show j / 2 = c by omega), if_pos (show j / 2 = c by omega)]
      congr 1
      rw [show (0 * 2 + (j - c * 2)) % 2 = j % 2 by omega]
    · rename_i h2
      rw [rowL_get, if_pos (by omega)]
      simp only [cellF, insF]
      rw [if_neg (show ¬ j / 2 < c by omega), if_neg (show ¬ j / 2 < c by omega), if_neg (show ¬ j / 2 = c by omega), if_neg (show ¬ j / 2 = c by omega)]
      rw [show (c * 2 + (j - c * 2 - 1 * 2)) % 2 = j % 2 by omega, show (c * 2 + (j - c * 2 - 1 * 2)) / 2 = j / 2 - 1 by omega]

theorem Own.out {w0 w : World} {g n cap : Nat} {xs : List Value} (h : Own w0 w 33 2 g n cap xs) {A : Nat → Option Addr} {L EB EO : Nat → Nat} {F : Nat → Nat → ByteArray} (hxs : ∀ j, j < n * 2 → xs[j]? = some (cellF A L j)) (hr : ∀ i, i < n → EvAt w (A i) (EB i) (EO i) (L i) (F i)) :
    OutAt w (some ⟨g, 0, none⟩) g 0 n A L L EB EO F := by
  refine ⟨fun _ => rfl, fun i hi => ?_, fun i hi => ?_, hr⟩
  · rw [Nat.zero_add, h.own.cellAt _ (by omega), hxs _ (by omega)]
    simp only [cellF]
    rw [if_pos (by omega), show i * 2 / 2 = i by omega]
  · rw [Nat.zero_add, h.own.cellAt _ (by omega), hxs _ (by omega)]
    simp only [cellF]
    rw [if_neg (by omega)]

theorem EvAt.grown {w w' : World} {a : Option Addr} {sb so n : Nat} {f : Nat → ByteArray} {r : Option Nat} (h : EvAt w a sb so n f) (hg : w.grownBy w' r) (hne : some sb ≠ r) : EvAt w' a sb so n f :=
  ⟨h.addr, fun j hj => hg.cell (h.c j hj) hne⟩

theorem ins_out {w0 w : World} {g g1 n c cap e l : Nat} {A : Nat → Option Addr} {L E EO : Nat → Nat} {F : Nat → Nat → ByteArray} {f : Nat → ByteArray} (hc : c ≤ n)
    (h : Own w0 w 33 2 g1 (0 + c + 1 + (n - c)) cap ([] ++ rowL A L 0 c ++ rowL (fun _ => some ⟨e, 0, none⟩) (fun _ => l) 0 1 ++ rowL A L c (n - c)))
    (hO : OutAt w0 (some ⟨g, 0, none⟩) g 0 n A L L E EO F) (hv : EvAt w (some ⟨e, 0, none⟩) e 0 l f) :
    OutAt w (some ⟨g1, 0, none⟩) g1 0 (n + 1) (insF A (some ⟨e, 0, none⟩) c) (insF L l c) (insF L l c) (insF E e c) (insF EO 0 c) (insF F f c) := by
  rw [show 0 + c + 1 + (n - c) = n + 1 by omega, List.nil_append] at h
  refine h.out (fun j hj => ins_list A L _ l c n hc j hj) fun i hi => ?_
  unfold insF
  split
  · exact (hO.r i (by omega)).below h.bel
  · split
    · exact hv
    · exact (hO.r (i - 1) (by omega)).below h.bel

theorem tail_run' (g n c : Nat) (hc : c ≤ n) : ∃ ad : Addr, (∀ W, (Instr.slice 25 (.slice (some ⟨g, 0, none⟩) n n) (some (.int .i64 c)) none none).run Try.prog W = .ok (.slice (some ad) (n - c) (n - c)) W) ∧ (0 < n - c → ad = ⟨g, c * 2, none⟩) := by
  refine ⟨if n = c then ⟨g, 0, none⟩ else ⟨g, c * 2, none⟩, fun W => ?_, fun h => by rw [if_neg (by omega)]⟩
  rw [run_slice_l W 25 _ n n (by kernel_rfl) .i64 c (by omega) (by omega)]
  have hsz : (sizeOf (Try.prog.elem 25)).run Try.prog W = .ok 2 W := by kernel_rfl
  rw [hsz]
  simp only [Result.andThen, sliced, Int.toNat_natCast, Option.map]
  by_cases hnc : n = c
  · simp [hnc]
  · simp only [hnc, if_false, Addr.add, Nat.zero_add]
    by_cases h0 : c * 2 = 0
    · rw [if_pos h0, h0]
    · rw [if_neg h0]

/-! counting -/
theorem hasF_iff {f : Nat → ByteArray} {s : ByteArray} : ∀ {n : Nat}, hasF f s n = true ↔ ∃ j, j < n ∧ ((f j).toList == s.toList) = true
  | 0 => by simp [hasF]
  | n + 1 => by
    constructor
    · intro h
      simp only [hasF, Bool.or_eq_true] at h
      rcases h with h | h
      · obtain ⟨j, hj, hj2⟩ := hasF_iff.1 h
        exact ⟨j, by omega, hj2⟩
      · exact ⟨n, by omega, h⟩
    · rintro ⟨j, hj, hj2⟩
      exact hasF_of hj2 hj
theorem hasF_twice (f : Nat → ByteArray) (s : ByteArray) (n : Nat) : hasF (fun j => if j < n then f j else f (j - n)) s (n + n) = hasF f s n := by
  rw [Bool.eq_iff_iff, hasF_iff, hasF_iff]
  constructor
  · rintro ⟨j, hj, h⟩
    by_cases hjn : j < n
    · simp only [hjn, if_true] at h; exact ⟨j, hjn, h⟩
    · simp only [hjn, if_false] at h; exact ⟨j - n, by omega, h⟩
  · rintro ⟨j, hj, h⟩
    exact ⟨j, by omega, by simpa only [hj, if_true] using h⟩
theorem cntF_congr {L L' : Nat → Nat} {F F' : Nat → Nat → ByteArray} {s : ByteArray} : ∀ {n : Nat}, (∀ i, i < n → hasF (F i) s (L i) = hasF (F' i) s (L' i)) → cntF L F s n = cntF L' F' s n
  | 0, _ => rfl
  | n + 1, h => by
    simp only [cntF]
    rw [cntF_congr (n := n) (fun i hi => h i (by omega)), h n (by omega)]
theorem cntF_ins (L : Nat → Nat) (F : Nat → Nat → ByteArray) (s : ByteArray) (l : Nat) (f : Nat → ByteArray) (n c : Nat) (hc : c ≤ n) :
    cntF (insF L l c) (insF F f c) s (n + 1) = cntF L F s n + if hasF f s l then 1 else 0 := by
  have h1 : cntF (insF L l c) (insF F f c) s c = cntF L F s c := cntF_congr fun i hi => by simp only [insF, hi, if_true]
  have h2 : cntF (fun i => insF L l c (c + 1 + i)) (fun i => insF F f c (c + 1 + i)) s (n - c) = cntF (fun i => L (c + i)) (fun i => F (c + i)) s (n - c) := cntF_congr fun i hi => by
    simp only [insF]
    rw [if_neg (by omega), if_neg (by omega), if_neg (by omega), if_neg (by omega), show c + 1 + i - 1 = c + i by omega]
  have h3 : cntF (insF L l c) (insF F f c) s (c + 1) = cntF L F s c + if hasF f s l then 1 else 0 := by
    show cntF (insF L l c) (insF F f c) s c + (if hasF (insF F f c c) s (insF L l c c) then 1 else 0) = _
    rw [h1]
    simp [insF]
  have h4 := cntF_split (insF L l c) (insF F f c) s (c + 1) (n - c)
  have h5 := cntF_split L F s c (n - c)
  rw [show c + 1 + (n - c) = n + 1 by omega, h3, h2] at h4
  rw [show c + (n - c) = n by omega] at h5
  omega
end Go.Proofs.Qxb6616141a
