/-
  OWN TEXT. priorIndexes: what it reads and leaves.
-/
import Derived.Test.Qxb6616141aCpu
import Derived.Test.Qxb6616141aTrd
import Derived.Test.Qxb6616141aDst
import Derived.Test.Qxb6616141aApp
import Derived.ArgAppend
namespace Go.Proofs.Qxb6616141a
open Go.RowKit
theorem compact_nil (w : World) : Calls Try.prog 42 #[.slice none 0 0, eqV] w fun e w' => e = .returned (.slice none 0 0) ∧ w' = w := by
  go_enter Try.func42, Try.ntmps42
  go_wp2
  go_ret
  exact ⟨rfl, rfl⟩
theorem Chg.below_or {F G : Nat → Prop} {w w' w'' : World} (h : Chg F w w') (k : Chg G w' w'') (hG : ∀ b, b < w.heap.size → G b → F b) : Chg F w w'' :=
  ⟨k.os.trans h.os, k.tape.trans h.tape, k.output.trans h.output, Nat.le_trans h.size k.size, fun b hb hn => (k.block b (Nat.lt_of_lt_of_le hb h.size) (fun q => hn (hG b hb q))).trans (h.block b hb hn)⟩
/-- one trace of the call's own: its record is l, in room for c -/
structure TrI (W : World) (rb i : Nat) (ch en : Bool) (a : Option Addr) (e c : Nat) (l : List E) : Prop where
  c0 : W.cell? ⟨rb, i * 3, none⟩ = some (.bool ch)
  c1 : W.cell? ⟨rb, i * 3 + 1, none⟩ = some (.bool en)
  c2 : W.cell? ⟨rb, i * 3 + 2, none⟩ = some (.slice (bO a e) l.length c)
  fz : W.frozen? ⟨rb, i * 3 + 2, none⟩ = false
  nil : a = none → l = [] ∧ c = 0
  row : a ≠ none → e < W.heap.size ∧ ∃ zs, PR W e l.length zs ∧ seg zs 0 l.length = l
section
variable {W W' : World} {rb i : Nat} {ch en : Bool} {a : Option Addr} {e c : Nat} {l : List E} {F : Nat → Prop}
theorem TrI.keep (h : TrI W rb i ch en a e c l) (hc : Chg F W W') (h1 : ¬ F rb) (h2 : a ≠ none → ¬ F e) : TrI W' rb i ch en a e c l := by
  have hlt := World.block_lt_of_cell? W _ h.c0
  refine ⟨hc.cell h.c0 h1, hc.cell h.c1 h1, hc.cell h.c2 h1, (World.frozen?_of_block (w := W) (hc.block rb hlt h1)).trans h.fz, h.nil, fun q => ?_⟩
  obtain ⟨r1, zs, r2, r3⟩ := h.row q
  exact ⟨Nat.lt_of_lt_of_le r1 hc.size, zs, r2.keep hc (h2 q) r1, r3⟩
theorem TrI.set (h : TrI W rb i ch en a e c l) {j : Nat} (hne : i ≠ j) (her : a ≠ none → e ≠ rb) (v : Value) : TrI (W.setCell ⟨rb, j * 3 + 2, none⟩ v) rb i ch en a e c l := by
  refine ⟨?_, ?_, ?_, by rw [World.frozen?_setCell]; exact h.fz, h.nil, fun q => ?_⟩
  · rw [World.cell?_setCell_other _ _ _ _ (by rw [ne_eq, Addr.mk.injEq]; omega)]; exact h.c0
  · rw [World.cell?_setCell_other _ _ _ _ (by rw [ne_eq, Addr.mk.injEq]; omega)]; exact h.c1
  · rw [World.cell?_setCell_other _ _ _ _ (by rw [ne_eq, Addr.mk.injEq]; omega)]; exact h.c2
  · obtain ⟨r1, zs, r2, r3⟩ := h.row q
    exact ⟨by rw [heap_setCell_size]; exact r1, zs, r2.other (her q) (j * 3 + 2) [v], r3⟩
theorem TrI.put (h : TrI W rb i ch en a e c l) {l' : List E} (hn : a = none → l' = [] ∧ c = 0) (hr : a ≠ none → e < W'.heap.size ∧ e ≠ rb ∧ ∃ zs, PR W' e l'.length zs ∧ seg zs 0 l'.length = l') (h1 : ¬ F rb) (hc : Chg F W W') :
    TrI (W'.setCell ⟨rb, i * 3 + 2, none⟩ (.slice (bO a e) l'.length c)) rb i ch en a e c l' := by
  have hlt := World.block_lt_of_cell? W _ h.c0
  have x0 := hc.cell h.c0 h1
  have x1 := hc.cell h.c1 h1
  have x2 := hc.cell h.c2 h1
  have x3 := (World.frozen?_of_block (a := ⟨rb, i * 3 + 2, none⟩) (w := W) (hc.block rb hlt h1)).trans h.fz
  refine ⟨?_, ?_, World.cell?_setCell_same _ _ _ x2, by rw [World.frozen?_setCell]; exact x3, hn, fun q => ?_⟩
  · rw [World.cell?_setCell_other _ _ _ _ (by rw [ne_eq, Addr.mk.injEq]; omega)]; exact x0
  · rw [World.cell?_setCell_other _ _ _ _ (by rw [ne_eq, Addr.mk.injEq]; omega)]; exact x1
  · obtain ⟨r1, r0, zs, r2, r3⟩ := hr q
    exact ⟨by rw [heap_setCell_size]; exact r1, zs, r2.other r0 (i * 3 + 2) [_], r3⟩
end
/-- the tables -/
structure TabAt (w : World) (a : Option Addr) (tb o5 m : Nat) (R : Nat → Nat) : Prop where
  addr : 0 < m → a = some ⟨tb, o5, none⟩
  c0 : ∀ i, i < m → w.cell? ⟨tb, o5 + i * 5, none⟩ = some (.pointer (some ⟨R i, 0, none⟩))
  c1 : ∀ i, i < m → w.cell? ⟨tb, o5 + i * 5 + 1, none⟩ = some (.int .u64 0)
  c2 : ∀ i, i < m → w.cell? ⟨tb, o5 + i * 5 + 2, none⟩ = some (.pointer none)
theorem TabAt.keep {w w' : World} {a : Option Addr} {tb o5 m : Nat} {R : Nat → Nat} {F : Nat → Prop} (h : TabAt w a tb o5 m R) (hc : Chg F w w') (h1 : ¬ F tb) : TabAt w' a tb o5 m R :=
  ⟨h.addr, fun i hi => hc.cell (h.c0 i hi) h1, fun i hi => hc.cell (h.c1 i hi) h1, fun i hi => hc.cell (h.c2 i hi) h1⟩
/-- the cells of an index that is appended -/
def pixF (R : Nat → Nat) (A : Nat → Option Addr) (EB L : Nat → Nat) (l0 : Nat → List E) (i : Nat) : List Value :=
  [.pointer (some ⟨R i, 0, none⟩), .int .u64 0, .pointer none, .slice (bO (A i) (EB i)) (fstK (l0 i)).length (L i)]
def newR (R : Nat → Nat) (A : Nat → Option Addr) (EB L : Nat → Nat) (l0 : Nat → List E) (c : Nat) : Nat → List Value
  | 0 => []
  | j + 1 => newR R A EB L l0 c j ++ pixF R A EB L l0 (c + j)
def lj (l0 : Nat → List E) (c j i : Nat) : List E := if c ≤ i ∧ i < c + j then fstK (l0 i) else l0 i
theorem info58' : (Try.prog.info? 58).map (fun i => (i.zero, i.size, i.bytes)) = some (some (.agg #[.pointer none, .int .u64 0, .pointer none, .slice none 0 0]), 4, 48) := info58
theorem ownsRow_base {w : World} {base base' : Nat} {e : TypeId} {size : Nat} {v : Value} {n : Nat} {xs : List Value} (h : w.ownsRow base e size v n xs) (hb : base' ≤ base) : w.ownsRow base' e size v n xs := by
  refine ⟨h.1, ?_⟩
  rcases h.2 with q | ⟨g, cap, cur, h1, h2, h3⟩
  · exact .inl q
  · exact .inr ⟨g, cap, cur, h1, Nat.le_trans hb h2, h3⟩
structure AppD (w : World) (base : Nat) (v : Value) (n : Nat) (xs : List Value) (v' : Value) (w' : World) : Prop where
  own : w'.ownsRow base 58 4 v' n xs
  grow : w.grownBy w' v.ownBlock
  blk : v'.ownBlock = v.ownBlock ∨ ∃ k, v'.ownBlock = some k ∧ w.heap.size ≤ k
theorem appD {w : World} {base : Nat} {v : Value} {n : Nat} {xs : List Value} (h : w.ownsRow base 58 4 v n xs) (hb : base ≤ w.heap.size) (hn : n ≤ 100000) (a : Addr) (news : List Value) (hl : news.length = 1 * 4) (hnews : ∀ j u, news[j]? = some u → w.cell? (a.add j) = some u) (h1 : ∀ u ∈ news, u.oneCell' = true) :
    ∀ ty, ∃ v' w', (Builtin.append_ #[43, 43] ty #[v, .slice (some a) 1 1]).run Try.prog w = .ok v' w' ∧ AppD w base v (n + 1) (xs ++ news) v' w' := by
  intro ty
  obtain ⟨i0, hi, hz0, hz1, hz2⟩ := info_parts info58
  have hmax : n + 1 ≤ maxLen := by simp only [maxLen]; omega
  have fresh : ∀ v' (w' : World), w'.ownsRow w.heap.size 58 4 v' (n + 1) (xs ++ news) → w.grownBy w' none → AppD w base v (n + 1) (xs ++ news) v' w' := fun v' w' ho hg =>
    ⟨ownsRow_base ho hb, ⟨hg.os, hg.tape, hg.output, hg.size, fun k hk _ => hg.block k hk (by simp)⟩, .inr (by
      rcases ho.2 with ⟨_, q⟩ | ⟨g, cap, cur, q1, q2, _⟩
      · omega
      · subst q1; exact ⟨g, rfl, q2⟩)⟩
  rcases hv : h.2 with ⟨q1, q2⟩ | ⟨g, cap, cur, q1, q2, q3, q4, q5, q6, q7⟩
  · subst q1 q2
    have hx : xs = [] := List.eq_nil_of_length_eq_zero (by simpa using h.1)
    subst hx
    obtain ⟨v', w', hr, ho, hg, _⟩ := run_append_own (P := Try.prog) w w.heap.size 43 ty 58 i0 _ 4 48 Try.underlying43 hi hz0 hz1 hz2 rfl (by omega) (.slice none 0 0) 0 [] (World.ownsRow_nil w _ _ _) a 1 1 news hl hnews h1 hmax (by omega) (Nat.le_refl _)
    exact ⟨v', w', hr, fresh v' w' ho (by simpa [Value.ownBlock] using hg)⟩
  · subst q1
    by_cases hroom : n + 1 ≤ cap
    · obtain ⟨w', hr, ho, hg⟩ := run_append_own_spare (P := Try.prog) w base 43 ty 58 i0 4 Try.underlying43 hi hz1 g n cap xs h a 1 1 news hl hnews h1 hroom
      exact ⟨_, w', hr, ⟨ho, hg, .inl rfl⟩⟩
    · obtain ⟨v', w', hr, ho, hg⟩ := run_append_arg_grows (P := Try.prog) w 43 ty 58 i0 _ 4 48 Try.underlying43 hi hz0 hz1 hz2 rfl (by omega) ⟨g, 0, none⟩ n cap xs h.1 (h.cells (g := g) rfl) a 1 1 news hl hnews (by omega) hmax (by omega)
      exact ⟨v', w', hr, fresh v' w' ho hg⟩
/-- nothing shares a block -/
structure Dis (w : World) (rb tb N : Nat) (EB : Nat → Nat) (dv : Value) : Prop where
  inj : ∀ i j, i < N → j < N → i ≠ j → EB i ≠ EB j
  er : ∀ i, i < N → EB i ≠ rb
  et : ∀ i, i < N → EB i ≠ tb
  rt : rb ≠ tb
  rl : rb < w.heap.size
  tl : tb < w.heap.size
  el : ∀ i, i < N → EB i < w.heap.size
  d : ∀ k, dv.ownBlock = some k → k ≠ rb ∧ k ≠ tb ∧ ∀ i, i < N → k ≠ EB i
def PixCh (rb N : Nat) (EB : Nat → Nat) (dv : Value) (k : Nat) : Prop := k = rb ∨ (∃ i, i < N ∧ k = EB i) ∨ dv.ownBlock = some k
/-- what stands between two tables -/
structure Pix (w : World) (base : Nat) (rb N : Nat) (CH EN : Nat → Bool) (A : Nat → Option Addr) (EB L R : Nat → Nat) (l0 : Nat → List E) (dv : Value) (n0 : Nat) (ds : List Value) (c j : Nat) (v : Value) (wr : World) : Prop where
  tr : ∀ i, i < N → TrI wr rb i (CH i) (EN i) (A i) (EB i) (L i) (lj l0 c j i)
  own : wr.ownsRow base 58 4 v (n0 + j) (ds ++ newR R A EB L l0 c j)
  chg : Chg (PixCh rb N EB dv) w wr
  blk : v.ownBlock = dv.ownBlock ∨ ∃ k, v.ownBlock = some k ∧ w.heap.size ≤ k
section
variable {w wr W2 W3 W4 : World} {base rb tb N : Nat} {CH EN : Nat → Bool} {A : Nat → Option Addr} {EB L R : Nat → Nat} {l0 : Nat → List E} {dv v v' : Value} {n0 : Nat} {ds : List Value} {c j : Nat}
theorem Pix.vne (h : Pix w base rb N CH EN A EB L R l0 dv n0 ds c j v wr) (hd : Dis w rb tb N EB dv) : ∀ k, v.ownBlock = some k → k ≠ rb ∧ k ≠ tb ∧ ∀ i, i < N → k ≠ EB i := fun k hk => by
  rcases h.blk with q | ⟨k', q1, q2⟩
  · exact hd.d k (by rw [← q]; exact hk)
  · rw [q1] at hk
    injection hk with hk
    subst hk
    have r1 := hd.rl
    have r2 := hd.tl
    exact ⟨by omega, by omega, fun i hi => by have := hd.el i hi; omega⟩
theorem lj_at (l0 : Nat → List E) (c j : Nat) : lj l0 c j (c + j) = l0 (c + j) := by unfold lj; rw [if_neg (by omega)]
theorem lj_next (l0 : Nat → List E) (c j i : Nat) (h : i ≠ c + j) : lj l0 c (j + 1) i = lj l0 c j i := by
  unfold lj
  by_cases q : c ≤ i ∧ i < c + j
  · rw [if_pos q, if_pos (by omega)]
  · rw [if_neg q, if_neg (by omega)]
theorem lj_new (l0 : Nat → List E) (c j : Nat) : lj l0 c (j + 1) (c + j) = fstK (l0 (c + j)) := by unfold lj; rw [if_pos (by omega)]
/-- W2: sorted and compacted; W3: the trace stored, and new blocks; W4: appended -/
theorem Pix.step (h : Pix w base rb N CH EN A EB L R l0 dv n0 ds c j v wr) (hd : Dis w rb tb N EB dv) (hcj : c + j < N) (hc2 : Chg (fun k => k = EB (c + j)) wr W2)
    (hr : A (c + j) ≠ none → ∃ zs, PR W2 (EB (c + j)) (fstK (l0 (c + j))).length zs ∧ seg zs 0 (fstK (l0 (c + j))).length = fstK (l0 (c + j)))
    (hb3 : Below (W2.setCell ⟨rb, (c + j) * 3 + 2, none⟩ (.slice (bO (A (c + j)) (EB (c + j))) (fstK (l0 (c + j))).length (L (c + j)))).heap.size (W2.setCell ⟨rb, (c + j) * 3 + 2, none⟩ (.slice (bO (A (c + j)) (EB (c + j))) (fstK (l0 (c + j))).length (L (c + j)))) W3)
    (h4 : AppD W3 base v (n0 + j + 1) (ds ++ newR R A EB L l0 c j ++ pixF R A EB L l0 (c + j)) v' W4) :
    Pix w base rb N CH EN A EB L R l0 dv n0 ds c (j + 1) v' W4 := by
  have her := hd.er (c + j) hcj
  have hvn := h.vne hd
  have hsz2 : W2.heap.size ≤ W3.heap.size := by have := hb3.size; rwa [heap_setCell_size] at this
  have hc3 : Chg (fun _ => False) (W2.setCell ⟨rb, (c + j) * 3 + 2, none⟩ (.slice (bO (A (c + j)) (EB (c + j))) (fstK (l0 (c + j))).length (L (c + j)))) W3 := Chg.of_below hb3
  have hc4 : Chg (fun k => v.ownBlock = some k) W3 W4 := ⟨h4.grow.os, h4.grow.tape, h4.grow.output, h4.grow.size, fun k hk hn => h4.grow.block k hk (fun e => hn e.symm)⟩
  have hv0 : ¬ v.ownBlock = some rb := fun q => (hvn rb q).1 rfl
  refine ⟨fun i hi => ?_, ?_, ?_, ?_⟩
  · have hiv : ¬ v.ownBlock = some (EB i) := fun q => (hvn (EB i) q).2.2 i hi rfl
    by_cases hic : i = c + j
    · subst hic
      rw [lj_new]
      have hti := h.tr (c + j) hi
      refine ((hti.put (l' := fstK (l0 (c + j))) (F := fun k => k = EB (c + j)) (W' := W2) (fun q => ?_) (fun q => ?_) (fun q => her q.symm) hc2).keep hc3 (fun x => x) (fun _ x => x)).keep hc4 hv0 (fun _ => hiv)
      · have := hti.nil q
        rw [lj_at] at this
        rw [this.1]
        exact ⟨rfl, this.2⟩
      · exact ⟨Nat.lt_of_lt_of_le (hti.row q).1 hc2.size, her, hr q⟩
    · rw [lj_next _ _ _ _ hic]
      have hti := h.tr i hi
      have hei := hd.inj i (c + j) hi hcj hic
      exact (((hti.keep hc2 (fun q => her q.symm) (fun _ q => hei q)).set hic (fun _ => hd.er i hi) _).keep hc3 (fun x => x) (fun _ x => x)).keep hc4 hv0 (fun _ => hiv)
  · rw [show n0 + (j + 1) = n0 + j + 1 by omega]
    have := h4.own
    rw [List.append_assoc] at this
    exact this
  · have hw : w.heap.size ≤ wr.heap.size := h.chg.size
    refine (((h.chg.tr (hc2.mono fun k hk q => .inr (.inl ⟨c + j, hcj, q⟩))).tr ((chg_setCell rb ((c + j) * 3 + 2) _ W2).mono fun k hk q => .inl q)).tr (hc3.mono fun k hk q => q.elim)).below_or hc4 fun k hk q => ?_
    rcases h.blk with r | ⟨k', r1, r2⟩
    · exact .inr (.inr (by rw [← r]; exact q))
    · rw [r1] at q; injection q with q; omega
  · rcases h4.blk with q | ⟨k, q1, q2⟩
    · rw [q]; exact h.blk
    · exact .inr ⟨k, q1, by have := h.chg.size; have := hc2.size; omega⟩
end
end Go.Proofs.Qxb6616141a
