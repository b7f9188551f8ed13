/-
  OWN TEXT. The model's log of resolutions: where it lies in memory; logAdd, remembered.
-/
import Derived.Test.Qxb6616074aRead4
import Derived.Deep.RegionLaw
import Derived.Deep.DeepCutAuto
import Derived.Deep.Cut
import Derived.Great.BuildSlice
namespace Go.Proofs.Qxb6616074a
open Go.RowKit Go.MapKept Go.ChangeMaps

/-- what one append leaves -/
def App1 (w : World) (v : Value) (n : Nat) (xs : List Value) (u : Value) (v' : Value) (w' : World) : Prop :=
  SliceAt w' v' 1 (n + 1) (xs ++ [u]) ∧ Chg (fun k => v.ownBlock = some k) w w' ∧ ∀ k ∈ vblk v', k ∈ vblk v ∨ w.heap.size ≤ k

theorem app_one (w : World) (t e : TypeId) (i0 : TypeInfo) (z : Value) (bytes : Nat) (ht : Try.prog.underlying t = some (.slice e)) (hi : Try.prog.info? e = some i0) (hz : i0.zero = some z) (hs : i0.size = 1) (hb : i0.bytes = bytes) (hzs : z.cells.size = 1) (hby : bytes ≤ 16)
    (v : Value) (n : Nat) (xs : List Value) (u : Value) (hS : SliceAt w v 1 n xs) (hu : u.oneCell' = true) (hn : n < 10000000) :
    ∃ v' w', (Builtin.append_ #[t, t] t #[v, .slice (some ⟨w.heap.size, 0, none⟩) 1 1]).run Try.prog (w.alloc (.cells #[u] e)).drew = .ok v' w' ∧ App1 w v n xs u v' w' := by
  have hS' : SliceAt (w.alloc (.cells #[u] e)).drew v 1 n xs := hS.kept (F := fun _ => False) ((chg_alloc _ _ _).drew) (fun _ _ x => x)
  have hbb : (n + 1) * bytes ≤ 140737488355328 := Nat.le_trans (Nat.mul_le_mul_left _ hby) (by omega)
  obtain ⟨v', w', hrun, r1, r2, r3⟩ := run_append_slice (P := Try.prog) _ t t e i0 z 1 bytes ht hi hz hs hb hzs (by decide) v n xs hS' ⟨w.heap.size, 0, none⟩ 1 1 [u] (by decide) rfl
    (by
      intro j x hx
      rw [Addr.add_lit]
      show (w.alloc _).cell? _ = _
      rw [cell_new rfl, Nat.zero_add]
      simpa using hx)
    (by intro x hx; simp at hx; rw [hx]; exact hu) (by unfold maxLen; omega) hbb
  refine ⟨v', w', hrun, r1, (((Chg.refl (fun k => v.ownBlock = some k) w).alloc _).drew).tr r2, ?_⟩
  intro k hk
  rcases r3 with ⟨g, off, cap, rfl, rfl⟩ | ⟨g, cap, rfl, h2⟩
  · exact .inl hk
  · simp [vblk] at hk
    subst hk
    exact .inr (Nat.le_trans (by simp) h2)

def updN {α : Type} (f : Nat → α) (j : Nat) (x : α) : Nat → α := fun i => if i = j then x else f i
theorem updN_same {α : Type} (f : Nat → α) (j : Nat) (x : α) : updN f j x j = x := by simp [updN]
theorem updN_other {α : Type} (f : Nat → α) {j i : Nat} (x : α) (h : i ≠ j) : updN f j x i = f i := by simp [updN, h]

/-- three rows and a map behind the four cells of block b -/
structure RL (w : World) (b : Nat) (V : Nat → Value) (n : Nat → Nat) (xs : Nat → List Value) (r : Nat) (f : ByteArray → Option Nat) (nl : Nat) : Prop where
  c : ∀ j, j < 3 → w.cell? ⟨b, j, none⟩ = some (V j)
  fz : ∀ j, j < 3 → w.frozen? ⟨b, j, none⟩ = false
  s : ∀ j, j < 3 → SliceAt w (V j) 1 (n j) (xs j)
  nb : ∀ j, j < 3 → ∀ k ∈ vblk (V j), k ≠ b ∧ k ≠ r
  ap : ∀ i j, i < 3 → j < 3 → i ≠ j → ∀ k ∈ vblk (V i), k ∉ vblk (V j)
  c3 : w.cell? ⟨b, 3, none⟩ = some (.map (some r))
  f3 : w.frozen? ⟨b, 3, none⟩ = false
  rb : r ≠ b
  m : MapAt w r natV f nl

def blkR (V : Nat → Value) (r : Nat) : List Nat := r :: (vblk (V 0) ++ vblk (V 1) ++ vblk (V 2))
theorem mem_blkR {V : Nat → Value} {r j k : Nat} (hj : j < 3) (h : k ∈ vblk (V j)) : k ∈ blkR V r := by
  simp only [blkR, List.mem_cons, List.mem_append]
  match j, hj with
  | 0, _ => exact .inr (.inl (.inl h))
  | 1, _ => exact .inr (.inl (.inr h))
  | 2, _ => exact .inr (.inr h)
theorem of_blkR {V : Nat → Value} {r k : Nat} (h : k ∈ blkR V r) : k = r ∨ ∃ j, j < 3 ∧ k ∈ vblk (V j) := by
  simp only [blkR, List.mem_cons, List.mem_append] at h
  rcases h with h | (h | h) | h
  · exact .inl h
  · exact .inr ⟨0, by omega, h⟩
  · exact .inr ⟨1, by omega, h⟩
  · exact .inr ⟨2, by omega, h⟩

theorem slice_blk_lt {w : World} {v : Value} {n : Nat} {xs : List Value} (h : SliceAt w v 1 n xs) {k : Nat} (hk : k ∈ vblk v) : k < w.heap.size := slice_lt h k hk

section
variable {w w' : World} {b : Nat} {V : Nat → Value} {n : Nat → Nat} {xs : Nat → List Value} {r : Nat} {f : ByteArray → Option Nat} {nl : Nat}

theorem RL.lt (h : RL w b V n xs r f nl) : b < w.heap.size := World.block_lt_of_cell? w _ h.c3
theorem RL.lts (h : RL w b V n xs r f nl) : ∀ k ∈ blkR V r, k < w.heap.size ∧ k ≠ b := by
  intro k hk
  rcases of_blkR hk with rfl | ⟨j, hj, hk⟩
  · exact ⟨h.m.lt, h.rb⟩
  · exact ⟨slice_blk_lt (h.s j hj) hk, (h.nb j hj k hk).1⟩
theorem RL.frame {G : Nat → Prop} (h : RL w b V n xs r f nl) (hc : Chg G w w') (hb : ¬ G b) (hG : ∀ k ∈ blkR V r, ¬ G k) : RL w' b V n xs r f nl :=
  ⟨fun j hj => (hc.cells h.lt hb j).trans (h.c j hj), fun j hj => (hc.frozens h.lt hb j).trans (h.fz j hj), fun j hj => (h.s j hj).kept hc (fun k hk => hG k (mem_blkR hj (vblk_own hk))), h.nb, h.ap,
    (hc.cells h.lt hb 3).trans h.c3, (hc.frozens h.lt hb 3).trans h.f3, h.rb, h.m.kept hc (hG r (by simp [blkR]))⟩

theorem RL.set (h : RL w b V n xs r f nl) {j : Nat} (hj : j < 3) {u v' : Value} (hA : App1 w (V j) (n j) (xs j) u v' w') :
    RL (w'.setCell ⟨b, j, none⟩ v') b (updN V j v') (updN n j (n j + 1)) (updN xs j (xs j ++ [u])) r f nl ∧ Chg (fun k => k = b ∨ k ∈ blkR V r) w (w'.setCell ⟨b, j, none⟩ v') ∧ ∀ k ∈ blkR (updN V j v') r, k ∈ blkR V r ∨ w.heap.size ≤ k := by
  obtain ⟨h1, h2, h3⟩ := hA
  have hown : ∀ k, (V j).ownBlock = some k → k ∈ vblk (V j) := fun k hk => vblk_own hk
  have hnb : ¬ (V j).ownBlock = some b := fun e => (h.nb j hj b (hown b e)).1 rfl
  have hnr : ¬ (V j).ownBlock = some r := fun e => (h.nb j hj r (hown r e)).2 rfl
  have hcs : Chg (fun k => k = b) w' (w'.setCell ⟨b, j, none⟩ v') := (Chg.refl (fun k => k = b) w').setCell (a := ⟨b, j, none⟩) (fun _ => rfl) _
  have hlt' : b < w'.heap.size := Nat.lt_of_lt_of_le h.lt h2.size
  have hcell : ∀ i, w'.cell? ⟨b, i, none⟩ = w.cell? ⟨b, i, none⟩ := fun i => h2.cells h.lt hnb i
  have hfr : ∀ i, w'.frozen? ⟨b, i, none⟩ = w.frozen? ⟨b, i, none⟩ := fun i => h2.frozens h.lt hnb i
  have hv'b : ∀ k ∈ vblk v', k ≠ b ∧ k ≠ r ∧ ∀ i, i < 3 → i ≠ j → k ∉ vblk (V i) := by
    intro k hk
    rcases h3 k hk with hk | hk
    · exact ⟨(h.nb j hj k hk).1, (h.nb j hj k hk).2, fun i hi hij => h.ap j i hj hi (Ne.symm hij) k hk⟩
    · have hlb := h.lt
      have hlr := h.m.lt
      refine ⟨by omega, by omega, fun i hi hij hk2 => ?_⟩
      have := slice_blk_lt (h.s i hi) hk2
      omega
  refine ⟨⟨?_, ?_, ?_, ?_, ?_, ?_, ?_, h.rb, ?_⟩, ?_, ?_⟩
  · intro i hi
    by_cases hij : i = j
    · subst hij
      rw [updN_same]
      exact World.cell?_setCell_same _ _ _ ((hcell i).trans (h.c i hi))
    · rw [updN_other _ _ hij, World.cell?_setCell_other _ _ _ _ (by rw [ne_eq, Addr.mk.injEq]; omega), hcell]
      exact h.c i hi
  · intro i hi
    rw [World.frozen?_setCell, hfr]
    exact h.fz i hi
  · intro i hi
    by_cases hij : i = j
    · subst hij
      rw [updN_same, updN_same, updN_same]
      exact h1.kept hcs (fun k hk => (hv'b k (vblk_own hk)).1)
    · rw [updN_other _ _ hij, updN_other _ _ hij, updN_other _ _ hij]
      exact ((h.s i hi).kept h2 (fun k hk hk2 => h.ap i j hi hj hij k (vblk_own hk) (vblk_own hk2))).kept hcs (fun k hk => (h.nb i hi k (vblk_own hk)).1)
  · intro i hi k hk
    by_cases hij : i = j
    · subst hij
      rw [updN_same] at hk
      exact ⟨(hv'b k hk).1, (hv'b k hk).2.1⟩
    · rw [updN_other _ _ hij] at hk
      exact h.nb i hi k hk
  · intro i i2 hi hi2 hne k hk hk2
    by_cases hij : i = j
    · subst hij
      rw [updN_same] at hk
      rw [updN_other _ _ (Ne.symm hne)] at hk2
      exact (hv'b k hk).2.2 i2 hi2 (Ne.symm hne) hk2
    · rw [updN_other _ _ hij] at hk
      by_cases hij2 : i2 = j
      · subst hij2
        rw [updN_same] at hk2
        exact (hv'b k hk2).2.2 i hi hij hk
      · rw [updN_other _ _ hij2] at hk2
        exact h.ap i i2 hi hi2 hne k hk hk2
  · rw [World.cell?_setCell_other _ _ _ _ (by rw [ne_eq, Addr.mk.injEq]; omega), hcell]
    exact h.c3
  · rw [World.frozen?_setCell, hfr]
    exact h.f3
  · exact (h.m.kept h2 hnr).kept hcs h.rb
  · refine (h2.mono (G := fun k => k = b ∨ k ∈ blkR V r) (fun k _ e => .inr (mem_blkR hj (hown k e)))).tr (hcs.mono (fun k _ e => .inl e))
  · intro k hk
    rcases of_blkR hk with rfl | ⟨i, hi, hk⟩
    · exact .inl (by simp [blkR])
    · by_cases hij : i = j
      · subst hij
        rw [updN_same] at hk
        rcases h3 k hk with hk | hk
        · exact .inl (mem_blkR hi hk)
        · exact .inr hk
      · rw [updN_other _ _ hij] at hk
        exact .inl (mem_blkR hi hk)

theorem RL.setMap (h : RL w b V n xs r f nl) (hc : Chg (fun k => k = r) w w') {f' : ByteArray → Option Nat} {nl' : Nat} (hM : MapAt w' r natV f' nl') : RL w' b V n xs r f' nl' :=
  ⟨fun j hj => (hc.cells h.lt (Ne.symm h.rb) j).trans (h.c j hj), fun j hj => (hc.frozens h.lt (Ne.symm h.rb) j).trans (h.fz j hj), fun j hj => (h.s j hj).kept hc (fun k hk => (h.nb j hj k (vblk_own hk)).2), h.nb, h.ap,
    (hc.cells h.lt (Ne.symm h.rb) 3).trans h.c3, (hc.frozens h.lt (Ne.symm h.rb) 3).trans h.f3, h.rb, hM⟩
theorem RL.congr (h : RL w b V n xs r f nl) {V' : Nat → Value} {n' : Nat → Nat} {xs' : Nat → List Value} {f' : ByteArray → Option Nat} (hV : ∀ j, j < 3 → V j = V' j) (hn : ∀ j, j < 3 → n j = n' j) (hx : ∀ j, j < 3 → xs j = xs' j) (hf : ∀ t, f t = f' t) : RL w b V' n' xs' r f' nl := by
  obtain rfl : f = f' := funext hf
  exact ⟨fun j hj => by rw [← hV j hj]; exact h.c j hj, h.fz, fun j hj => by rw [← hV j hj, ← hn j hj, ← hx j hj]; exact h.s j hj, fun j hj => by rw [← hV j hj]; exact h.nb j hj, fun i j hi hj => by rw [← hV j hj, ← hV i hi]; exact h.ap i j hi hj, h.c3, h.f3, h.rb, h.m⟩
end

def colV (j : Nat) (e : EntD) : Value := if j = 0 then .string e.2.1 else if j = 1 then .int .u64 e.2.2 else .int .u8 e.1
def colL (R : Resn) (N j : Nat) : List Value := (List.range N).map fun i => colV j (R i)
theorem colL_ext (R : Resn) (N j : Nat) (e : EntD) : colL (ext R N e) (N + 1) j = colL R N j ++ [colV j e] := by
  simp only [colL, List.range_succ, List.map_append, List.map_cons, List.map_nil, ext_at]
  congr 1
  exact List.map_congr_left fun i hi => by rw [ext_lt (List.mem_range.1 hi)]
theorem colL_get (R : Resn) {N i : Nat} (j : Nat) (h : i < N) : (colL R N j)[i]? = some (colV j (R i)) := by simp [colL, h]

/-- the whole log R of N resolutions lies behind block b; G: the blocks that it owns -/
def RS (w : World) (b : Nat) (G : List Nat) (R : Resn) (N : Nat) : Prop := ∃ V r nl, RL w b V (fun _ => N) (colL R N) r (fun t => lastOf R t N) nl ∧ G = blkR V r
theorem RS.frame {w w' : World} {b : Nat} {G : List Nat} {R : Resn} {N : Nat} (h : RS w b G R N) {Q : Nat → Prop} (hc : Chg Q w w') (hb : ¬ Q b) (hG : ∀ k ∈ G, ¬ Q k) : RS w' b G R N := by
  obtain ⟨V, r, nl, h, rfl⟩ := h
  exact ⟨V, r, nl, h.frame hc hb hG, rfl⟩
theorem RS.lt {w : World} {b : Nat} {G : List Nat} {R : Resn} {N : Nat} (h : RS w b G R N) : b < w.heap.size := by
  obtain ⟨V, r, nl, h, rfl⟩ := h
  exact h.lt
theorem RS.lts {w : World} {b : Nat} {G : List Nat} {R : Resn} {N : Nat} (h : RS w b G R N) : ∀ k ∈ G, k < w.heap.size ∧ k ≠ b := by
  obtain ⟨V, r, nl, h, rfl⟩ := h
  exact h.lts

theorem RL.blkV {w : World} {b : Nat} {V : Nat → Value} {n : Nat → Nat} {xs : Nat → List Value} {r : Nat} {f : ByteArray → Option Nat} {nl : Nat} (h : RL w b V n xs r f nl) {j : Nat} (hj : j < 3) : ∃ a c, V j = .slice a (n j) c := (h.s j hj).len

theorem info9 : (Try.prog.info? 9).map (fun i => (i.zero, i.size, i.bytes)) = some (some (.string { data := #[] }), 1, 16) := by kernel_rfl
theorem info28 : (Try.prog.info? 28).map (fun i => (i.zero, i.size, i.bytes)) = some (some (.int .u64 0), 1, 8) := by kernel_rfl
theorem info5 : (Try.prog.info? 5).map (fun i => (i.zero, i.size, i.bytes)) = some (some (.int .u8 0), 1, 1) := by kernel_rfl

/-- logAdd under way: the log's rows, the boxed entry, what has turned -/
structure St1 (w W : World) (b : Nat) (G : List Nat) (V : Nat → Value) (n : Nat → Nat) (xs : Nat → List Value) (r : Nat) (f : ByteArray → Option Nat) (nl : Nat) (e : EntD) : Prop where
  rl : RL W b V n xs r f nl
  b0 : W.cell? ⟨w.heap.size, 0, none⟩ = some (.int .u8 e.1)
  b1 : W.cell? ⟨w.heap.size, 1, none⟩ = some (.string e.2.1)
  b2 : W.cell? ⟨w.heap.size, 2, none⟩ = some (.int .u64 e.2.2)
  nb : w.heap.size ≠ b
  nG : w.heap.size ∉ blkR V r
  sz : w.heap.size < W.heap.size
  stp : Stp b G w (blkR V r) W

theorem St1.stage {w W : World} {b : Nat} {G : List Nat} {V : Nat → Value} {n : Nat → Nat} {xs : Nat → List Value} {r : Nat} {f : ByteArray → Option Nat} {nl : Nat} {e : EntD} (h : St1 w W b G V n xs r f nl e) {j m : Nat} (hj : j < 3) (hm : n j = m) (ty el : TypeId) (u : Value)
    (hap : ∀ v k ys, SliceAt W v 1 k ys → k < 10000000 → ∃ v' w', (Builtin.append_ #[ty, ty] ty #[v, .slice (some ⟨W.heap.size, 0, none⟩) 1 1]).run Try.prog (W.alloc (.cells #[u] el)).drew = .ok v' w' ∧ App1 W v k ys u v' w') (hml : m < 10000000) :
    ∃ a c, W.cell? ⟨b, j, none⟩ = some (.slice a m c) ∧
      (∃ v' w', (Builtin.append_ #[ty, ty] ty #[.slice a m c, .slice (some ⟨W.heap.size, 0, none⟩) 1 1]).run Try.prog (W.alloc (.cells #[u] el)).drew = .ok v' w' ∧ App1 W (V j) (n j) (xs j) u v' w') ∧
      ∀ v' w', App1 W (V j) (n j) (xs j) u v' w' → ∃ a' c', v' = .slice a' (m + 1) c' ∧ w'.cell? ⟨b, j, none⟩ = some (.slice a m c) ∧ w'.frozen? ⟨b, j, none⟩ = false := by
  subst hm
  obtain ⟨a, c, hv⟩ := h.rl.blkV hj
  refine ⟨a, c, by rw [← hv]; exact h.rl.c j hj, ?_, ?_⟩
  · have := hap _ _ _ (h.rl.s j hj) hml
    rw [hv] at this ⊢
    exact this
  · rintro v' w' ⟨q1, q2, q3⟩
    obtain ⟨a', c', rfl⟩ := q1.len
    have hnF : ¬ (V j).ownBlock = some b := fun e => (h.rl.nb j hj b (vblk_own e)).1 rfl
    exact ⟨a', c', rfl, (q2.cells h.rl.lt hnF _).trans (by rw [← hv]; exact h.rl.c j hj), (q2.frozens h.rl.lt hnF _).trans (h.rl.fz j hj)⟩

theorem St1.set {w W w' : World} {b : Nat} {G : List Nat} {V : Nat → Value} {n : Nat → Nat} {xs : Nat → List Value} {r : Nat} {f : ByteArray → Option Nat} {nl : Nat} {e : EntD} (h : St1 w W b G V n xs r f nl e) {j : Nat} (hj : j < 3) {u v' : Value} (hA : App1 W (V j) (n j) (xs j) u v' w') :
    St1 w (w'.setCell ⟨b, j, none⟩ v') b G (updN V j v') (updN n j (n j + 1)) (updN xs j (xs j ++ [u])) r f nl e := by
  obtain ⟨q1, q2, q3⟩ := h.rl.set hj hA
  have hn : ¬ (w.heap.size = b ∨ w.heap.size ∈ blkR V r) := by
    rintro (e | e)
    · exact h.nb e
    · exact h.nG e
  refine ⟨q1, q2.cell h.b0 hn, q2.cell h.b1 hn, q2.cell h.b2 hn, h.nb, ?_, Nat.lt_of_lt_of_le h.sz q2.size, h.stp.trans ⟨q2, q3⟩⟩
  intro hk
  rcases q3 _ hk with hk | hk
  · exact h.nG hk
  · have := h.sz; omega

def AddP (w : World) (b : Nat) (G : List Nat) (R : Resn) (N : Nat) (e : EntD) (x : Ending) (w' : World) : Prop := x = .returned (.tuple #[]) ∧ ∃ G', RS w' b G' (ext R N e) (N + 1) ∧ Stp b G w G' w'

set_option maxRecDepth 100000 in
set_option maxHeartbeats 4000000 in
theorem logAdd_calls {w : World} {b : Nat} {G : List Nat} {R : Resn} {N : Nat} (h : RS w b G R N) (hN : N < 2000000) (e : EntD) :
    Calls Try.prog 13 #[.pointer (some ⟨b, 0, none⟩), .agg #[.int .u8 e.1, .string e.2.1, .int .u64 e.2.2]] w (AddP w b G R N e) := by
  obtain ⟨V, r, nl, h, rfl⟩ := h
  have hlb := h.lt
  have S0 : St1 w (w.alloc (.cells #[.int .u8 e.1, .string e.2.1, .int .u64 e.2.2] 30)) b (blkR V r) V (fun _ => N) (colL R N) r (fun t => lastOf R t N) nl e := by
    refine ⟨h.frame (G := fun _ => False) (chg_alloc _ _ _) (fun x => x) (fun _ _ x => x), (cell_new rfl _ _ _).trans rfl, (cell_new rfl _ _ _).trans rfl, (cell_new rfl _ _ _).trans rfl, by omega, fun hk => ?_, by simp, Stp.of_chg (chg_alloc _ _ _)⟩
    have := (h.lts _ hk).1
    omega
  obtain ⟨W0, hW0⟩ : ∃ W0, W0 = w.alloc (.cells #[.int .u8 e.1, .string e.2.1, .int .u64 e.2.2] 30) := ⟨_, rfl⟩
  rw [← hW0] at S0
  obtain ⟨i9, hi9, hz90, hz91, hz92⟩ := info_parts info9
  obtain ⟨i28, hi28, hz280, hz281, hz282⟩ := info_parts info28
  obtain ⟨i5, hi5, hz50, hz51, hz52⟩ := info_parts info5
  obtain ⟨ao, oc, e0, hap0, hR0⟩ := S0.stage (j := 0) (m := N) (by omega) rfl 39 9 (.string e.2.1) (fun v k ys hS hk => app_one W0 39 9 i9 _ 16 Try.underlying39 hi9 hz90 hz91 hz92 rfl (by omega) v k ys _ hS rfl hk) (by omega)
  have bx := S0.b1
  have hlb0 := S0.rl.lt
  have hsz0 := S0.sz
  go_enter Try.func13, Try.ntmps13
  go_wp2
  rw [← hW0]
  clear hW0 h
  go_cut [12] (fun _ wx => ∃ a' c' w', App1 W0 (V 0) N (colL R N 0) (.string e.2.1) (.slice a' (N + 1) c') w' ∧ wx = w'.setCell ⟨b, 0, none⟩ (.slice a' (N + 1) c'))
  case first =>
    go_region_law (refine step_append_at rfl (.tmp 8) (.tmp 11) 39 rfl (.slice ao N oc) (.slice (some ⟨W0.heap.size, 0, none⟩) 1 1) (by simp [Act.eval]) (by simp [Act.eval]) _ hap0 ?_; intro v' w' hr; obtain ⟨a', c', rfl, hcc1, hff1⟩ := hR0 v' w' hr)
    all_goals
      go_wp2
      go_meet
      exact ⟨_, _, _, ‹App1 _ _ _ _ _ _ _›, rfl⟩
  case rest =>
    obtain ⟨a1, c1, w1, hA, rfl⟩ := hcut
    have S1 := S0.set (by omega) hA
    clear hA S0 hap0 hR0 e0 bx hlb0 hsz0
    generalize w1.setCell ⟨b, 0, none⟩ (.slice a1 (N + 1) c1) = W1 at S1 ⊢
    generalize updN V 0 (.slice a1 (N + 1) c1) = V1 at S1 ⊢
    obtain ⟨n1, hn1⟩ : ∃ n1, n1 = updN (fun _ => N) 0 (N + 1) := ⟨_, rfl⟩
    obtain ⟨x1, hx1⟩ : ∃ x1, x1 = updN (colL R N) 0 (colL R N 0 ++ [.string e.2.1]) := ⟨_, rfl⟩
    have Hn1 := Lib.hid hn1
    have Hx1 := Lib.hid hx1
    rw [← hn1, ← hx1] at S1
    have hn1' : n1 1 = N := by rw [hn1]; rfl
    clear hn1 hx1
    obtain ⟨bo, ob, e1, hap1, hR1⟩ := S1.stage (j := 1) (m := N) (by omega) hn1' 40 28 (.int .u64 e.2.2) (fun v k ys hS hk => app_one W1 40 28 i28 _ 8 Try.underlying40 hi28 hz280 hz281 hz282 rfl (by omega) v k ys _ hS rfl hk) (by omega)
    have bx := S1.b2
    have hlb1 := S1.rl.lt
    have hsz1 := S1.sz
    clear hn1'
    generalize hP1 : App1 W1 (V1 1) (n1 1) (x1 1) (.int .u64 e.2.2) = P1 at hap1 hR1
    have HP1 := Lib.hid hP1
    clear hP1
    go_wp2
    go_cut [23] (fun _ wx => ∃ a' c' w', P1 (.slice a' (N + 1) c') w' ∧ wx = w'.setCell ⟨b, 1, none⟩ (.slice a' (N + 1) c'))
    case first =>
      go_region_law (refine step_append_at rfl (.tmp 19) (.tmp 22) 40 rfl (.slice bo N ob) (.slice (some ⟨W1.heap.size, 0, none⟩) 1 1) (by simp [Act.eval]) (by simp [Act.eval]) _ hap1 ?_; intro v' w' hr; obtain ⟨a', c', rfl, hcc1, hff1⟩ := hR1 v' w' hr)
      all_goals
        go_wp2
        go_meet
        exact ⟨_, _, _, ‹P1 _ _›, rfl⟩
    case rest =>
      obtain ⟨a2, c2, w2, hA, rfl⟩ := hcut
      rw [← HP1.out] at hA
      have S2 := S1.set (by omega) hA
      clear hA S1 hap1 hR1 e1 bx hlb1 hsz1 HP1
      generalize w2.setCell ⟨b, 1, none⟩ (.slice a2 (N + 1) c2) = W2 at S2 ⊢
      generalize updN V1 1 (.slice a2 (N + 1) c2) = V2 at S2 ⊢
      obtain ⟨n2, hn2⟩ : ∃ n2, n2 = updN n1 1 (n1 1 + 1) := ⟨_, rfl⟩
      obtain ⟨x2, hx2⟩ : ∃ x2, x2 = updN x1 1 (x1 1 ++ [.int .u64 e.2.2]) := ⟨_, rfl⟩
      have Hn2 := Lib.hid hn2
      have Hx2 := Lib.hid hx2
      rw [← hn2, ← hx2] at S2
      have hn2' : n2 2 = N := by rw [hn2, Hn1.out]; rfl
      clear hn2 hx2
      obtain ⟨do_, od, e2, hap2, hR2⟩ := S2.stage (j := 2) (m := N) (by omega) hn2' 41 5 (.int .u8 e.1) (fun v k ys hS hk => app_one W2 41 5 i5 _ 1 Try.underlying41 hi5 hz50 hz51 hz52 rfl (by omega) v k ys _ hS rfl hk) (by omega)
      have bx := S2.b0
      have hlb2 := S2.rl.lt
      have hsz2 := S2.sz
      clear hn2'
      generalize hP2 : App1 W2 (V2 2) (n2 2) (x2 2) (.int .u8 e.1) = P2 at hap2 hR2
      have HP2 := Lib.hid hP2
      clear hP2
      go_wp2
      go_cut [34] (fun _ wx => ∃ a' c' w', P2 (.slice a' (N + 1) c') w' ∧ wx = w'.setCell ⟨b, 2, none⟩ (.slice a' (N + 1) c'))
      case first =>
        go_region_law (refine step_append_at rfl (.tmp 30) (.tmp 33) 41 rfl (.slice do_ N od) (.slice (some ⟨W2.heap.size, 0, none⟩) 1 1) (by simp [Act.eval]) (by simp [Act.eval]) _ hap2 ?_; intro v' w' hr; obtain ⟨a', c', rfl, hcc1, hff1⟩ := hR2 v' w' hr)
        all_goals
          go_wp2
          go_meet
          exact ⟨_, _, _, ‹P2 _ _›, rfl⟩
      case rest =>
        obtain ⟨a3, c3, w3, hA, rfl⟩ := hcut
        rw [← HP2.out] at hA
        have S3 := S2.set (by omega) hA
        clear hA S2 hap2 hR2 e2 bx hlb2 hsz2 HP2
        generalize w3.setCell ⟨b, 2, none⟩ (.slice a3 (N + 1) c3) = W3 at S3 ⊢
        generalize updN V2 2 (.slice a3 (N + 1) c3) = V3 at S3 ⊢
        have R3 : RL W3 b V3 (fun _ => N + 1) (colL (ext R N e) (N + 1)) r (fun t => lastOf R t N) nl := by
          refine S3.rl.congr (fun _ _ => rfl) (fun j hj => ?_) (fun j hj => ?_) (fun _ => rfl)
          · rw [Hn2.out, Hn1.out]
            match j, hj with
            | 0, _ => rfl
            | 1, _ => rfl
            | 2, _ => rfl
          · rw [Hx2.out, Hx1.out, colL_ext]
            match j, hj with
            | 0, _ => rfl
            | 1, _ => rfl
            | 2, _ => rfl
        obtain ⟨ta, tc, hv0⟩ := R3.blkV (j := 0) (by omega)
        have e3 := R3.c 0 (by omega)
        rw [hv0] at e3
        have e4 := R3.c3
        have bx := S3.b1
        have hlb3 := R3.lt
        obtain ⟨es, clock, hbk, RR, hsz⟩ := R3.m
        obtain ⟨es2, clock2, hup, RR2, hs2⟩ := RR.store (w := W3.drew) (b := r) (P := Try.prog) (t := 42) (kt := 9) (et := 3) hbk Try.underlying42 Try.underlying9 e.2.1 (N + 1)
        have hc2 : Chg (fun k => k = r) W3 (setBlock W3.drew r (.map es2 clock2)) := ((Chg.refl (fun k => k = r) W3).drew).setBlock (fun _ => rfl) _
        have hbk2 : (setBlock W3.drew r (.map es2 clock2)).heap[r]? = some (.map es2 clock2) := heap_setBlock (w := W3.drew) (Array.getElem?_eq_some_iff.1 hbk).1 _
        generalize setBlock W3.drew r (.map es2 clock2) = W4 at hup hc2 hbk2
        have R4 : RL W4 b V3 (fun _ => N + 1) (colL (ext R N e) (N + 1)) r (fun t => lastOf (ext R N e) t (N + 1)) es2.size := by
          refine (R3.setMap hc2 ⟨es2, clock2, hbk2, RR2, rfl⟩).congr (fun _ _ => rfl) (fun _ _ => rfl) (fun _ _ => rfl) (fun x => ?_)
          rw [lastOf_ext]
          unfold upd
          by_cases hx : x = e.2.1
          · rw [if_pos hx, if_pos hx.symm]
          · rw [if_neg hx, if_neg (fun h => hx h.symm)]
        have hS4 : Stp b (blkR V r) w (blkR V3 r) W4 := S3.stp.trans ⟨hc2.mono (fun k _ hk => .inr (by rw [hk]; simp [blkR])), fun _ h => .inl h⟩
        simp only [natV] at hup
        have hup' : (Instr.mapUpdate 42 (.map (some r)) (.string e.2.1) (.int .i64 ((N : Int) + 1))).run Try.prog W3.drew = .ok () W4 := by
          simpa using hup
        clear hup hbk hbk2 RR RR2 hs2 hsz R3 S3 hv0
        go_wp2
        go_region
        all_goals
          go_wp2
          go_end0
          exact ⟨rfl, _, ⟨V3, r, _, R4, rfl⟩, hS4⟩
end Go.Proofs.Qxb6616074a
