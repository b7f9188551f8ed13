/-
  OWN TEXT. FnLedgerApplyScriptMatchesModel: the state of the walk, its steps.
-/
import Derived.Test.Qxb6616074aAgrC
namespace Go.Proofs.Qxb6616074a
open Go.RowKit Go.MapKept Go.ChangeMaps

/-- whose blocks are whose: six owners, apart, all newer than w -/
structure Sep (w W : World) (O : Nat → List Nat) : Prop where
  ap : ∀ i j, i < 6 → j < 6 → i ≠ j → ∀ k ∈ O i, k ∉ O j
  lo : ∀ i, i < 6 → ∀ k ∈ O i, w.heap.size ≤ k ∧ k < W.heap.size
theorem Sep.step {w W W2 : World} {O : Nat → List Nat} (h : Sep w W O) (hb : w.heap.size ≤ W.heap.size) {i : Nat} (hi : i < 6) {X : List Nat} (hs : W.heap.size ≤ W2.heap.size) (hX : ∀ k ∈ X, (k ∈ O i ∨ W.heap.size ≤ k) ∧ k < W2.heap.size) : Sep w W2 (updN O i X) := by
  refine ⟨?_, ?_⟩
  · intro a b ha hb hab k hk hk2
    by_cases hai : a = i
    · subst hai
      rw [updN_same] at hk
      rw [updN_other _ _ (Ne.symm hab)] at hk2
      rcases (hX k hk).1 with hk | hk
      · exact h.ap a b ha hb hab k hk hk2
      · have := (h.lo b hb k hk2).2; omega
    · rw [updN_other _ _ hai] at hk
      by_cases hbi : b = i
      · subst hbi
        rw [updN_same] at hk2
        rcases (hX k hk2).1 with hk2 | hk2
        · exact h.ap a b ha hb hab k hk hk2
        · have := (h.lo a ha k hk).2; omega
      · rw [updN_other _ _ hbi] at hk2
        exact h.ap a b ha hb hab k hk hk2
  · intro a ha k hk
    by_cases hai : a = i
    · subst hai
      rw [updN_same] at hk
      rcases (hX k hk).1 with h1 | h1
      · exact ⟨(h.lo a ha k h1).1, (hX k hk).2⟩
      · exact ⟨by omega, (hX k hk).2⟩
    · rw [updN_other _ _ hai] at hk
      have := h.lo a ha k hk
      exact ⟨this.1, by omega⟩

/-- the walk's state within a round -/
structure Mid (w W : World) (O : Nat → List Nat) (lb db ub ab cb : Nat) (F : List Nat) (L : Led) (f : ByteArray → Option Int) (nd : Nat) (u : ByteArray → Option Int) (nu : Nat) (Ga : List Nat) (Ra : Resn) (Na : Nat) (Gc : List Nat) (Rc : Resn) (Nc : Nat) (X : List Nat) : Prop where
  ag : AG W lb db ub ab cb F L f nd u nu Ga Ra Na Gc Rc Nc
  sep : Sep w W O
  o0 : O 0 = lb :: F
  o1 : O 1 = [db]
  o2 : O 2 = [ub]
  o3 : O 3 = ab :: Ga
  o4 : O 4 = cb :: Gc
  o5 : O 5 = X
  below : Below w.heap.size w W

section
variable {w W W2 : World} {O : Nat → List Nat} {lb db ub ab cb : Nat} {F : List Nat} {L : Led} {f : ByteArray → Option Int} {nd : Nat} {u : ByteArray → Option Int} {nu : Nat} {Ga : List Nat} {Ra : Resn} {Na : Nat} {Gc : List Nat} {Rc : Resn} {Nc : Nat} {X : List Nat}

/-- what a turn of owner i leaves as it was -/
theorem Mid.keep (h : Mid w W O lb db ub ab cb F L f nd u nu Ga Ra Na Gc Rc Nc X) {i : Nat} (hi : i < 6) (hc : Chg (fun k => k ∈ O i) W W2) :
    (i ≠ 0 → LedS W2 lb F L) ∧ (i ≠ 1 → MapAt W2 db u64V f nd) ∧ (i ≠ 2 → MapAt W2 ub u64V u nu) ∧ (i ≠ 3 → RS W2 ab Ga Ra Na) ∧ (i ≠ 4 → RS W2 cb Gc Rc Nc) ∧ Below w.heap.size w W2 := by
  have ne : ∀ j, j < 6 → i ≠ j → ∀ k ∈ O j, ¬ k ∈ O i := fun j hj hij k hk => h.sep.ap j i hj hi (Ne.symm hij) k hk
  refine ⟨fun h0 => ?_, fun h0 => ?_, fun h0 => ?_, fun h0 => ?_, fun h0 => ?_, ?_⟩
  · have := ne 0 (by omega) h0
    rw [h.o0] at this
    exact h.ag.led.frame hc (this lb (by simp)) (fun k hk => this k (by simp [hk]))
  · have := ne 1 (by omega) h0
    rw [h.o1] at this
    exact h.ag.dm.kept hc (this db (by simp))
  · have := ne 2 (by omega) h0
    rw [h.o2] at this
    exact h.ag.um.kept hc (this ub (by simp))
  · have := ne 3 (by omega) h0
    rw [h.o3] at this
    exact h.ag.rab.frame hc (this ab (by simp)) (fun k hk => this k (by simp [hk]))
  · have := ne 4 (by omega) h0
    rw [h.o4] at this
    exact h.ag.rcm.frame hc (this cb (by simp)) (fun k hk => this k (by simp [hk]))
  · exact h.below.trans (hc.below (B := w.heap.size) (fun k hk => (h.sep.lo i hi k hk).1) h.below.size)

theorem Mid.led (h : Mid w W O lb db ub ab cb F L f nd u nu Ga Ra Na Gc Rc Nc X) {F' : List Nat} {L' : Led} (q1 : LedS W2 lb F' L') (q2 : Stp lb F W F' W2) : ∃ O', Mid w W2 O' lb db ub ab cb F' L' f nd u nu Ga Ra Na Gc Rc Nc X := by
  have hc : Chg (fun k => k ∈ O 0) W W2 := q2.1.mono (fun k _ e => by rw [h.o0]; simpa using e)
  obtain ⟨_, k1, k2, k3, k4, k5⟩ := h.keep (by omega) hc
  refine ⟨updN O 0 (lb :: F'), ⟨q1, k1 (by omega), k2 (by omega), k3 (by omega), k4 (by omega)⟩, h.sep.step h.below.size (by omega) hc.size ?_, updN_same _ _ _, (updN_other _ _ (by omega)).trans h.o1, (updN_other _ _ (by omega)).trans h.o2, (updN_other _ _ (by omega)).trans h.o3, (updN_other _ _ (by omega)).trans h.o4, (updN_other _ _ (by omega)).trans h.o5, k5⟩
  intro k hk
  rw [h.o0]
  rcases List.mem_cons.1 hk with rfl | hk
  · exact ⟨.inl (by simp), q1.lb_lt⟩
  · rcases q2.2 k hk with hk' | hk'
    · exact ⟨.inl (by simp [hk']), (q1.lts k hk).1⟩
    · exact ⟨.inr hk', (q1.lts k hk).1⟩
theorem Mid.dbt (h : Mid w W O lb db ub ab cb F L f nd u nu Ga Ra Na Gc Rc Nc X) {f' : ByteArray → Option Int} {nd' : Nat} (q1 : MapAt W2 db u64V f' nd') (q2 : Chg (fun k => k = db) W W2) : ∃ O', Mid w W2 O' lb db ub ab cb F L f' nd' u nu Ga Ra Na Gc Rc Nc X := by
  have hc : Chg (fun k => k ∈ O 1) W W2 := q2.mono (fun k _ e => by rw [h.o1]; simpa using e)
  obtain ⟨k0, _, k2, k3, k4, k5⟩ := h.keep (by omega) hc
  refine ⟨updN O 1 [db], ⟨k0 (by omega), q1, k2 (by omega), k3 (by omega), k4 (by omega)⟩, h.sep.step h.below.size (by omega) hc.size ?_, (updN_other _ _ (by omega)).trans h.o0, updN_same _ _ _, (updN_other _ _ (by omega)).trans h.o2, (updN_other _ _ (by omega)).trans h.o3, (updN_other _ _ (by omega)).trans h.o4, (updN_other _ _ (by omega)).trans h.o5, k5⟩
  intro k hk
  rw [h.o1]
  simp at hk
  subst hk
  exact ⟨.inl (by simp), q1.lt⟩
theorem Mid.unr (h : Mid w W O lb db ub ab cb F L f nd u nu Ga Ra Na Gc Rc Nc X) {u' : ByteArray → Option Int} {nu' : Nat} (q1 : MapAt W2 ub u64V u' nu') (q2 : Chg (fun k => k = ub) W W2) : ∃ O', Mid w W2 O' lb db ub ab cb F L f nd u' nu' Ga Ra Na Gc Rc Nc X := by
  have hc : Chg (fun k => k ∈ O 2) W W2 := q2.mono (fun k _ e => by rw [h.o2]; simpa using e)
  obtain ⟨k0, k1, _, k3, k4, k5⟩ := h.keep (by omega) hc
  refine ⟨updN O 2 [ub], ⟨k0 (by omega), k1 (by omega), q1, k3 (by omega), k4 (by omega)⟩, h.sep.step h.below.size (by omega) hc.size ?_, (updN_other _ _ (by omega)).trans h.o0, (updN_other _ _ (by omega)).trans h.o1, updN_same _ _ _, (updN_other _ _ (by omega)).trans h.o3, (updN_other _ _ (by omega)).trans h.o4, (updN_other _ _ (by omega)).trans h.o5, k5⟩
  intro k hk
  rw [h.o2]
  simp at hk
  subst hk
  exact ⟨.inl (by simp), q1.lt⟩
theorem Mid.abt (h : Mid w W O lb db ub ab cb F L f nd u nu Ga Ra Na Gc Rc Nc X) {G' : List Nat} {R' : Resn} {N' : Nat} (q1 : RS W2 ab G' R' N') (q2 : Stp ab Ga W G' W2) : ∃ O', Mid w W2 O' lb db ub ab cb F L f nd u nu G' R' N' Gc Rc Nc X := by
  have hc : Chg (fun k => k ∈ O 3) W W2 := q2.1.mono (fun k _ e => by rw [h.o3]; simpa using e)
  obtain ⟨k0, k1, k2, _, k4, k5⟩ := h.keep (by omega) hc
  refine ⟨updN O 3 (ab :: G'), ⟨k0 (by omega), k1 (by omega), k2 (by omega), q1, k4 (by omega)⟩, h.sep.step h.below.size (by omega) hc.size ?_, (updN_other _ _ (by omega)).trans h.o0, (updN_other _ _ (by omega)).trans h.o1, (updN_other _ _ (by omega)).trans h.o2, updN_same _ _ _, (updN_other _ _ (by omega)).trans h.o4, (updN_other _ _ (by omega)).trans h.o5, k5⟩
  intro k hk
  rw [h.o3]
  rcases List.mem_cons.1 hk with rfl | hk
  · exact ⟨.inl (by simp), q1.lt⟩
  · rcases q2.2 k hk with hk' | hk'
    · exact ⟨.inl (by simp [hk']), (q1.lts k hk).1⟩
    · exact ⟨.inr hk', (q1.lts k hk).1⟩
theorem Mid.cmt (h : Mid w W O lb db ub ab cb F L f nd u nu Ga Ra Na Gc Rc Nc X) {G' : List Nat} {R' : Resn} {N' : Nat} (q1 : RS W2 cb G' R' N') (q2 : Stp cb Gc W G' W2) : ∃ O', Mid w W2 O' lb db ub ab cb F L f nd u nu Ga Ra Na G' R' N' X := by
  have hc : Chg (fun k => k ∈ O 4) W W2 := q2.1.mono (fun k _ e => by rw [h.o4]; simpa using e)
  obtain ⟨k0, k1, k2, k3, _, k5⟩ := h.keep (by omega) hc
  refine ⟨updN O 4 (cb :: G'), ⟨k0 (by omega), k1 (by omega), k2 (by omega), k3 (by omega), q1⟩, h.sep.step h.below.size (by omega) hc.size ?_, (updN_other _ _ (by omega)).trans h.o0, (updN_other _ _ (by omega)).trans h.o1, (updN_other _ _ (by omega)).trans h.o2, (updN_other _ _ (by omega)).trans h.o3, updN_same _ _ _, (updN_other _ _ (by omega)).trans h.o5, k5⟩
  intro k hk
  rw [h.o4]
  rcases List.mem_cons.1 hk with rfl | hk
  · exact ⟨.inl (by simp), q1.lt⟩
  · rcases q2.2 k hk with hk' | hk'
    · exact ⟨.inl (by simp [hk']), (q1.lts k hk).1⟩
    · exact ⟨.inr hk', (q1.lts k hk).1⟩
/-- a block more, of an entry -/
theorem Mid.box (h : Mid w W O lb db ub ab cb F L f nd u nu Ga Ra Na Gc Rc Nc X) (o : Obj) : ∃ O', Mid w (W.alloc o) O' lb db ub ab cb F L f nd u nu Ga Ra Na Gc Rc Nc [W.heap.size] := by
  have hc : Chg (fun k => k ∈ O 5) W (W.alloc o) := chg_alloc _ _ _
  obtain ⟨k0, k1, k2, k3, k4, k5⟩ := h.keep (by omega) hc
  refine ⟨updN O 5 [W.heap.size], ⟨k0 (by omega), k1 (by omega), k2 (by omega), k3 (by omega), k4 (by omega)⟩, h.sep.step h.below.size (by omega) hc.size ?_, (updN_other _ _ (by omega)).trans h.o0, (updN_other _ _ (by omega)).trans h.o1, (updN_other _ _ (by omega)).trans h.o2, (updN_other _ _ (by omega)).trans h.o3, (updN_other _ _ (by omega)).trans h.o4, updN_same _ _ _, k5⟩
  intro k hk
  simp at hk
  subst hk
  exact ⟨.inr (Nat.le_refl _), by simp⟩
/-- the box's cells stay -/
theorem Mid.cellL {B : Nat} (h : Mid w W O lb db ub ab cb F L f nd u nu Ga Ra Na Gc Rc Nc [B]) {F' : List Nat} (q2 : Stp lb F W F' W2) {j : Nat} {v : Value} (hv : W.cell? ⟨B, j, none⟩ = some v) : W2.cell? ⟨B, j, none⟩ = some v :=
  q2.1.cell hv (fun e => h.sep.ap 5 0 (by omega) (by omega) (by omega) B (by rw [h.o5]; simp) (by rw [h.o0]; simpa using e))
theorem Mid.cellU {B : Nat} (h : Mid w W O lb db ub ab cb F L f nd u nu Ga Ra Na Gc Rc Nc [B]) (q2 : Chg (fun k => k = ub) W W2) {j : Nat} {v : Value} (hv : W.cell? ⟨B, j, none⟩ = some v) : W2.cell? ⟨B, j, none⟩ = some v :=
  q2.cell hv (fun e => h.sep.ap 5 2 (by omega) (by omega) (by omega) B (by rw [h.o5]; simp) (by rw [h.o2]; simpa using e))
theorem Mid.cellA {B : Nat} (h : Mid w W O lb db ub ab cb F L f nd u nu Ga Ra Na Gc Rc Nc [B]) {G' : List Nat} (q2 : Stp ab Ga W G' W2) {j : Nat} {v : Value} (hv : W.cell? ⟨B, j, none⟩ = some v) : W2.cell? ⟨B, j, none⟩ = some v :=
  q2.1.cell hv (fun e => h.sep.ap 5 3 (by omega) (by omega) (by omega) B (by rw [h.o5]; simp) (by rw [h.o3]; simpa using e))
theorem Mid.cellC {B : Nat} (h : Mid w W O lb db ub ab cb F L f nd u nu Ga Ra Na Gc Rc Nc [B]) {G' : List Nat} (q2 : Stp cb Gc W G' W2) {j : Nat} {v : Value} (hv : W.cell? ⟨B, j, none⟩ = some v) : W2.cell? ⟨B, j, none⟩ = some v :=
  q2.1.cell hv (fun e => h.sep.ap 5 4 (by omega) (by omega) (by omega) B (by rw [h.o5]; simp) (by rw [h.o4]; simpa using e))
end

/-- the plain side -/
structure PI (es : Nat → EntD) (k : Nat) (L : Led) (f : ByteArray → Option Int) (nd : Nat) (u : ByteArray → Option Int) (Ra : Resn) (Na : Nat) (Rc : Resn) (Nc : Nat) : Prop where
  dinv : DInv L.hs f nd (fun t => ∃ j, j < k ∧ (es j).2.1 = t) topU
  un : ∀ t, u t = L.un t
  sa : SInv L.ab Ra Na
  sc : SInv L.cm Rc Nc
  fg : L.fg = max (fgF Ra (Na - 10000)) (fgF Rc (Nc - 10000))
  small : Small L k
  la : Na ≤ k
  lc : Nc ≤ k
  fa : ∀ i, i < Na → ∃ j, j < k ∧ (es j).2.1 = (Ra i).2.1
  fc : ∀ i, i < Nc → ∃ j, j < k ∧ (es j).2.1 = (Rc i).2.1

section
variable {es : Nat → EntD} {k : Nat} {L : Led} {f : ByteArray → Option Int} {nd : Nat} {u : ByteArray → Option Int} {Ra : Resn} {Na : Nat} {Rc : Resn} {Nc : Nat}
theorem src_step {P : ByteArray} (h : ∃ j, j < k ∧ (es j).2.1 = P) : ∃ j, j < k + 1 ∧ (es j).2.1 = P := by
  obtain ⟨j, hj, e⟩ := h
  exact ⟨j, by omega, e⟩
theorem PI.k1 (h : PI es k L f nd u Ra Na Rc Nc) (hk : (es k).1 = 1) (hs : (es k).2.2 ≤ topU) : PI es (k + 1) (applyF L (es k).1 (es k).2.1 (es k).2.2) (upd f (es k).2.1 (some (es k).2.2)) (if (f (es k).2.1).isSome then nd else nd + 1) u Ra Na Rc Nc := by
  have hsm := small_apply h.small (es k).1 (es k).2.1 (es k).2.2
  have hh := applyF_hs L (es k).1 (es k).2.1 (es k).2.2
  rw [if_pos hk] at hh
  have hd := h.dinv.hold (src' := fun t => ∃ j, j < k + 1 ∧ (es j).2.1 = t) (es k).2.1 (es k).2.2 (fun x hx => src_step hx) ⟨k, by omega, rfl⟩ hs
  rw [← hh] at hd
  have e : applyF L (es k).1 (es k).2.1 (es k).2.2 = { L with hs := holdF L.hs (es k).2.1 (es k).2.2 } := by unfold applyF; rw [if_pos hk]
  refine ⟨hd, ?_, ?_, ?_, ?_, hsm, by have := h.la; omega, by have := h.lc; omega, fun i hi => src_step (h.fa i hi), fun i hi => src_step (h.fc i hi)⟩
  all_goals rw [e]
  · exact h.un
  · exact h.sa
  · exact h.sc
  · exact h.fg
theorem PI.drp (h : PI es k L f nd u Ra Na Rc Nc) (hk : (es k).1 ≠ 1) : DInv (applyF L (es k).1 (es k).2.1 (es k).2.2).hs (upd f (es k).2.1 none) (if (f (es k).2.1).isSome then nd - 1 else nd) (fun t => ∃ j, j < k + 1 ∧ (es j).2.1 = t) topU := by
  rw [applyF_hs, if_neg hk]
  exact h.dinv.drop _ (fun x hx => src_step hx)
theorem PI.k2 (h : PI es k L f nd u Ra Na Rc Nc) (hk : (es k).1 = 2) : PI es (k + 1) (applyF L (es k).1 (es k).2.1 (es k).2.2) (upd f (es k).2.1 none) (if (f (es k).2.1).isSome then nd - 1 else nd) (upd u (es k).2.1 (some (es k).2.2)) Ra Na Rc Nc := by
  have hsm := small_apply h.small (es k).1 (es k).2.1 (es k).2.2
  have hd := h.drp (by omega)
  have e : applyF L (es k).1 (es k).2.1 (es k).2.2 = { L with un := upd L.un (es k).2.1 (some (es k).2.2), hs := dropF L.hs (es k).2.1 } := by unfold applyF; rw [if_neg (by omega), if_pos hk]
  refine ⟨hd, ?_, ?_, ?_, ?_, hsm, by have := h.la; omega, by have := h.lc; omega, fun i hi => src_step (h.fa i hi), fun i hi => src_step (h.fc i hi)⟩
  all_goals rw [e]
  · intro t; simp only [upd, h.un]
  · exact h.sa
  · exact h.sc
  · exact h.fg
theorem PI.k5 (h : PI es k L f nd u Ra Na Rc Nc) (hk : (es k).1 = 5) : PI es (k + 1) (applyF L (es k).1 (es k).2.1 (es k).2.2) (upd f (es k).2.1 none) (if (f (es k).2.1).isSome then nd - 1 else nd) (upd u (es k).2.1 none) Ra Na (ext Rc Nc (es k)) (Nc + 1) := by
  have hsm := small_apply h.small (es k).1 (es k).2.1 (es k).2.2
  have hd := h.drp (by omega)
  have e : applyF L (es k).1 (es k).2.1 (es k).2.2 = { L with un := upd L.un (es k).2.1 none, cm := addS L.cm 5 (es k).2.1 (es k).2.2, fg := max L.fg (addT L.cm 5 (es k).2.1 (es k).2.2).2.2, hs := dropF L.hs (es k).2.1 } := by unfold applyF; rw [if_neg (by omega), if_neg (by omega), if_pos hk]
  have hee : ((5 : Int), (es k).2.1, (es k).2.2) = es k := by rw [← hk]
  obtain ⟨a1, a2⟩ := h.sc.add 5 (es k).2.1 (es k).2.2
  rw [hee] at a1 a2
  refine ⟨hd, ?_, ?_, ?_, ?_, hsm, by have := h.la; omega, by have := h.lc; omega, fun i hi => src_step (h.fa i hi), fun i hi => ?_⟩
  · rw [e]; intro t; simp only [upd, h.un]
  · rw [e]; exact h.sa
  · rw [e]; exact a1
  · rw [e, ← a2, h.fg]
    simp only
    omega
  · by_cases hiN : i = Nc
    · subst hiN; rw [ext_at]; exact ⟨k, by omega, rfl⟩
    · rw [ext_lt (by omega)]; exact src_step (h.fc i (by omega))
theorem PI.k34 (h : PI es k L f nd u Ra Na Rc Nc) (hk : (es k).1 = 3 ∨ (es k).1 = 4) : PI es (k + 1) (applyF L (es k).1 (es k).2.1 (es k).2.2) (upd f (es k).2.1 none) (if (f (es k).2.1).isSome then nd - 1 else nd) u (ext Ra Na (es k)) (Na + 1) Rc Nc := by
  have hsm := small_apply h.small (es k).1 (es k).2.1 (es k).2.2
  have hd := h.drp (by omega)
  have e : applyF L (es k).1 (es k).2.1 (es k).2.2 = { L with ab := addS L.ab (es k).1 (es k).2.1 (es k).2.2, fg := max L.fg (addT L.ab (es k).1 (es k).2.1 (es k).2.2).2.2, hs := dropF L.hs (es k).2.1 } := by unfold applyF; rw [if_neg (by omega), if_neg (by omega), if_neg (by omega), if_pos hk]
  obtain ⟨a1, a2⟩ := h.sa.add (es k).1 (es k).2.1 (es k).2.2
  refine ⟨hd, ?_, ?_, ?_, ?_, hsm, by have := h.la; omega, by have := h.lc; omega, fun i hi => ?_, fun i hi => src_step (h.fc i hi)⟩
  · rw [e]; exact h.un
  · rw [e]; exact a1
  · rw [e]; exact h.sc
  · rw [e]
    have a2' : fgF (ext Ra Na (es k)) (Na + 1 - 10000) = max (fgF Ra (Na - 10000)) (addT L.ab (es k).1 (es k).2.1 (es k).2.2).2.2 := a2.symm
    rw [a2', h.fg]
    simp only
    omega
  · by_cases hiN : i = Na
    · subst hiN; rw [ext_at]; exact ⟨k, by omega, rfl⟩
    · rw [ext_lt (by omega)]; exact src_step (h.fa i (by omega))
theorem PI.k0 (h : PI es k L f nd u Ra Na Rc Nc) (h1 : (es k).1 ≠ 1) (h2 : (es k).1 ≠ 2) (h3 : (es k).1 ≠ 3) (h4 : (es k).1 ≠ 4) (h5 : (es k).1 ≠ 5) : PI es (k + 1) (applyF L (es k).1 (es k).2.1 (es k).2.2) (upd f (es k).2.1 none) (if (f (es k).2.1).isSome then nd - 1 else nd) u Ra Na Rc Nc := by
  have hsm := small_apply h.small (es k).1 (es k).2.1 (es k).2.2
  have hd := h.drp h1
  have e : applyF L (es k).1 (es k).2.1 (es k).2.2 = { L with hs := dropF L.hs (es k).2.1 } := by unfold applyF; rw [if_neg h1, if_neg h2, if_neg h5, if_neg (by omega)]
  refine ⟨hd, ?_, ?_, ?_, ?_, hsm, by have := h.la; omega, by have := h.lc; omega, fun i hi => src_step (h.fa i hi), fun i hi => src_step (h.fc i hi)⟩
  all_goals rw [e]
  · exact h.un
  · exact h.sa
  · exact h.sc
  · exact h.fg
end
end Go.Proofs.Qxb6616074a
