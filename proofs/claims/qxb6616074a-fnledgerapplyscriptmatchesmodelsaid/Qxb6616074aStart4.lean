/-
  OWN TEXT. FnLedgerApplyScriptMatchesModel: the state at the loop's start.
-/
import Derived.Test.Qxb6616074aLaw4
namespace Go.Proofs.Qxb6616074a
open Go.RowKit Go.MapKept Go.ChangeMaps

def R0 : Resn := fun _ => (0, ByteArray.empty, 0)

theorem rs0 {W : World} {b r : Nat} (hb : W.heap[b]? = some (.cells #[.slice none 0 0, .slice none 0 0, .slice none 0 0, .map (some r)] 44)) (hr : W.heap[r]? = some (.map #[] 0)) (hne : r ≠ b) : RS W b [r] R0 0 := by
  have hc : ∀ j, W.cell? ⟨b, j, none⟩ = (#[Value.slice none 0 0, .slice none 0 0, .slice none 0 0, .map (some r)])[j]? := fun j => by
    unfold World.cell?
    rw [hb]
    simp
  have hf : ∀ j, W.frozen? ⟨b, j, none⟩ = false := fun j => by
    unfold World.frozen?
    rw [hb]
    simp
  refine ⟨fun _ => .slice none 0 0, r, 0, ⟨fun j hj => ?_, fun j _ => hf j, fun j _ => .inl ⟨rfl, rfl, rfl⟩, fun j _ k hk => by simp [vblk] at hk, fun i j _ _ _ k hk => by simp [vblk] at hk, (hc 3).trans rfl, hf 3, hne, ⟨#[], 0, hr, ⟨MapKept.stamped_empty 0, by simp, by simp [lastOf]⟩, rfl⟩⟩, rfl⟩
  rw [hc]
  match j, hj with
  | 0, _ => rfl
  | 1, _ => rfl
  | 2, _ => rfl

abbrev c44 (r : Nat) : Obj := .cells #[.slice none 0 0, .slice none 0 0, .slice none 0 0, .map (some r)] 44
abbrev W6 (w1 : World) (B : Nat) : World := (((((w1.alloc (.map #[] 0)).alloc (.map #[] 0)).alloc (c44 (B + 1 + 1 + 1 + 1 + 1))).alloc (c44 (B + 1 + 1 + 1 + 1 + 1 + 1))).alloc (.map #[] 0)).alloc (.map #[] 0)

theorem at_alloc {w : World} {n : Nat} (hn : n = w.heap.size) (o : Obj) : (w.alloc o).heap[n]? = some o := by
  subst hn
  exact heap_alloc_new w _
theorem past_alloc {w : World} {n : Nat} (hn : n < w.heap.size) {o o' : Obj} (h : w.heap[n]? = some o') : (w.alloc o).heap[n]? = some o' := (Below.heap_alloc w o n hn).trans h

theorem start_mid {w w1 : World} (hled : LedS w1 w.heap.size [] led0) (hchg : Chg (fun _ => False) w w1) (hsz1 : w1.heap.size = w.heap.size + 1) :
    ∃ O, Mid w (W6 w1 w.heap.size) O w.heap.size (w.heap.size + 1) (w.heap.size + 1 + 1) (w.heap.size + 1 + 1 + 1) (w.heap.size + 1 + 1 + 1 + 1) [] led0 (fun _ => none) 0 (fun _ => none) 0 [w.heap.size + 1 + 1 + 1 + 1 + 1] R0 0 [w.heap.size + 1 + 1 + 1 + 1 + 1 + 1] R0 0 [] := by
  generalize hB : w.heap.size = B at *
  have hC : Chg (fun _ => False) w1 (W6 w1 B) := (((((((Chg.refl _ w1).alloc _).alloc _).alloc _).alloc _).alloc _).alloc _)
  have hS : (W6 w1 B).heap.size = B + 7 := by simp [hsz1]
  have h1 : (W6 w1 B).heap[B + 1]? = some (.map #[] 0) := past_alloc (by simp [hsz1]) (past_alloc (by simp [hsz1]) (past_alloc (by simp [hsz1]) (past_alloc (by simp [hsz1]) (past_alloc (by simp [hsz1]) (at_alloc (by simp [hsz1]) _)))))
  have h2 : (W6 w1 B).heap[B + 1 + 1]? = some (.map #[] 0) := past_alloc (by simp [hsz1]) (past_alloc (by simp [hsz1]) (past_alloc (by simp [hsz1]) (past_alloc (by simp [hsz1]) (at_alloc (by simp [hsz1]) _))))
  have h3 : (W6 w1 B).heap[B + 1 + 1 + 1]? = some (c44 (B + 1 + 1 + 1 + 1 + 1)) := past_alloc (by simp [hsz1]) (past_alloc (by simp [hsz1]) (past_alloc (by simp [hsz1]) (at_alloc (by simp [hsz1]) _)))
  have h4 : (W6 w1 B).heap[B + 1 + 1 + 1 + 1]? = some (c44 (B + 1 + 1 + 1 + 1 + 1 + 1)) := past_alloc (by simp [hsz1]) (past_alloc (by simp [hsz1]) (at_alloc (by simp [hsz1]) _))
  have h5 : (W6 w1 B).heap[B + 1 + 1 + 1 + 1 + 1]? = some (.map #[] 0) := past_alloc (by simp [hsz1]) (at_alloc (by simp [hsz1]) _)
  have h6 : (W6 w1 B).heap[B + 1 + 1 + 1 + 1 + 1 + 1]? = some (.map #[] 0) := at_alloc (by simp [hsz1]) _
  generalize W6 w1 B = W at *
  refine ⟨fun i => if i = 0 then [B] else if i = 1 then [B + 1] else if i = 2 then [B + 2] else if i = 3 then [B + 3, B + 5] else if i = 4 then [B + 4, B + 6] else [], ⟨hled.frame hC (fun x => x) (fun _ _ x => x), ⟨#[], 0, h1, ⟨MapKept.stamped_empty 0, by simp, by simp⟩, rfl⟩, ⟨#[], 0, h2, ⟨MapKept.stamped_empty 0, by simp, by simp⟩, rfl⟩, rs0 h3 h5 (by omega), rs0 h4 h6 (by omega)⟩, ⟨?_, ?_⟩, rfl, rfl, rfl, rfl, rfl, rfl, ?_⟩
  · intro i j hi hj hij k hk hk2
    match i, hi, j, hj with
    | 0, _, 0, _ | 1, _, 1, _ | 2, _, 2, _ | 3, _, 3, _ | 4, _, 4, _ | 5, _, 5, _ => exact hij rfl
    | 0, _, 1, _ | 0, _, 2, _ | 1, _, 0, _ | 1, _, 2, _ | 2, _, 0, _ | 2, _, 1, _ => simp at hk hk2; omega
    | 0, _, 3, _ | 0, _, 4, _ | 1, _, 3, _ | 1, _, 4, _ | 2, _, 3, _ | 2, _, 4, _ => simp at hk hk2; omega
    | 3, _, 0, _ | 3, _, 1, _ | 3, _, 2, _ | 3, _, 4, _ | 4, _, 0, _ | 4, _, 1, _ => simp at hk hk2; omega
    | 4, _, 2, _ | 4, _, 3, _ => simp at hk hk2; omega
    | 5, _, 0, _ | 5, _, 1, _ | 5, _, 2, _ | 5, _, 3, _ | 5, _, 4, _ => simp at hk
    | 0, _, 5, _ | 1, _, 5, _ | 2, _, 5, _ | 3, _, 5, _ | 4, _, 5, _ => simp at hk2
  · intro i hi k hk
    rw [hS, hB]
    match i, hi with
    | 0, _ | 1, _ | 2, _ | 3, _ | 4, _ => simp at hk; omega
    | 5, _ => simp at hk
  · rw [hB]
    exact (hchg.trans hC (fun _ _ x => x)).below (fun _ x => x.elim) (by omega)

theorem pi0 (es : Nat → EntD) : PI es 0 led0 (fun _ => none) 0 (fun _ => none) R0 0 R0 0 :=
  ⟨dinv_nil _ _, fun _ => rfl, sinv0 _, sinv0 _, rfl, small_led0, Nat.le_refl _, Nat.le_refl _, fun i hi => by omega, fun i hi => by omega⟩

section
variable {w W : World} {O : Nat → List Nat} {lb db ub ab cb : Nat} {F : List Nat} {L : Led} {f : ByteArray → Option Int} {nd : Nat} {u : ByteArray → Option Int} {nu : Nat} {Ga : List Nat} {Ra : Resn} {Na : Nat} {Gc : List Nat} {Rc : Resn} {Nc : Nat} {X : List Nat}

theorem Mid.putD (h : Mid w W O lb db ub ab cb F L f nd u nu Ga Ra Na Gc Rc Nc X) (t : ByteArray) (s : Int) : ∃ W2 O', (Instr.mapUpdate 27 (.map (some db)) (.string t) (.int .u64 s)).run Try.prog W = .ok () W2 ∧
    Mid w W2 O' lb db ub ab cb F L (upd f t (some s)) (if (f t).isSome then nd else nd + 1) u nu Ga Ra Na Gc Rc Nc X ∧ Chg (fun k => k = db) W W2 := by
  obtain ⟨es1, clock1, hbk, R1, hsz⟩ := h.ag.dm
  obtain ⟨es3, clock3, hup, R3, hs3⟩ := R1.store (w := W) (b := db) (P := Try.prog) (t := 27) (kt := 9) (et := 28) hbk Try.underlying27 Try.underlying9 t s
  have hc : Chg (fun k => k = db) W (setBlock W db (.map es3 clock3)) := (Chg.refl (fun k => k = db) W).setBlock (fun _ => rfl) _
  have hbk3 : (setBlock W db (.map es3 clock3)).heap[db]? = some (.map es3 clock3) := heap_setBlock (Array.getElem?_eq_some_iff.1 hbk).1 _
  obtain ⟨O', hM⟩ := h.dbt (W2 := setBlock W db (.map es3 clock3)) ⟨es3, clock3, hbk3, R3, by rw [hs3, hsz]⟩ hc
  exact ⟨_, O', hup, hM, hc⟩
theorem Mid.putU (h : Mid w W O lb db ub ab cb F L f nd u nu Ga Ra Na Gc Rc Nc X) (t : ByteArray) (s : Int) : ∃ W2 O' nu', (Instr.mapUpdate 27 (.map (some ub)) (.string t) (.int .u64 s)).run Try.prog W = .ok () W2 ∧
    Mid w W2 O' lb db ub ab cb F L f nd (upd u t (some s)) nu' Ga Ra Na Gc Rc Nc X ∧ Chg (fun k => k = ub) W W2 := by
  obtain ⟨es1, clock1, hbk, R1, hsz⟩ := h.ag.um
  obtain ⟨es3, clock3, hup, R3, hs3⟩ := R1.store (w := W) (b := ub) (P := Try.prog) (t := 27) (kt := 9) (et := 28) hbk Try.underlying27 Try.underlying9 t s
  have hc : Chg (fun k => k = ub) W (setBlock W ub (.map es3 clock3)) := (Chg.refl (fun k => k = ub) W).setBlock (fun _ => rfl) _
  have hbk3 : (setBlock W ub (.map es3 clock3)).heap[ub]? = some (.map es3 clock3) := heap_setBlock (Array.getElem?_eq_some_iff.1 hbk).1 _
  obtain ⟨O', hM⟩ := h.unr (W2 := setBlock W ub (.map es3 clock3)) ⟨es3, clock3, hbk3, R3, rfl⟩ hc
  exact ⟨_, O', _, hup, hM, hc⟩
theorem Mid.delD (h : Mid w W O lb db ub ab cb F L f nd u nu Ga Ra Na Gc Rc Nc X) (t : ByteArray) : ∃ W2 O', (Builtin.delete_ #[27, 9] 0 #[.map (some db), .string t]).run Try.prog W = .ok (.tuple #[]) W2 ∧
    Mid w W2 O' lb db ub ab cb F L (upd f t none) (if (f t).isSome then nd - 1 else nd) u nu Ga Ra Na Gc Rc Nc X ∧ Chg (fun k => k = db) W W2 := by
  obtain ⟨es1, clock1, hbk, R1, hsz⟩ := h.ag.dm
  obtain ⟨es3, hdel, R3, hs3⟩ := R1.drop (w := W) (b := db) (P := Try.prog) (t := 27) (kt := 9) (et := 28) (ty := 0) hbk Try.underlying27 Try.underlying9 t
  have hc : Chg (fun k => k = db) W (setBlock W db (.map es3 clock1)) := (Chg.refl (fun k => k = db) W).setBlock (fun _ => rfl) _
  have hbk3 : (setBlock W db (.map es3 clock1)).heap[db]? = some (.map es3 clock1) := heap_setBlock (Array.getElem?_eq_some_iff.1 hbk).1 _
  obtain ⟨O', hM⟩ := h.dbt (W2 := setBlock W db (.map es3 clock1)) ⟨es3, clock1, hbk3, R3, by rw [hs3, hsz]⟩ hc
  exact ⟨_, O', hdel, hM, hc⟩
theorem Mid.delU (h : Mid w W O lb db ub ab cb F L f nd u nu Ga Ra Na Gc Rc Nc X) (t : ByteArray) : ∃ W2 O' nu', (Builtin.delete_ #[27, 9] 0 #[.map (some ub), .string t]).run Try.prog W = .ok (.tuple #[]) W2 ∧
    Mid w W2 O' lb db ub ab cb F L f nd (upd u t none) nu' Ga Ra Na Gc Rc Nc X ∧ Chg (fun k => k = ub) W W2 := by
  obtain ⟨es1, clock1, hbk, R1, hsz⟩ := h.ag.um
  obtain ⟨es3, hdel, R3, hs3⟩ := R1.drop (w := W) (b := ub) (P := Try.prog) (t := 27) (kt := 9) (et := 28) (ty := 0) hbk Try.underlying27 Try.underlying9 t
  have hc : Chg (fun k => k = ub) W (setBlock W ub (.map es3 clock1)) := (Chg.refl (fun k => k = ub) W).setBlock (fun _ => rfl) _
  have hbk3 : (setBlock W ub (.map es3 clock1)).heap[ub]? = some (.map es3 clock1) := heap_setBlock (Array.getElem?_eq_some_iff.1 hbk).1 _
  obtain ⟨O', hM⟩ := h.unr (W2 := setBlock W ub (.map es3 clock1)) ⟨es3, clock1, hbk3, R3, rfl⟩ hc
  exact ⟨_, O', _, hdel, hM, hc⟩
end
theorem remI_txn {R : Resn} {N : Nat} {t : ByteArray} {i : Nat} (h : remI R N t = some i) : (R i).2.1 = t := by
  unfold remI at h
  cases hl : lastOf R t N with
  | none => rw [hl] at h; cases h
  | some m =>
    obtain ⟨h1, h2, h3, _⟩ := lastOf_some hl
    rw [hl] at h
    simp only at h
    split at h
    · injection h with h; subst h; exact h3
    · cases h
end Go.Proofs.Qxb6616074a
