/-
  OWN TEXT. The unreleased commits: made, stored into, deleted from; over the whole ledger.
-/
import Derived.Test.Qxb6616074aLed2
namespace Go.Proofs.Qxb6616074a
open Go.RowKit Go.MapKept Go.ChangeMaps

section
variable {w : World} {lb : Nat} {F : List Nat} {L : Led}

theorem LedS.uv (h : LedS w lb F L) : ∃ mo, w.cell? ⟨lb, 2, none⟩ = some (.map mo) ∧ w.frozen? ⟨lb, 2, none⟩ = false := by
  obtain ⟨D, uv, nu, amv, aov, na, cmv, cov, nc, h, rfl⟩ := h
  obtain ⟨h1, h2, h3⟩ := h.una
  rcases h3 with ⟨rfl, _⟩ | ⟨r, rfl, _⟩
  · exact ⟨_, h1, h2⟩
  · exact ⟨_, h1, h2⟩

/-- 'delete(l.unreleased, t)' -/
theorem led_un_del (h : LedS w lb F L) (mo : Option Nat) (hmo : w.cell? ⟨lb, 2, none⟩ = some (.map mo)) (t : ByteArray) :
    ∃ w2, (Builtin.delete_ #[54, 9] 0 #[.map mo, .string t]).run Try.prog w = .ok (.tuple #[]) w2 ∧ LedS w2 lb F { L with un := upd L.un t none } ∧ Stp lb F w F w2 := by
  obtain ⟨D, uv, nu, amv, aov, na, cmv, cov, nc, h, rfl⟩ := h
  have hl := h.abo.lb_lt
  obtain ⟨h1, h2, h3⟩ := h.una
  rw [h1] at hmo
  obtain rfl := Option.some.inj hmo
  rcases h3 with ⟨hr, hun, hnu⟩ | ⟨r, hr, hM⟩
  · cases hr
    refine ⟨w, run_delete_nil Try.underlying54 Try.underlying9 t, ?_, Stp.refl _ _ _⟩
    have e : upd L.un t none = L.un := by rw [hun]; funext x; simp [upd]
    rw [e]
    exact ⟨D, _, nu, amv, aov, na, cmv, cov, nc, h, rfl⟩
  · cases hr
    obtain ⟨es, clock, hb, R, hsz⟩ := hM
    obtain ⟨es', hrun, R', hs'⟩ := R.drop (w := w) (b := r) (P := Try.prog) (t := 54) (kt := 9) (et := 59) (ty := 0) hb Try.underlying54 Try.underlying9 t
    have hrl := (h.ul r (by simp [vblk]))
    have hc : Chg (fun k => k = r) w (setBlock w r (.map es' clock)) := (Chg.refl (fun k => k = r) w).setBlock (fun _ => rfl) _
    have hk : KeepS lb (fun x => x = 2) w (setBlock w r (.map es' clock)) := (KeepS.refl _ _ _).chg hc hl (Ne.symm hrl.2)
    have hb' : (setBlock w r (.map es' clock)).heap[r]? = some (.map es' clock) := heap_setBlock hrl.1 _
    refine ⟨_, hrun, ⟨D, .map (some r), es'.size, amv, aov, na, cmv, cov, nc, h.setUn ⟨?_, (hk.frozen 2).trans h2, .inr ⟨r, rfl, es', clock, hb', R', rfl⟩⟩ ?_ (fun k hk => .inl hk) (hc.mono (fun k _ e => .inr (by simp [vblk, e]))) hk, rfl⟩, ?_⟩
    · exact (hc.cells hl (Ne.symm hrl.2) 2).trans h1
    · intro k hk; simp [vblk] at hk; subst hk; exact ⟨by rw [size_setBlock]; exact hrl.1, hrl.2⟩
    · refine ⟨hc.mono (fun k _ e => .inr ?_), fun k hk => .inl hk⟩
      subst e
      simp [vblk]

/-- 'l.unreleased[t] = s', the map there -/
theorem led_un_store (h : LedS w lb F L) (r : Nat) (hmo : w.cell? ⟨lb, 2, none⟩ = some (.map (some r))) (t : ByteArray) (s : Int) :
    ∃ w2, (Instr.mapUpdate 54 (.map (some r)) (.string t) (.int .u64 s)).run Try.prog w = .ok () w2 ∧ LedS w2 lb F { L with un := upd L.un t (some s) } ∧ Stp lb F w F w2 := by
  obtain ⟨D, uv, nu, amv, aov, na, cmv, cov, nc, h, rfl⟩ := h
  have hl := h.abo.lb_lt
  obtain ⟨h1, h2, h3⟩ := h.una
  rw [h1] at hmo
  obtain rfl := Option.some.inj hmo
  rcases h3 with ⟨hr, hun, hnu⟩ | ⟨r', hr, hM⟩
  · cases hr
  · cases hr
    obtain ⟨es, clock, hb, R, hsz⟩ := hM
    obtain ⟨es', clock', hrun, R', hs'⟩ := R.store (w := w) (b := r) (P := Try.prog) (t := 54) (kt := 9) (et := 59) hb Try.underlying54 Try.underlying9 t s
    have hrl := (h.ul r (by simp [vblk]))
    have hc : Chg (fun k => k = r) w (setBlock w r (.map es' clock')) := (Chg.refl (fun k => k = r) w).setBlock (fun _ => rfl) _
    have hk : KeepS lb (fun x => x = 2) w (setBlock w r (.map es' clock')) := (KeepS.refl _ _ _).chg hc hl (Ne.symm hrl.2)
    have hb' : (setBlock w r (.map es' clock')).heap[r]? = some (.map es' clock') := heap_setBlock hrl.1 _
    refine ⟨_, hrun, ⟨D, .map (some r), es'.size, amv, aov, na, cmv, cov, nc, h.setUn ⟨?_, (hk.frozen 2).trans h2, .inr ⟨r, rfl, es', clock', hb', R', rfl⟩⟩ ?_ (fun k hk => .inl hk) (hc.mono (fun k _ e => .inr (by simp [vblk, e]))) hk, rfl⟩, ?_⟩
    · exact (hc.cells hl (Ne.symm hrl.2) 2).trans h1
    · intro k hk; simp [vblk] at hk; subst hk; exact ⟨by rw [size_setBlock]; exact hrl.1, hrl.2⟩
    · refine ⟨hc.mono (fun k _ e => .inr ?_), fun k hk => .inl hk⟩
      subst e
      simp [vblk]

/-- 'l.unreleased = map[string]Stamp{}', beside one new block -/
theorem led_un_make (h : LedS w lb F L) (hmo : w.cell? ⟨lb, 2, none⟩ = some (.map none)) (X : Array Value) (T : TypeId) :
    ∃ F', LedS (((w.setCell ⟨lb, 2, none⟩ (.map (some (w.heap.size + 1)))).alloc (.cells X T)).alloc (.map #[] 0)) lb F' L ∧
      Stp lb F w F' (((w.setCell ⟨lb, 2, none⟩ (.map (some (w.heap.size + 1)))).alloc (.cells X T)).alloc (.map #[] 0)) ∧
      (((w.setCell ⟨lb, 2, none⟩ (.map (some (w.heap.size + 1)))).alloc (.cells X T)).alloc (.map #[] 0)).cell? ⟨lb, 2, none⟩ = some (.map (some (w.heap.size + 1))) ∧
      (∀ j, (((w.setCell ⟨lb, 2, none⟩ (.map (some (w.heap.size + 1)))).alloc (.cells X T)).alloc (.map #[] 0)).cell? ⟨w.heap.size, j, none⟩ = X[j]?) ∧ (∀ k ∈ F', k ≠ w.heap.size) := by
  have hlts := h.lts
  obtain ⟨D, uv, nu, amv, aov, na, cmv, cov, nc, h, rfl⟩ := h
  have hl := h.abo.lb_lt
  obtain ⟨h1, h2, h3⟩ := h.una
  have hmo0 := hmo
  rw [h1] at hmo0
  obtain rfl := Option.some.inj hmo0
  rcases h3 with ⟨_, hun, hnu⟩ | ⟨r', hr, hM⟩
  case inr => cases hr
  generalize hwa : w.setCell ⟨lb, 2, none⟩ (.map (some (w.heap.size + 1))) = wa
  have hsz : wa.heap.size = w.heap.size := by rw [← hwa, size_setCell]
  have hca : Chg (fun k => k = lb) w wa := by rw [← hwa]; exact (Chg.refl (fun k => k = lb) w).setCell (a := ⟨lb, 2, none⟩) (fun _ => rfl) _
  have hka : KeepS lb (fun x => x = 2) w wa := by rw [← hwa]; exact (KeepS.refl lb (fun x => x = 2) w).setCell (a := ⟨lb, 2, none⟩) (fun _ _ => rfl) _
  have hcell : wa.cell? ⟨lb, 2, none⟩ = some (.map (some (w.heap.size + 1))) := by rw [← hwa]; exact World.cell?_setCell_same _ _ _ h1
  generalize hwb : wa.alloc (.cells X T) = wb
  have hszb : wb.heap.size = w.heap.size + 1 := by rw [← hwb, ← hsz]; simp
  have hX : ∀ j, wb.cell? ⟨w.heap.size, j, none⟩ = X[j]? := fun j => by rw [← hwb]; exact cell_new hsz.symm X T j
  have hcab : Chg (fun _ => False) wa wb := by rw [← hwb]; exact chg_alloc _ _ _
  have hcb : Chg (fun k => k = lb) w wb := hca.trans hcab (fun _ _ x => x.elim)
  have hkb : KeepS lb (fun x => x = 2) w wb := hka.chg hcab (by omega) (fun x => x)
  have hcc : Chg (fun _ => False) wb (wb.alloc (.map #[] 0)) := chg_alloc _ _ _
  have hcw : Chg (fun k => k = lb) w (wb.alloc (.map #[] 0)) := hcb.trans hcc (fun _ _ x => x.elim)
  have hkw : KeepS lb (fun x => x = 2) w (wb.alloc (.map #[] 0)) := hkb.chg hcc (by omega) (fun x => x)
  have hc2 : (wb.alloc (.map #[] 0)).cell? ⟨lb, 2, none⟩ = some (.map (some (w.heap.size + 1))) := by
    rw [hcc.cells (by omega) (fun x => x), hcab.cells (by omega) (fun x => x)]; exact hcell
  have hmap : (wb.alloc (.map #[] 0)).heap[w.heap.size + 1]? = some (.map #[] 0) := by rw [← hszb]; exact (MapKept.heap_alloc _ _).1
  have hszw : (wb.alloc (.map #[] 0)).heap.size = w.heap.size + 2 := by simp [hszb]
  have hU : UnAt (wb.alloc (.map #[] 0)) lb (.map (some (w.heap.size + 1))) L.un 0 := ⟨hc2, (hkw.frozen 2).trans h2, .inr ⟨_, rfl, #[], 0, hmap, ⟨MapKept.stamped_empty 0, by simp, by rw [hun]; simp⟩, rfl⟩⟩
  have hL := h.setUn hU (by intro k hk; simp [vblk] at hk; subst hk; omega) (by intro k hk; simp [vblk] at hk; subst hk; exact .inr (by omega)) (hcw.mono (fun k _ e => .inl e)) hkw
  refine ⟨_, ⟨D, _, 0, amv, aov, na, cmv, cov, nc, hL, rfl⟩, ⟨hcw.mono (fun k _ e => .inl e), fun k hk => ?_⟩, hc2, ?_, ?_⟩
  · simp only [List.mem_append] at hk ⊢
    rcases hk with ((hk | hk) | hk) | hk
    · exact .inl (.inl (.inl (.inl hk)))
    · simp [vblk] at hk; subst hk; exact .inr (by omega)
    · exact .inl (.inl (.inr hk))
    · exact .inl (.inr hk)
  · intro j
    by_cases hj : j < X.size
    · have := hX j
      rw [Array.getElem?_eq_getElem hj] at this
      rw [hcc.cell this (fun x => x), Array.getElem?_eq_getElem hj]
    · rw [World.cell?_alloc_past _ _ _ (by show w.heap.size < wb.heap.size; omega)]
      exact hX j
  · intro k hk e
    subst e
    simp only [List.mem_append] at hk
    rcases hk with ((hk | hk) | hk) | hk
    · have := (hlts w.heap.size (by simp [hk])).1; omega
    · simp [vblk] at hk
    · have := (hlts w.heap.size (by simp only [List.mem_append]; exact .inl (.inr hk))).1; omega
    · have := (hlts w.heap.size (by simp only [List.mem_append]; exact .inr hk)).1; omega
end
end Go.Proofs.Qxb6616074a
