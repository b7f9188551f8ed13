/-
  OWN TEXT. The log of resolutions: its plain form, where it lies in memory.
-/
import Derived.Test.Qxb6616074aPushC
namespace Go.Proofs.Qxb6616074a
open Go.RowKit Go.MapKept Go.ChangeMaps

/-- an outcome: its number, its kind, its stamp -/
abbrev Outc := Int × Int × Int
def outV (x : Outc) : Value := .agg #[.int .u64 x.1, .int .u8 x.2.1, .int .u64 x.2.2]
abbrev Latest := ByteArray → Option Outc

def nOf (x : Option Outc) : Int := (x.map (·.1)).getD 0
def stOf (x : Option Outc) : Int := (x.map (·.2.2)).getD 0

theorem nOf_getD (x : Option Outc) : nOf x = (x.getD (0, 0, 0)).1 := by cases x <;> rfl
theorem stOf_getD (x : Option Outc) : stOf x = (x.getD (0, 0, 0)).2.2 := by cases x <;> rfl
theorem outV_getD (x : Option Outc) : (x.map outV).getD (outV (0, 0, 0)) = outV (x.getD (0, 0, 0)) := by cases x <;> rfl
/-- forget what lies beyond the window -/
def trimF : List Dbt → Latest → Int → List Dbt × Latest × Int
  | [], f, g => ([], f, g)
  | old :: r, f, g =>
    if r.length < 10000 then (old :: r, f, g)
    else if nOf (f old.1) = old.2 then trimF r (upd f old.1 none) (max g (stOf (f old.1))) else trimF r f g

theorem trim_stop {ord : List Dbt} {f : Latest} {g : Int} (h : ord.length ≤ 10000) : trimF ord f g = (ord, f, g) := by
  cases ord with
  | nil => rfl
  | cons a r => simp only [trimF]; rw [if_pos (by simp at h; omega)]
theorem trim_miss {old : Dbt} {r : List Dbt} {f : Latest} {g : Int} (h : ¬ (old :: r).length ≤ 10000) (hn : nOf (f old.1) ≠ old.2) : trimF (old :: r) f g = trimF r f g := by
  simp only [trimF]; rw [if_neg (by simp at h; omega), if_neg hn]
theorem trim_hit {old : Dbt} {r : List Dbt} {f : Latest} {g : Int} (h : ¬ (old :: r).length ≤ 10000) (hn : nOf (f old.1) = old.2) : trimF (old :: r) f g = trimF r (upd f old.1 none) (max g (stOf (f old.1))) := by
  simp only [trimF]; rw [if_neg (by simp at h; omega), if_pos hn]

def vblk : Value → List Nat
  | .slice (some a) _ _ => [a.block]
  | .map (some r) => [r]
  | _ => []

structure LogAt (w : World) (lb o : Nat) (mv ov : Value) (f : Latest) (nf : Nat) (ord : List Dbt) (cnt : Nat) : Prop where
  c0 : w.cell? ⟨lb, o, none⟩ = some mv
  c1 : w.cell? ⟨lb, o + 1, none⟩ = some ov
  c2 : w.cell? ⟨lb, o + 2, none⟩ = some (.int .u64 cnt)
  f0 : w.frozen? ⟨lb, o, none⟩ = false
  f1 : w.frozen? ⟨lb, o + 1, none⟩ = false
  f2 : w.frozen? ⟨lb, o + 2, none⟩ = false
  row : SliceAt w ov 2 ord.length (flat ord)
  map : (mv = .map none ∧ f = (fun _ => none) ∧ nf = 0) ∨ ∃ r, mv = .map (some r) ∧ MapAt w r outV f nf
  nel : ∀ k, k ∈ vblk mv ++ vblk ov → k ≠ lb
  nem : ∀ k, k ∈ vblk mv → k ∉ vblk ov

theorem vblk_own {v : Value} {k : Nat} (h : v.ownBlock = some k) : k ∈ vblk v := by
  unfold Value.ownBlock at h
  split at h
  · simp [vblk] at h ⊢; exact h.symm
  · cases h

section
variable {w w' : World} {lb o : Nat} {mv ov : Value} {f : Latest} {nf : Nat} {ord : List Dbt} {cnt : Nat} {F : Nat → Prop}

theorem LogAt.lb_lt (h : LogAt w lb o mv ov f nf ord cnt) : lb < w.heap.size := World.block_lt_of_cell? w _ h.c0
theorem LogAt.frame (h : LogAt w lb o mv ov f nf ord cnt) (hc : Chg F w w') (hlb : ¬ F lb) (hm : ∀ k ∈ vblk mv, ¬ F k) (ho : ∀ k ∈ vblk ov, ¬ F k) : LogAt w' lb o mv ov f nf ord cnt := by
  have hl := h.lb_lt
  refine ⟨(hc.cells hl hlb _).trans h.c0, (hc.cells hl hlb _).trans h.c1, (hc.cells hl hlb _).trans h.c2, (hc.frozens hl hlb _).trans h.f0, (hc.frozens hl hlb _).trans h.f1, (hc.frozens hl hlb _).trans h.f2,
    h.row.kept hc (fun k hk => ho k (vblk_own hk)), ?_, h.nel, h.nem⟩
  rcases h.map with hn | ⟨r, rfl, hM⟩
  · exact .inl hn
  · exact .inr ⟨r, rfl, hM.kept hc (hm r (by simp [vblk]))⟩
/-- The same, while other cells of the struct's block turn. -/
theorem LogAt.frameS (h : LogAt w lb o mv ov f nf ord cnt) {O : Nat → Prop} (hc : Chg F w w') (hk : KeepS lb O w w') (h0 : ¬ O o) (h1 : ¬ O (o + 1)) (h2 : ¬ O (o + 2)) (hm : ∀ k ∈ vblk mv, ¬ F k) (ho : ∀ k ∈ vblk ov, ¬ F k) : LogAt w' lb o mv ov f nf ord cnt := by
  refine ⟨(hk.cell _ h0).trans h.c0, (hk.cell _ h1).trans h.c1, (hk.cell _ h2).trans h.c2, (hk.frozen _).trans h.f0, (hk.frozen _).trans h.f1, (hk.frozen _).trans h.f2,
    h.row.kept hc (fun k hk => ho k (vblk_own hk)), ?_, h.nel, h.nem⟩
  rcases h.map with hn | ⟨r, rfl, hM⟩
  · exact .inl hn
  · exact .inr ⟨r, rfl, hM.kept hc (hm r (by simp [vblk]))⟩
theorem LogAt.drewN (h : LogAt w lb o mv ov f nf ord cnt) (q : Nat) : LogAt (w.drewN q) lb o mv ov f nf ord cnt := h.frame (F := fun _ => False) ((Chg.refl _ _).drewN q) (fun x => x) (fun _ _ x => x) (fun _ _ x => x)
theorem LogAt.setMap {r : Nat} {f' : Latest} {nf' : Nat} (h : LogAt w lb o (.map (some r)) ov f nf ord cnt) (hc : Chg (fun k => k = r) w w') (hM : MapAt w' r outV f' nf') : LogAt w' lb o (.map (some r)) ov f' nf' ord cnt := by
  have hl := h.lb_lt
  have hrl : lb ≠ r := Ne.symm (h.nel r (by simp [vblk]))
  refine ⟨(hc.cells hl hrl _).trans h.c0, (hc.cells hl hrl _).trans h.c1, (hc.cells hl hrl _).trans h.c2, (hc.frozens hl hrl _).trans h.f0, (hc.frozens hl hrl _).trans h.f1, (hc.frozens hl hrl _).trans h.f2,
    h.row.kept hc (fun k hk e => h.nem r (by simp [vblk]) (by rw [← e]; exact vblk_own hk)), .inr ⟨r, rfl, hM⟩, h.nel, h.nem⟩
/-- the order's slice is written anew -/
theorem LogAt.setOrd {r : Nat} {ov' : Value} {ord' : List Dbt} (h : LogAt w lb o (.map (some r)) ov f nf ord cnt) (hs : SliceAt w ov' 2 ord'.length (flat ord')) (hb : ∀ k ∈ vblk ov', k ≠ lb ∧ k ≠ r) :
    LogAt (w.setCell ⟨lb, o + 1, none⟩ ov') lb o (.map (some r)) ov' f nf ord' cnt := by
  have hc : Chg (fun k => k = lb) w (w.setCell ⟨lb, o + 1, none⟩ ov') := (Chg.refl (fun k => k = lb) w).setCell (a := ⟨lb, o + 1, none⟩) (fun _ => rfl) _
  have hrl : r ≠ lb := h.nel r (by simp [vblk])
  refine ⟨?_, World.cell?_setCell_same _ _ _ h.c1, ?_, ?_, ?_, ?_, hs.kept hc (fun k hk => (hb k (vblk_own hk)).1), ?_, ?_, ?_⟩
  · rw [World.cell?_setCell_other _ _ _ _ (by simp)]; exact h.c0
  · rw [World.cell?_setCell_other _ _ _ _ (by simp)]; exact h.c2
  · rw [World.frozen?_setCell]; exact h.f0
  · rw [World.frozen?_setCell]; exact h.f1
  · rw [World.frozen?_setCell]; exact h.f2
  · rcases h.map with ⟨hn, _⟩ | ⟨r', hr', hM⟩
    · simp at hn
    · simp at hr'
      subst hr'
      exact .inr ⟨r, rfl, hM.kept hc hrl⟩
  · intro k hk
    rcases List.mem_append.1 hk with hk | hk
    · exact h.nel k (List.mem_append.2 (.inl hk))
    · exact (hb k hk).1
  · intro k hk hk'
    simp [vblk] at hk
    exact (hb k hk').2 hk
theorem mkLog {r : Nat} {x ov' : Value} {ord' : List Dbt} (c0 : w.cell? ⟨lb, o, none⟩ = some (.map (some r))) (c1 : w.cell? ⟨lb, o + 1, none⟩ = some x) (c2 : w.cell? ⟨lb, o + 2, none⟩ = some (.int .u64 cnt))
    (f0 : w.frozen? ⟨lb, o, none⟩ = false) (f1 : w.frozen? ⟨lb, o + 1, none⟩ = false) (f2 : w.frozen? ⟨lb, o + 2, none⟩ = false) (hM : MapAt w r outV f nf) (hrl : r ≠ lb)
    (hs : SliceAt w ov' 2 ord'.length (flat ord')) (hb : ∀ k ∈ vblk ov', k ≠ lb ∧ k ≠ r) : LogAt (w.setCell ⟨lb, o + 1, none⟩ ov') lb o (.map (some r)) ov' f nf ord' cnt := by
  have hc : Chg (fun k => k = lb) w (w.setCell ⟨lb, o + 1, none⟩ ov') := (Chg.refl (fun k => k = lb) w).setCell (a := ⟨lb, o + 1, none⟩) (fun _ => rfl) _
  refine ⟨?_, World.cell?_setCell_same _ _ _ c1, ?_, ?_, ?_, ?_, hs.kept hc (fun k hk => (hb k (vblk_own hk)).1), .inr ⟨r, rfl, hM.kept hc hrl⟩, ?_, ?_⟩
  · rw [World.cell?_setCell_other _ _ _ _ (by simp)]; exact c0
  · rw [World.cell?_setCell_other _ _ _ _ (by simp)]; exact c2
  · rw [World.frozen?_setCell]; exact f0
  · rw [World.frozen?_setCell]; exact f1
  · rw [World.frozen?_setCell]; exact f2
  · intro k hk
    rcases List.mem_append.1 hk with hk | hk
    · simp [vblk] at hk; rw [hk]; exact hrl
    · exact (hb k hk).1
  · intro k hk hk'
    simp [vblk] at hk
    exact (hb k hk').2 hk
theorem LogAt.mapAt {r : Nat} (h : LogAt w lb o (.map (some r)) ov f nf ord cnt) : MapAt w r outV f nf := by
  rcases h.map with ⟨hn, _⟩ | ⟨r', hr', hM⟩
  · simp at hn
  · simp at hr'
    subst hr'
    exact hM
end

/-- What stands when the entry has been boxed and the map made where it was not. -/
structure Pre0 (w w1 : World) (lb o nb r : Nat) (mv ov : Value) (f : Latest) (nf : Nat) (ord : List Dbt) (cnt : Nat) (t : ByteArray) (kd st : Int) : Prop where
  log : LogAt w1 lb o (.map (some r)) ov f nf ord cnt
  e0 : w1.cell? ⟨nb, 0, none⟩ = some (.int .u8 kd)
  e1 : w1.cell? ⟨nb, 1, none⟩ = some (.string t)
  e2 : w1.cell? ⟨nb, 2, none⟩ = some (.int .u64 st)
  nbe : nb = w.heap.size
  chg : Chg (fun k => k = lb) w w1
  keep : KeepS lb (fun x => x = o ∨ x = o + 2) w w1
  rnew : r ∈ vblk mv ∨ w.heap.size ≤ r
  nbr : nb ≠ r
  nbo : ∀ k ∈ vblk ov, k < w.heap.size

section
variable {w : World} {lb o : Nat} {mv ov : Value} {f : Latest} {nf : Nat} {ord : List Dbt} {cnt : Nat}

theorem slice_lt {w : World} {v : Value} {size n : Nat} {xs : List Value} (h : SliceAt w v size n xs) : ∀ k ∈ vblk v, k < w.heap.size := by
  rcases h with ⟨rfl, _⟩ | ⟨g, off, cap, rfl, hlt, _⟩
  · intro k hk; simp [vblk] at hk
  · intro k hk; simp [vblk] at hk; omega

theorem pre0_live {r : Nat} (h : LogAt w lb o (.map (some r)) ov f nf ord cnt) (t : ByteArray) (kd st : Int) :
    Pre0 w (w.alloc (.cells #[.int .u8 kd, .string t, .int .u64 st] 65)) lb o w.heap.size r (.map (some r)) ov f nf ord cnt t kd st := by
  have hl := h.lb_lt
  have hlr : r < w.heap.size := h.mapAt.lt
  have hcb : Chg (fun _ => False) w (w.alloc (.cells #[.int .u8 kd, .string t, .int .u64 st] 65)) := chg_alloc _ _ _
  refine ⟨h.frame hcb (fun x => x) (fun _ _ x => x) (fun _ _ x => x), ?_, ?_, ?_, rfl, ?_, ?_, .inl (by simp [vblk]), by omega, slice_lt h.row⟩
  · rw [cell_new rfl]; rfl
  · rw [cell_new rfl]; rfl
  · rw [cell_new rfl]; rfl
  · exact chg_alloc _ _ _
  · exact (KeepS.refl _ _ _).alloc hl _

theorem pre0_nil (h : LogAt w lb o (.map none) ov (fun _ => none) 0 ord cnt) (t : ByteArray) (kd st : Int) :
    Pre0 w (((w.setCell ⟨lb, o, none⟩ (.map (some (w.heap.size + 1)))).alloc (.cells #[.int .u8 kd, .string t, .int .u64 st] 65)).alloc (.map #[] 0)) lb o w.heap.size (w.heap.size + 1) (.map none) ov (fun _ => none) 0 ord cnt t kd st := by
  have hl := h.lb_lt
  have hol := slice_lt h.row
  generalize hwa : w.setCell ⟨lb, o, none⟩ (.map (some (w.heap.size + 1))) = wa
  have hsz : wa.heap.size = w.heap.size := by rw [← hwa, size_setCell]
  have hca : Chg (fun k => k = lb) w wa := by rw [← hwa]; exact (Chg.refl (fun k => k = lb) w).setCell (a := ⟨lb, o, none⟩) (fun _ => rfl) _
  have hka : KeepS lb (fun x => x = o ∨ x = o + 2) w wa := by rw [← hwa]; exact (KeepS.refl lb (fun x => x = o ∨ x = o + 2) w).setCell (a := ⟨lb, o, none⟩) (fun _ _ => .inl rfl) _
  generalize hwb : wa.alloc (.cells #[.int .u8 kd, .string t, .int .u64 st] 65) = wb
  have hszb : wb.heap.size = w.heap.size + 1 := by rw [← hwb, ← hsz]; simp
  have hcb : Chg (fun k => k = lb) w wb := by rw [← hwb]; exact hca.alloc _
  have hkb : KeepS lb (fun x => x = o ∨ x = o + 2) w wb := by rw [← hwb]; exact hka.alloc (by omega) _
  have hcc : Chg (fun _ => False) wb (wb.alloc (.map #[] 0)) := chg_alloc _ _ _
  have hb0 : wb.cell? ⟨w.heap.size, 0, none⟩ = some (.int .u8 kd) := by rw [← hwb, cell_new (by omega)]; rfl
  have hb1 : wb.cell? ⟨w.heap.size, 1, none⟩ = some (.string t) := by rw [← hwb, cell_new (by omega)]; rfl
  have hb2 : wb.cell? ⟨w.heap.size, 2, none⟩ = some (.int .u64 st) := by rw [← hwb, cell_new (by omega)]; rfl
  have hcab : ∀ x, wb.cell? ⟨lb, x, none⟩ = wa.cell? ⟨lb, x, none⟩ := fun x => by
    rw [← hwb]; exact (chg_alloc (fun _ => False) wa _).cells (by omega) (fun x => x) x
  have hcbc := hcc.cells (b := lb) (by omega) (fun x => x)
  have hfbc := hcc.frozens (b := lb) (by omega) (fun x => x)
  refine ⟨⟨?_, ?_, ?_, (hfbc _).trans ((hkb.frozen _).trans h.f0), (hfbc _).trans ((hkb.frozen _).trans h.f1), (hfbc _).trans ((hkb.frozen _).trans h.f2), ?_, ?_, ?_, ?_⟩, hcc.cell hb0 (fun x => x), hcc.cell hb1 (fun x => x), hcc.cell hb2 (fun x => x), rfl, ?_, ?_, .inr (by omega), by omega, hol⟩
  · rw [hcbc, hcab, ← hwa]
    exact World.cell?_setCell_same _ _ _ h.c0
  · rw [hcbc, hcab, ← hwa, World.cell?_setCell_other _ _ _ _ (by simp)]
    exact h.c1
  · rw [hcbc, hcab, ← hwa, World.cell?_setCell_other _ _ _ _ (by simp)]
    exact h.c2
  · exact (h.row.kept hcb (fun k hk => h.nel k (List.mem_append.2 (.inr (vblk_own hk))))).kept hcc (fun _ _ x => x)
  · refine .inr ⟨_, rfl, ⟨#[], 0, ?_, ⟨MapKept.stamped_empty 0, by simp, by simp⟩, rfl⟩⟩
    rw [← hszb]
    exact (MapKept.heap_alloc _ _).1
  · intro k hk
    rcases List.mem_append.1 hk with hk | hk
    · simp [vblk] at hk; omega
    · have := hol k hk; exact h.nel k (List.mem_append.2 (.inr hk))
  · intro k hk hk'
    simp [vblk] at hk
    have := hol k hk'
    omega
  · exact hcb.alloc _
  · exact hkb.alloc (by omega) _

/-- the count is raised -/
theorem Pre0.count {w w0 : World} {lb o nb r : Nat} {mv ov : Value} {f : Latest} {nf : Nat} {ord : List Dbt} {cnt : Nat} {t : ByteArray} {kd st : Int} (h : Pre0 w w0 lb o nb r mv ov f nf ord cnt t kd st) (hlb : lb < w.heap.size) :
    Pre0 w (w0.setCell ⟨lb, o + 2, none⟩ (.int .u64 ((cnt : Int) + 1))) lb o nb r mv ov f nf ord (cnt + 1) t kd st := by
  have hc : Chg (fun k => k = lb) w0 (w0.setCell ⟨lb, o + 2, none⟩ (.int .u64 ((cnt : Int) + 1))) := (Chg.refl (fun k => k = lb) w0).setCell (a := ⟨lb, o + 2, none⟩) (fun _ => rfl) _
  have hl := h.log
  have hnl : ¬ nb = lb := by have := h.nbe; omega
  refine ⟨⟨?_, ?_, World.cell?_setCell_same _ _ _ hl.c2, ?_, ?_, ?_, hl.row.kept hc (fun k hk => hl.nel k (List.mem_append.2 (.inr (vblk_own hk)))), .inr ⟨r, rfl, hl.mapAt.kept hc (hl.nel r (by simp [vblk]))⟩, hl.nel, hl.nem⟩,
    hc.cell h.e0 hnl, hc.cell h.e1 hnl, hc.cell h.e2 hnl, h.nbe, h.chg.tr hc, h.keep.setCell (a := ⟨lb, o + 2, none⟩) (fun _ _ => .inr rfl) _, h.rnew, h.nbr, h.nbo⟩
  · rw [World.cell?_setCell_other _ _ _ _ (by simp)]; exact hl.c0
  · rw [World.cell?_setCell_other _ _ _ _ (by simp)]; exact hl.c1
  · rw [World.frozen?_setCell]; exact hl.f0
  · rw [World.frozen?_setCell]; exact hl.f1
  · rw [World.frozen?_setCell]; exact hl.f2
end

/-- the oldest resolution leaves the order: its cells are made zero, the slice moves on -/
theorem log_shift {w : World} {lb o r g off n cap : Nat} {f : Latest} {nf : Nat} {old : Dbt} {rest : List Dbt} {cnt : Nat} (h : LogAt w lb o (.map (some r)) (.slice (some ⟨g, off, none⟩) n cap) f nf (old :: rest) cnt) :
    LogAt (((w.setCell ⟨g, off, none⟩ (.string { data := #[] })).setCell ⟨g, off + 1, none⟩ (.int .u64 0)).setCell ⟨lb, o + 1, none⟩ (.slice (some ⟨g, off + 2, none⟩) rest.length (cap - 1))) lb o (.map (some r)) (.slice (some ⟨g, off + 2, none⟩) rest.length (cap - 1)) f nf rest cnt ∧
    Chg (fun k => k = lb ∨ k = g) w (((w.setCell ⟨g, off, none⟩ (.string { data := #[] })).setCell ⟨g, off + 1, none⟩ (.int .u64 0)).setCell ⟨lb, o + 1, none⟩ (.slice (some ⟨g, off + 2, none⟩) rest.length (cap - 1))) ∧
    KeepS lb (fun x => x = o + 1) w (((w.setCell ⟨g, off, none⟩ (.string { data := #[] })).setCell ⟨g, off + 1, none⟩ (.int .u64 0)).setCell ⟨lb, o + 1, none⟩ (.slice (some ⟨g, off + 2, none⟩) rest.length (cap - 1))) := by
  have hg := h.nel g (by simp [vblk])
  have hgr : g ≠ r := fun e => h.nem r (by simp [vblk]) (by simp [vblk, e])
  have hl := h.lb_lt
  rcases h.row with ⟨h', _⟩ | ⟨g', off', cap', h', hgs, hcm, hrow⟩
  · simp at h'
  simp only [Value.slice.injEq, Option.some.injEq, Addr.mk.injEq, and_true] at h'
  obtain ⟨⟨rfl, rfl⟩, rfl, rfl⟩ := h'
  have r1 := (hrow.store 0 (by simp) (.string { data := #[] })).store 1 (by simp; omega) (.int .u64 0)
  simp only [Nat.add_zero] at r1
  have r2 := r1.tail 1 (by simp)
  generalize hwa : (w.setCell ⟨g, off, none⟩ (.string { data := #[] })).setCell ⟨g, off + 1, none⟩ (.int .u64 0) = wa at *
  have hca : Chg (fun k => k = g) w wa := by rw [← hwa]; exact ((Chg.refl (fun k => k = g) w).setCell (a := ⟨g, off, none⟩) (fun _ => rfl) _).setCell (a := ⟨g, off + 1, none⟩) (fun _ => rfl) _
  have hsz : wa.heap.size = w.heap.size := by rw [← hwa, size_setCell, size_setCell]
  have e1 : (((flat (old :: rest)).set 0 (.string { data := #[] })).set 1 (.int .u64 0)).drop (1 * 2) = flat rest := by simp [flat]
  rw [e1] at r2
  have hle := hrow.le
  have hS : SliceAt wa (.slice (some ⟨g, off + 2, none⟩) rest.length (cap - 1)) 2 rest.length (flat rest) := .inr ⟨g, off + 2, cap - 1, rfl, by omega, by omega, by simpa using r2⟩
  -- the log, the order's cells turned
  have hla : LogAt wa lb o (.map (some r)) (.slice (some ⟨g, off, none⟩) (old :: rest).length cap) f nf (({ data := #[] }, 0) :: rest) cnt := by
    refine ⟨(hca.cells hl (Ne.symm hg) _).trans h.c0, (hca.cells hl (Ne.symm hg) _).trans h.c1, (hca.cells hl (Ne.symm hg) _).trans h.c2, (hca.frozens hl (Ne.symm hg) _).trans h.f0, (hca.frozens hl (Ne.symm hg) _).trans h.f1, (hca.frozens hl (Ne.symm hg) _).trans h.f2,
      .inr ⟨g, off, cap, rfl, by omega, hcm, by simpa [flat] using r1⟩, .inr ⟨r, rfl, h.mapAt.kept hca (Ne.symm hgr)⟩, h.nel, h.nem⟩
  refine ⟨hla.setOrd hS (by intro k hk; simp [vblk] at hk; subst hk; exact ⟨hg, hgr⟩), ?_, ?_⟩
  · exact (hca.mono (G := fun k => k = lb ∨ k = g) (fun k _ e => .inr e)).setCell (a := ⟨lb, o + 1, none⟩) (fun _ => .inl rfl) _
  · exact ((KeepS.refl lb (fun x => x = o + 1) w).chg hca hl (Ne.symm hg)).setCell (a := ⟨lb, o + 1, none⟩) (fun _ _ => rfl) _
end Go.Proofs.Qxb6616074a
