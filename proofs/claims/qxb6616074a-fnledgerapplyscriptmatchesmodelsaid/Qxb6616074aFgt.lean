/-
  OWN TEXT. forgottenOf.
-/
import Derived.Test.Qxb6616074aRem
import Derived.Laws.MakeOwn
namespace Go.Proofs.Qxb6616074a
open Go.RowKit Go.MapKept Go.ChangeMaps

/-- the first of the m resolutions from the k-th on that is of t -/
def firstG (R : Resn) (t : ByteArray) : Nat → Nat → Option Nat
  | _, 0 => none
  | k, m + 1 => if (R k).2.1 = t then some k else firstG R t (k + 1) m
theorem firstG_some {R : Resn} {t : ByteArray} : ∀ {m k j : Nat}, firstG R t k m = some j → k ≤ j ∧ j < k + m ∧ (R j).2.1 = t ∧ ∀ i, k ≤ i → i < j → (R i).2.1 ≠ t
  | 0, k, j, h => by simp [firstG] at h
  | m + 1, k, j, h => by
    unfold firstG at h
    split at h
    · rename_i ht
      injection h with h
      subst h
      exact ⟨by omega, by omega, ht, fun i h1 h2 => by omega⟩
    · rename_i ht
      obtain ⟨h1, h2, h3, h4⟩ := firstG_some h
      refine ⟨by omega, by omega, h3, fun i hi hi2 => ?_⟩
      by_cases hik : i = k
      · subst hik; exact ht
      · exact h4 i (by omega) hi2
theorem firstG_none {R : Resn} {t : ByteArray} : ∀ {m k : Nat}, firstG R t k m = none → ∀ i, k ≤ i → i < k + m → (R i).2.1 ≠ t
  | 0, k, _ => fun i h1 h2 => by omega
  | m + 1, k, h => by
    unfold firstG at h
    split at h
    · cases h
    · rename_i ht
      intro i h1 h2
      by_cases hik : i = k
      · subst hik; exact ht
      · exact firstG_none h i (by omega) (by omega)
def nxtF (R : Resn) (N k : Nat) : Int := match firstG R (R k).2.1 (k + 1) (N - (k + 1)) with
  | some j => j
  | none => -1
theorem free_nxt {R : Resn} {N k : Nat} (hk : k + 10000 < N) : freeF R k 10000 = true ↔ (nxtF R N k = -1 ∨ (k : Int) + 10000 < nxtF R N k) := by
  rw [freeF_iff]
  unfold nxtF
  cases h : firstG R (R k).2.1 (k + 1) (N - (k + 1)) with
  | none =>
    constructor
    · intro _; exact .inl rfl
    · intro _ j h1 h2
      exact firstG_none h j (by omega) (by omega)
  | some j =>
    obtain ⟨h1, h2, h3, h4⟩ := firstG_some h
    simp only
    constructor
    · intro g
      refine .inr ?_
      by_cases hj : j ≤ k + 10000
      · exact absurd h3 (g j (by omega) hj)
      · omega
    · rintro (g | g) i hi hi2
      · omega
      · exact h4 i (by omega) (by omega)

theorem SliceAt.get {w : World} {v : Value} {n : Nat} {xs : List Value} (h : SliceAt w v 1 n xs) {j : Nat} {u : Value} (hu : xs[j]? = some u) : ∃ g off c, v = .slice (some ⟨g, off, none⟩) n c ∧ w.cell? ⟨g, off + j, none⟩ = some u := by
  rcases h with ⟨rfl, rfl, rfl⟩ | ⟨g, off, cap, rfl, hlt, hcm, hr⟩
  · simp at hu
  · exact ⟨g, off, cap, rfl, hr.cell j u hu⟩

/-- the log's rows, read -/
structure VW (w : World) (b g0 o0 c0 g1 o1 c1 g2 o2 c2 : Nat) (R : Resn) (N : Nat) : Prop where
  c0 : w.cell? ⟨b, 0, none⟩ = some (.slice (some ⟨g0, o0, none⟩) N c0)
  c1 : w.cell? ⟨b, 1, none⟩ = some (.slice (some ⟨g1, o1, none⟩) N c1)
  c2 : w.cell? ⟨b, 2, none⟩ = some (.slice (some ⟨g2, o2, none⟩) N c2)
  t : ∀ i, i < N → w.cell? ⟨g0, o0 + i, none⟩ = some (.string (R i).2.1)
  s : ∀ i, i < N → w.cell? ⟨g1, o1 + i, none⟩ = some (.int .u64 (R i).2.2)
  k : ∀ i, i < N → w.cell? ⟨g2, o2 + i, none⟩ = some (.int .u8 (R i).1)
theorem VW.chg {w w' : World} {b g0 o0 c0 g1 o1 c1 g2 o2 c2 : Nat} {R : Resn} {N : Nat} (h : VW w b g0 o0 c0 g1 o1 c1 g2 o2 c2 R N) (hc : Chg (fun _ => False) w w') : VW w' b g0 o0 c0 g1 o1 c1 g2 o2 c2 R N :=
  ⟨hc.cell h.c0 (fun x => x), hc.cell h.c1 (fun x => x), hc.cell h.c2 (fun x => x), fun i hi => hc.cell (h.t i hi) (fun x => x), fun i hi => hc.cell (h.s i hi) (fun x => x), fun i hi => hc.cell (h.k i hi) (fun x => x)⟩
theorem RS.view {w : World} {b : Nat} {G : List Nat} {R : Resn} {N : Nat} (h : RS w b G R N) (hN : 0 < N) : ∃ g0 o0 c0 g1 o1 c1 g2 o2 c2, VW w b g0 o0 c0 g1 o1 c1 g2 o2 c2 R N := by
  obtain ⟨V, r, nl, h, rfl⟩ := h
  have key : ∀ j, j < 3 → ∃ g o c, V j = .slice (some ⟨g, o, none⟩) N c ∧ ∀ i, i < N → w.cell? ⟨g, o + i, none⟩ = some (colV j (R i)) := by
    intro j hj
    have hs := h.s j hj
    rcases hs with ⟨_, hn, _⟩ | ⟨g, off, cap, hv, hlt, hcm, hr⟩
    · have : N = 0 := hn
      omega
    · exact ⟨g, off, cap, hv, fun i hi => hr.cell i _ (colL_get R j hi)⟩
  obtain ⟨g0, o0, c0, v0, t0⟩ := key 0 (by omega)
  obtain ⟨g1, o1, c1, v1, t1⟩ := key 1 (by omega)
  obtain ⟨g2, o2, c2, v2, t2⟩ := key 2 (by omega)
  exact ⟨g0, o0, c0, g1, o1, c1, g2, o2, c2, ⟨by rw [← v0]; exact h.c 0 (by omega), by rw [← v1]; exact h.c 1 (by omega), by rw [← v2]; exact h.c 2 (by omega), t0, t1, t2⟩⟩
theorem RS.len {w : World} {b : Nat} {G : List Nat} {R : Resn} {N : Nat} (h : RS w b G R N) : ∃ a c, w.cell? ⟨b, 0, none⟩ = some (.slice a N c) := by
  obtain ⟨V, r, nl, h, rfl⟩ := h
  obtain ⟨a, c, hv⟩ := h.blkV (j := 0) (by omega)
  exact ⟨a, c, by rw [← hv]; exact h.c 0 (by omega)⟩

/-- the first loop under way: the last N - p are done -/
structure FI (w wr : World) (R : Resn) (N p : Nat) : Prop where
  m : ∃ q, MapAt wr (w.heap.size + 1) natV (fun t => firstG R t p (N - p)) q
  c : ∀ i, p ≤ i → i < N → wr.cell? ⟨w.heap.size, i, none⟩ = some (.int .i64 (nxtF R N i))
  t : ∀ i, i < N → (wr.cell? ⟨w.heap.size, i, none⟩).isSome = true
  fz : ∀ i, i < N → wr.frozen? ⟨w.heap.size, i, none⟩ = false
  chg : Chg (fun _ => False) w wr

theorem FI.step {w wr w2 : World} {R : Resn} {N p : Nat} (h : FI w wr R N (p + 1)) (hp : p < N) {es : Array MapEntry} {clock : Nat} (x : Int) (hx : x = nxtF R N p)
    (hM : MapAt w2 (w.heap.size + 1) natV (upd (fun t => firstG R t (p + 1) (N - (p + 1))) (R p).2.1 (some p)) es.size)
    (hw2 : w2 = setBlock (wr.setCell ⟨w.heap.size, p, none⟩ (.int .i64 x)) (w.heap.size + 1) (.map es clock)) : FI w w2 R N p := by
  subst hx
  have hlt : w.heap.size < wr.heap.size := by
    obtain ⟨u, hu⟩ := Option.isSome_iff_exists.1 (h.t p hp)
    exact World.block_lt_of_cell? wr _ hu
  have hcs : Chg (fun k => k = w.heap.size + 1) (wr.setCell ⟨w.heap.size, p, none⟩ (.int .i64 (nxtF R N p))) w2 := by
    rw [hw2]; exact (Chg.refl (fun k => k = w.heap.size + 1) _).setBlock (fun _ => rfl) _
  have hlt2 : w.heap.size < (wr.setCell ⟨w.heap.size, p, none⟩ (.int .i64 (nxtF R N p))).heap.size := by rw [size_setCell]; exact hlt
  have hcell : ∀ i, w2.cell? ⟨w.heap.size, i, none⟩ = if i = p then some (.int .i64 (nxtF R N p)) else wr.cell? ⟨w.heap.size, i, none⟩ := by
    intro i
    rw [hcs.cells hlt2 (by omega) i]
    obtain ⟨u, hu⟩ := Option.isSome_iff_exists.1 (h.t p hp)
    by_cases hip : i = p
    · subst hip; rw [if_pos rfl]; exact World.cell?_setCell_same _ _ _ hu
    · rw [if_neg hip, World.cell?_setCell_other _ _ _ _ (by rw [ne_eq, Addr.mk.injEq]; omega)]
  refine ⟨⟨es.size, ?_⟩, ?_, ?_, ?_, ?_⟩
  · have e : (fun t => firstG R t p (N - p)) = upd (fun t => firstG R t (p + 1) (N - (p + 1))) (R p).2.1 (some p) := by
      funext t
      rw [show N - p = (N - (p + 1)) + 1 by omega]
      unfold upd
      show (if (R p).2.1 = t then some p else firstG R t (p + 1) (N - (p + 1))) = _
      by_cases ht : t = (R p).2.1
      · rw [if_pos ht.symm, if_pos ht]
      · rw [if_neg (fun e => ht e.symm), if_neg ht]
    rw [e]
    exact hM
  · intro i h1 h2
    rw [hcell]
    split
    · rename_i hip; subst hip; rfl
    · exact h.c i (by omega) h2
  · intro i hi
    rw [hcell]
    split
    · rfl
    · exact h.t i hi
  · intro i hi
    rw [hcs.frozens hlt2 (by omega) i, World.frozen?_setCell]
    exact h.fz i hi
  · refine (h.chg.setCell (a := ⟨w.heap.size, p, none⟩) (fun hx => by simp at hx) _).trans (hcs.mono (G := fun k => k = w.heap.size + 1) (fun _ _ e => e)) ?_
    intro k hk e
    omega

def FgP (w : World) (z : Int) (e : Ending) (w' : World) : Prop := e = .returned (.int .u64 z) ∧ Chg (fun _ => False) w w'
theorem info3 : (Try.prog.info? 3).map (fun i => (i.zero, i.size, i.bytes)) = some (some (.int .i64 0), 1, 8) := by kernel_rfl

set_option maxRecDepth 100000 in
set_option maxHeartbeats 4000000 in
theorem forgotten_calls {w : World} {b : Nat} {G : List Nat} {R : Resn} {N : Nat} (h : RS w b G R N) (hN : N < 2000000) :
    Calls Try.prog 18 #[.pointer (some ⟨b, 0, none⟩)] w (FgP w (fgF R (N - 10000))) := by
  have hlb := h.lt
  have hN' : (N : Int) < 2000000 := by omega
  by_cases hsm : N ≤ 10000
  · obtain ⟨a, c, hc⟩ := h.len
    have hsm' : (N : Int) ≤ 10000 := by omega
    rw [show N - 10000 = 0 by omega]
    have e0 : fgF R 0 = 0 := rfl
    rw [e0]
    clear e0
    go_enter Try.func18, Try.ntmps18
    go_wp2
    go_ret
    exact ⟨rfl, Chg.refl _ _⟩
  · obtain ⟨g0, o0, c0, g1, o1, c1, g2, o2, c2, hv⟩ := h.view (by omega)
    have hsm' : ¬ (N : Int) ≤ 10000 := by omega
    have hN0 : (0 : Int) ≤ (N : Int) := by omega
    have e0 := hv.c0
    obtain ⟨i0, hi, hz0, hz1, hz2⟩ := info_parts info3
    have hmk := run_make (P := Try.prog) w 71 3 i0 _ Try.underlying71 hi hz0 .i64 .i64 N N (by omega) (Int.le_refl _) (by rw [hz2]; omega) (by omega)
    simp only [Int.toNat_natCast, hz1, Nat.mul_one] at hmk
    have hmm := @run_makeMap Try.prog
    have F0 : FI w ((w.alloc (.cells (madeCells #[.int .i64 0] N) 3)).alloc (.map #[] 0)) R N N := by
      have hs1 : (w.alloc (.cells (madeCells #[.int .i64 0] N) 3)).heap.size = w.heap.size + 1 := by simp
      refine ⟨⟨0, ?_⟩, fun i h1 h2 => by omega, fun i hi => ?_, fun i hi => ?_, (chg_alloc _ _ _).alloc _⟩
      · rw [← hs1, Nat.sub_self]
        exact ⟨#[], 0, (MapKept.heap_alloc _ _).1, ⟨MapKept.stamped_empty 0, by simp, by simp [firstG]⟩, rfl⟩
      · rw [World.cell?_alloc_past _ _ _ (by simp), cell_new rfl]
        simp [madeCells, hi]
      · rw [(chg_alloc (fun _ => False) (w.alloc (.cells (madeCells #[.int .i64 0] N) 3)) (.map #[] 0)).frozens (by simp) (fun x => x)]
        exact frozen_new rfl _ _ _
    go_enter Try.func18, Try.ntmps18
    go_wp2
    clear hmm hmk
    have hg0 : g0 < w.heap.size := World.block_lt_of_cell? w _ (hv.t 0 (by omega))
    go_loopw [6] (fun iv wr => ∃ p : Nat, p ≤ N ∧ iv = .int .i64 ((p : Int) - 1) ∧ FI w wr R N p) (fun iv _ => (intOf iv + 1).toNat)
    case atStart => exact ⟨N, Nat.le_refl _, rfl, F0⟩
    case round =>
      obtain ⟨p, hp, rfl, hF⟩ := hrel
      cases p with
      | succ p =>
        rw [show (((p + 1 : Nat) : Int) - 1) = (p : Int) by omega]
        have hp0 : (0 : Int) ≤ (p : Int) := by omega
        have hp1 : (p : Int) < (N : Int) := by omega
        have hv2 := hv.chg hF.chg
        have ec := hv2.c0
        have et := hv2.t p (by omega)
        obtain ⟨q, hM⟩ := hF.m
        have hlk := hM.look (P := Try.prog) (t := 42) (kt := 9) (et := 3) Try.underlying42 Try.underlying9 (zero3 wr) (R p).2.1
        obtain ⟨u, hu⟩ := Option.isSome_iff_exists.1 (hF.t p (by omega))
        have hz := hF.fz p (by omega)
        clear hv2
        cases hf : firstG R (R p).2.1 (p + 1) (N - (p + 1)) with
        | none =>
          rw [hf] at hlk
          simp only [Option.map_none, Option.getD_none, Option.isSome_none] at hlk
          have hx : (-1 : Int) = nxtF R N p := by unfold nxtF; rw [hf]
          obtain ⟨es1, clock1, hbk1, R1, hsz1⟩ := hM
          have hMs : MapAt (wr.setCell ⟨w.heap.size, p, none⟩ (.int .i64 (-1))) (w.heap.size + 1) natV (fun t => firstG R t (p + 1) (N - (p + 1))) es1.size :=
            MapAt.kept ⟨es1, clock1, hbk1, R1, rfl⟩ ((Chg.refl (fun k => k = w.heap.size) wr).setCell (a := ⟨w.heap.size, p, none⟩) (fun _ => rfl) _) (by omega)
          obtain ⟨es2, clock2, hbk2, R2, hsz2⟩ := hMs
          obtain ⟨es3, clock3, hup, R3, hs3⟩ := R2.store (w := wr.setCell ⟨w.heap.size, p, none⟩ (.int .i64 (-1))) (b := w.heap.size + 1) (P := Try.prog) (t := 42) (kt := 9) (et := 3) hbk2 Try.underlying42 Try.underlying9 (R p).2.1 p
          have hbk3 : (setBlock (wr.setCell ⟨w.heap.size, p, none⟩ (.int .i64 (-1))) (w.heap.size + 1) (.map es3 clock3)).heap[w.heap.size + 1]? = some (.map es3 clock3) := heap_setBlock (Array.getElem?_eq_some_iff.1 hbk2).1 _
          have hst : FI w (setBlock (wr.setCell ⟨w.heap.size, p, none⟩ (.int .i64 (-1))) (w.heap.size + 1) (.map es3 clock3)) R N p := hF.step (by omega) (-1) hx ⟨es3, clock3, hbk3, R3, rfl⟩ rfl
          have et2 : (wr.setCell ⟨w.heap.size, p, none⟩ (.int .i64 (-1))).cell? ⟨g0, o0 + p, none⟩ = some (.string (R p).2.1) := by
            rw [World.cell?_setCell_other _ _ _ _ (by rw [ne_eq, Addr.mk.injEq]; omega)]; exact et
          have eb2 : (wr.setCell ⟨w.heap.size, p, none⟩ (.int .i64 (-1))).cell? ⟨b, 0, none⟩ = some (.slice (some ⟨g0, o0, none⟩) N c0) := by
            rw [World.cell?_setCell_other _ _ _ _ (by rw [ne_eq, Addr.mk.injEq]; omega)]; exact ec
          generalize setBlock (wr.setCell ⟨w.heap.size, p, none⟩ (.int .i64 (-1))) (w.heap.size + 1) (.map es3 clock3) = w3 at hup hst
          simp only [natV] at hup
          clear hx hbk1 R1 hsz1 hbk2 R2 hsz2 R3 hs3 hbk3 hf hF
          go_wp2
          go_roundw
          case rel => exact ⟨p, by omega, by go_num, hst⟩
          case measure => first | (simp [intOf]; done) | (simp [intOf]; omega)
        | some j =>
          rw [hf] at hlk
          simp only [Option.map_some, Option.getD_some, Option.isSome_some, natV] at hlk
          have hx : ((j : Int) : Int) = nxtF R N p := by unfold nxtF; rw [hf]
          obtain ⟨es1, clock1, hbk1, R1, hsz1⟩ := hM
          have hMs : MapAt (wr.setCell ⟨w.heap.size, p, none⟩ (.int .i64 ((j : Int)))) (w.heap.size + 1) natV (fun t => firstG R t (p + 1) (N - (p + 1))) es1.size :=
            MapAt.kept ⟨es1, clock1, hbk1, R1, rfl⟩ ((Chg.refl (fun k => k = w.heap.size) wr).setCell (a := ⟨w.heap.size, p, none⟩) (fun _ => rfl) _) (by omega)
          obtain ⟨es2, clock2, hbk2, R2, hsz2⟩ := hMs
          obtain ⟨es3, clock3, hup, R3, hs3⟩ := R2.store (w := wr.setCell ⟨w.heap.size, p, none⟩ (.int .i64 ((j : Int)))) (b := w.heap.size + 1) (P := Try.prog) (t := 42) (kt := 9) (et := 3) hbk2 Try.underlying42 Try.underlying9 (R p).2.1 p
          have hbk3 : (setBlock (wr.setCell ⟨w.heap.size, p, none⟩ (.int .i64 ((j : Int)))) (w.heap.size + 1) (.map es3 clock3)).heap[w.heap.size + 1]? = some (.map es3 clock3) := heap_setBlock (Array.getElem?_eq_some_iff.1 hbk2).1 _
          have hst : FI w (setBlock (wr.setCell ⟨w.heap.size, p, none⟩ (.int .i64 ((j : Int)))) (w.heap.size + 1) (.map es3 clock3)) R N p := hF.step (by omega) ((j : Int)) hx ⟨es3, clock3, hbk3, R3, rfl⟩ rfl
          have et2 : (wr.setCell ⟨w.heap.size, p, none⟩ (.int .i64 ((j : Int)))).cell? ⟨g0, o0 + p, none⟩ = some (.string (R p).2.1) := by
            rw [World.cell?_setCell_other _ _ _ _ (by rw [ne_eq, Addr.mk.injEq]; omega)]; exact et
          have eb2 : (wr.setCell ⟨w.heap.size, p, none⟩ (.int .i64 ((j : Int)))).cell? ⟨b, 0, none⟩ = some (.slice (some ⟨g0, o0, none⟩) N c0) := by
            rw [World.cell?_setCell_other _ _ _ _ (by rw [ne_eq, Addr.mk.injEq]; omega)]; exact ec
          generalize setBlock (wr.setCell ⟨w.heap.size, p, none⟩ (.int .i64 ((j : Int)))) (w.heap.size + 1) (.map es3 clock3) = w3 at hup hst
          simp only [natV] at hup
          clear hx hbk1 R1 hsz1 hbk2 R2 hsz2 R3 hs3 hbk3 hf hF
          go_wp2
          go_roundw
          case rel => exact ⟨p, by omega, by go_num, hst⟩
          case measure => first | (simp [intOf]; done) | (simp [intOf]; omega)
      | zero =>
        have hp0 : ¬ (0 : Int) ≤ ((0 : Nat) : Int) - 1 := by omega
        have hv2 := hv.chg hF.chg
        have ec1 := hv2.c1
        have hes := hv2.s
        have hnx := fun i hi => hF.c i (Nat.zero_le _) hi
        have hC := hF.chg
        clear F0 hF hv hv2 e0
        go_wp2
        go_loop [9, 10] (fun z iv => ∃ k : Nat, k ≤ N - 10000 ∧ iv = .int .i64 k ∧ z = .int .u64 (fgF R k)) (fun _ iv => N - (intOf iv).toNat)
        case atStart => exact ⟨0, Nat.zero_le _, rfl, rfl⟩
        case round =>
          obtain ⟨k, hk, rfl, rfl⟩ := hrel
          by_cases hlt : k + 10000 < N
          · have hlt' : (k : Int) + 10000 < (N : Int) := by omega
            have hk0 : (0 : Int) ≤ (k : Int) := by omega
            have hkN : (k : Int) < (N : Int) := by omega
            have hc1 := hnx k (by omega)
            have hc2 := hes k (by omega)
            have hstep : fgF R (k + 1) = if freeF R k 10000 then max (fgF R k) (R k).2.2 else fgF R k := rfl
            have hiff := free_nxt (R := R) hlt
            generalize hnv : nxtF R N k = nv at hc1 hiff
            clear hnv
            by_cases hfr : freeF R k 10000 = true
            · rw [if_pos hfr] at hstep
              have hor := hiff.1 hfr
              have HS := Lib.hid hstep
              clear hstep hfr hiff
              generalize fgF R k = fk at HS ⊢
              by_cases hgt : fk < (R k).2.2
              · have hS2 : Hid (fgF R (k + 1) = (R k).2.2) := Lib.hid (by rw [HS.out]; omega)
                clear HS
                rcases hor with rfl | hor
                · go_wp2
                  go_round
                  case rel => exact ⟨k + 1, by omega, by go_num, by rw [hS2.out]⟩
                  case measure => simp [intOf]; omega
                · have hne : ¬ nv = -1 := by omega
                  go_wp2
                  go_round
                  case rel => exact ⟨k + 1, by omega, by go_num, by rw [hS2.out]⟩
                  case measure => simp [intOf]; omega
              · have hS2 : Hid (fgF R (k + 1) = fk) := Lib.hid (by rw [HS.out]; omega)
                clear HS
                rcases hor with rfl | hor
                · go_wp2
                  go_round
                  case rel => exact ⟨k + 1, by omega, by go_num, by rw [hS2.out]⟩
                  case measure => simp [intOf]; omega
                · have hne : ¬ nv = -1 := by omega
                  go_wp2
                  go_round
                  case rel => exact ⟨k + 1, by omega, by go_num, by rw [hS2.out]⟩
                  case measure => simp [intOf]; omega
            · rw [if_neg hfr] at hstep
              have h1 : ¬ nv = -1 := fun e => hfr (hiff.2 (.inl e))
              have h2 : nv ≤ (k : Int) + 10000 := by
                by_cases e : (k : Int) + 10000 < nv
                · exact absurd (hiff.2 (.inr e)) hfr
                · omega
              have h3 : decide ((k : Int) + 10000 < nv) = false := by simpa using h2
              have h4 : (nv == -1) = false := by simpa using h1
              have HS := Lib.hid hstep
              clear hstep hfr hiff
              generalize fgF R k = fk at HS ⊢
              go_wp2
              go_round
              case rel => exact ⟨k + 1, by omega, by go_num, by rw [HS.out]⟩
              case measure => simp [intOf]; omega
          · have hlt' : ¬ (k : Int) + 10000 < (N : Int) := by omega
            have hk' : Hid (k = N - 10000) := Lib.hid (by omega)
            clear hnx hes
            generalize hfk : fgF R k = fk
            have Hfk := Lib.hid hfk
            clear hfk
            go_wp2
            go_ret
            exact ⟨by rw [← hk'.out, Hfk.out]; rfl, hC⟩
end Go.Proofs.Qxb6616074a
