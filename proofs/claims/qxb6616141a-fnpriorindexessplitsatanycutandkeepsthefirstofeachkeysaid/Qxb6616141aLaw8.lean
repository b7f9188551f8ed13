/-
  OWN TEXT. FnPriorIndexesSplitsAtAnyCutAndKeepsTheFirstOfEachKey: the walk.
-/
import Derived.Test.Qxb6616141aFiw
import Derived.Deep.RegionWith
import Derived.BigQuiet
import Derived.Lib.Builder
import Derived.Deep.DeepCutAuto
import Derived.Deep.Cut
namespace Go.Proofs.Qxb6616141a
open Go.RowKit
/-- what no later block turns -/
def Stable (F : World → Prop) : Prop := ∀ W W', F W → Below W.heap.size W W' → F W'
def FP (F : World → Prop) (v : Value) (e : Ending) (w' : World) : Prop := e = .returned v ∧ F w'
theorem fp_of {F : World → Prop} (hs : Stable F) {W : World} (h : F W) {f : Nat} {xs : Array Value} {v : Value} (hc : Calls Try.prog f xs W (TB W v)) : Calls Try.prog f xs W (FP F v) := hc.mono fun _ _ q => ⟨q.1, hs _ _ h q.2⟩
theorem Stable.and {F G : World → Prop} (hF : Stable F) (hG : Stable G) : Stable (fun W => F W ∧ G W) := fun _ _ h hb => ⟨hF _ _ h.1 hb, hG _ _ h.2 hb⟩
theorem stable_cell (a : Addr) (v : Value) : Stable (fun W => W.cell? a = some v) := fun _ _ h hb => below_cell hb h
theorem neq49 (p : Nat) (W : World) : (binOp .neq 49 (.pointer (some ⟨p, 0, none⟩)) (.pointer (some ⟨p, 0, none⟩))).run Try.prog W = .ok (.bool false) W := by
  have hi : (Try.prog.info? 113).isSome = true := by kernel_rfl
  obtain ⟨j, hj⟩ := Option.isSome_iff_exists.1 hi
  exact Lib.run_neq_ptr_same W ⟨p, 0, none⟩ Try.underlying49 hj
theorem boxes (w1 : World) (p0 p1 p2 p3 q0 q1 q2 q3 : Value) :
    ((w1.alloc (.cells #[p0, p1, p2, p3] 58)).alloc (.cells #[q0, q1, q2, q3] 58)).cell? ⟨w1.heap.size, 0, none⟩ = some p0 ∧ ((w1.alloc (.cells #[p0, p1, p2, p3] 58)).alloc (.cells #[q0, q1, q2, q3] 58)).cell? ⟨w1.heap.size, 1, none⟩ = some p1 ∧ ((w1.alloc (.cells #[p0, p1, p2, p3] 58)).alloc (.cells #[q0, q1, q2, q3] 58)).cell? ⟨w1.heap.size, 2, none⟩ = some p2 ∧ ((w1.alloc (.cells #[p0, p1, p2, p3] 58)).alloc (.cells #[q0, q1, q2, q3] 58)).cell? ⟨w1.heap.size, 3, none⟩ = some p3 ∧
    ((w1.alloc (.cells #[p0, p1, p2, p3] 58)).alloc (.cells #[q0, q1, q2, q3] 58)).cell? ⟨w1.heap.size + 1, 0, none⟩ = some q0 ∧ ((w1.alloc (.cells #[p0, p1, p2, p3] 58)).alloc (.cells #[q0, q1, q2, q3] 58)).cell? ⟨w1.heap.size + 1, 1, none⟩ = some q1 ∧ ((w1.alloc (.cells #[p0, p1, p2, p3] 58)).alloc (.cells #[q0, q1, q2, q3] 58)).cell? ⟨w1.heap.size + 1, 2, none⟩ = some q2 ∧ ((w1.alloc (.cells #[p0, p1, p2, p3] 58)).alloc (.cells #[q0, q1, q2, q3] 58)).cell? ⟨w1.heap.size + 1, 3, none⟩ = some q3 := by
  have hb := below_alloc (w1.alloc (.cells #[p0, p1, p2, p3] 58)) (.cells #[q0, q1, q2, q3] 58)
  refine ⟨below_cell hb ((cell_new rfl _ _ _).trans rfl), below_cell hb ((cell_new rfl _ _ _).trans rfl), below_cell hb ((cell_new rfl _ _ _).trans rfl), below_cell hb ((cell_new rfl _ _ _).trans rfl), ?_, ?_, ?_, ?_⟩
  · exact (cell_new (by simp) _ _ _).trans rfl
  · exact (cell_new (by simp) _ _ _).trans rfl
  · exact (cell_new (by simp) _ _ _).trans rfl
  · exact (cell_new (by simp) _ _ _).trans rfl
def RelN (F : World → Prop) (lo hi : Nat) (iv : Value) (wr : World) : Prop := ∃ i : Nat, lo ≤ i ∧ i ≤ hi ∧ iv = .int .i64 i ∧ F wr
set_option maxRecDepth 100000 in
set_option maxHeartbeats 16000000 in
theorem law5 (da ta ra : Option Addr) (db do_ dn dc tb to_ tn tc rb ro rn rc : Nat) (df tf : Nat → Int) (CH EN : Nat → Bool) (A : Nat → Option Addr) (L C IB IQ : Nat → Nat) (X : Nat → Nat → E) (cut : Int) (w : World)
    (hD : KeyAt w da db do_ dn df) (hDn : da = none → dc = 0) (hK : KeyAt w ta tb to_ tn tf) (hR : TrsAt w ra rb ro rn CH EN A L C IB IQ X) :
    Calls Try.prog 5 #[.slice da dn dc, .slice ta tn tc, .slice ra rn rc, .int .i64 cut] w (TB w (.bool true)) := by
  have hnil : ∀ i, i < rn → A i = none → L i = 0 := fun i hi ha => by
    by_cases q : 0 < L i
    · have := (hR.r i hi).addr q
      rw [ha] at this
      cases this
    · omega
  go_enter Try.func5, Try.ntmps5
  go_wp2_with fail
  refine (bytes_calls da ta ra dn dc tn tc rb ro rn rc CH EN A L C IB IQ X cut w hR).mono ?_
  rintro e w0 ⟨⟨b, rfl⟩, hw⟩
  obtain rfl := hw.symm
  cases b with
  | false =>
    go_wp2
    go_ret
    exact ⟨rfl, Below.refl _ _⟩
  | true =>
  go_wp2_with fail
  refine (tooBigP_calls da ta ra dn dc tn tc rb ro rn rc CH EN A L C IB IQ X w hR).mono ?_
  rintro e w0 ⟨⟨b, rfl, hsm⟩, hw'⟩
  obtain rfl := hw'.symm
  cases b with
  | true =>
    go_wp2
    go_ret
    exact ⟨rfl, Below.refl _ _⟩
  | false =>
  obtain ⟨hdn, htn, hrn, hLs⟩ := hsm rfl
  clear hsm hw hw'
  by_cases hrt : rn < tn
  · have hrt' : (rn : Int) < (tn : Int) := by omega
    go_wp2
    go_ret
    exact ⟨rfl, Below.refl _ _⟩
  · have hrt' : ¬ (rn : Int) < (tn : Int) := by omega
    by_cases hc0 : cut < 0
    · have hd0 : decide (cut < 0) = true := by simpa using hc0
      go_wp2
      go_ret
      exact ⟨rfl, Below.refl _ _⟩
    · by_cases hc1 : (tn : Int) < cut
      · go_wp2
        go_ret
        exact ⟨rfl, Below.refl _ _⟩
      · obtain ⟨k, rfl⟩ : ∃ k : Nat, cut = k := ⟨cut.toNat, by omega⟩
        have hkt : k ≤ tn := by omega
        have HL := Lib.hid hLs
        have HN := Lib.hid hnil
        clear hLs hnil
        go_wp2_with fail
        refine (tables_calls ta tb to_ tn tc tf w hK htn).mono ?_
        rintro e w1 ⟨tg, rtb, _, rfl, R, hTb, hRt⟩
        go_wp2_with fail
        refine (dstV_calls da db do_ dn dc df w1 (hD.below hTb.bel) hdn hDn).mono ?_
        rintro e w2 ⟨dv, rwa, rwb, rwc, RW, ds, rfl, ho2, hT2, hrw2, hb2, hblk2, hrb2⟩
        have hB2 := below_tr hTb.bel hb2
        go_wp2_with fail
        refine (traces_calls ra rb ro rn rc CH EN A L C IB IQ X w2 (hR.below hB2) hrn HL.out).mono ?_
        rintro e w3 ⟨tw, EW, rfl, hTr3⟩
        obtain ⟨lX, hlX⟩ : ∃ lX : Nat → List E, ∀ i, lX i = seg (X i) 0 (L i) := ⟨_, fun _ => rfl⟩
        have HlX := Lib.hid hlX
        clear hlX
        have hB3 := below_tr hB2 hTr3.m.bel
        have hp1 := pre1 (R := R) hTb ho2 hb2 hblk2 hTr3 HN.out HlX.out
        have hcall := zzpix_calls w3 w1.heap.size tw tg 0 0 rn CH EN A EW L R lX dv dn ds 0 tn rn rn tn (some ⟨tw, 0, none⟩) (some ⟨tg, 0, none⟩) (fun _ => rfl) rfl hp1.1 hp1.2.1 hp1.2.2 (fun j hj => by rw [HlX.out, seg_length]) (by omega) (by omega) hrn HL.out (by omega) (by have := hb2.size; have := hTr3.m.bel.size; omega)
        have Hcall := Lib.hid hcall
        clear hcall hp1
        go_wp2_with fail
        refine Hcall.out.mono ?_
        rintro e w4 ⟨v4, rfl, hX4⟩
        obtain ⟨wa, wb, wc, hv4, hW4⟩ := whole_of hTb hRt hT2 hrw2 hb2 hblk2 hrb2 hTr3 hX4
        subst hv4
        clear Hcall hX4 hTr3 hT2 hrw2 ho2 hblk2 hrb2 hTb hRt hB3 hB2
        go_wp2_with fail
        refine (dstV_calls da db do_ dn dc df w4 (hD.below hW4.bel) hdn hDn).mono ?_
        rintro e w5 ⟨dvP, rpa, rpb, rpc, RP, dsP, rfl, ho5, hT5, hrp5, hb5, hblk5, hrb5⟩
        go_wp2_with fail
        refine (traces_calls ra rb ro rn rc CH EN A L C IB IQ X w5 (hR.below (below_tr hW4.bel hb5)) hrn HL.out).mono ?_
        rintro e w6 ⟨tp, EP, rfl, hTr6⟩
        have hp2 := pre2 (k := k) hW4 ho5 hb5 hblk5 hTr6 HN.out HlX.out hkt
        have hcall := zzpix_calls w6.drew w4.heap.size tp tg 0 0 rn CH EN A EP L R lX dvP dn dsP 0 k k rn tn (some ⟨tp, 0, none⟩) (some ⟨tg, 0, none⟩) (fun _ => rfl) rfl hp2.1 hp2.2.1 hp2.2.2 (fun j hj => by rw [HlX.out, seg_length]) (by omega) (by omega) hrn HL.out (by omega) (by have := hb5.size; have := hTr6.m.bel.size; show w4.heap.size ≤ w6.heap.size; omega)
        have Hcall := Lib.hid hcall
        clear hcall hp2
        have kt : (k : Int) ≤ (tn : Int) := by omega
        have kr : (k : Int) ≤ (rn : Int) := by omega
        have k0 : (0 : Int) ≤ (k : Int) := by omega
        obtain ⟨tA, hsl39, htA⟩ := tail39 tg tn k hkt
        obtain ⟨tB, hsl46, htB⟩ := tail46 tp rn k (by omega)
        go_wp2_with fail
        go_region_with (go_at_call 18; refine Hcall.out.mono ?_; rintro e w7 ⟨v7, rfl, hX7⟩)
        have hp3 := pre3 (k := k) hW4 hb5 hblk5 hTr6 hkt tA htA hX7
        have hcall := zzpix_calls w7.drew w4.heap.size tp tg (k * 3) (k * 5) rn CH EN A EP L R (lj lX 0 k) v7 (dn + k) (dsP ++ newR R A EP L lX 0 k) k (tn - k) (rn - k) (rn - k) (tn - k) tB tA (fun h => htB (by omega)) rfl hp3.1 hp3.2.1 hp3.2.2 (fun j hj => by rw [show lj lX 0 k (k + j) = lX (k + j) by unfold lj; rw [if_neg (by omega)], HlX.out, seg_length]) (by omega) (by omega) hrn HL.out (by omega) (by have := hb5.size; have := hTr6.m.bel.size; have : w6.heap.size ≤ w7.heap.size := hX7.chg.size; show w4.heap.size ≤ w7.heap.size; omega)
        have Hcall2 := Lib.hid hcall
        have HX7 := Lib.hid hX7
        clear hcall hp3 Hcall hX7
        go_wp2_with fail
        go_region_with (go_at_call 18; refine Hcall2.out.mono ?_; rintro e w8 ⟨v8, rfl, hX8⟩)
        obtain ⟨pa, pb, pc, hv8, hF8⟩ := fin8_of hW4 hT5 hrp5 hb5 hblk5 hrb5 hTr6 hkt HX7.out hX8
        subst hv8
        clear Hcall2 HX7 hX8 hTr6 hT5 hrp5 ho5 hblk5 hrb5 hb5 hW4 hsl39 hsl46 htA htB hb2
        have sum1 : IntKind.i64.wrap ((dn : Int) + (tn : Int)) = (dn : Int) + (tn : Int) := by rw [IntKind.wrap_i64]; omega
        obtain ⟨F, hFd⟩ : ∃ F : World → Prop, ∀ W, F W ↔ Fin8 w W dn tn rn CH EN A L lX wa pa rwa rpa wb pb rwb rpb rtb tw tp RW RP R EW EP := ⟨_, fun _ => Iff.rfl⟩
        have hSt : Stable F := fun W W' h hb => (hFd W').2 (((hFd W).1 h).below hb)
        have hF0 : F w8 := (hFd w8).2 hF8
        have HF := Lib.hid hFd
        have root8 : ∀ p a n c W, F W → Calls Try.prog 19 #[pixV p (.slice a n c)] W (FP F (.pointer p)) := fun p a n c W h => fp_of hSt h (root_calls p a n c W)
        have prior8 : ∀ p a n c W, F W → Calls Try.prog 20 #[pixV p (.slice a n c)] W (FP F (.slice a n c)) := fun p a n c W h => fp_of hSt h (prior_calls p a n c W)
        have adw := hF8.wh.addr
        have adp := hF8.pt.addr
        have adrw := hF8.rw'.addr
        have adrp := hF8.rp.addr
        clear hFd hF8
        have HSt := Lib.hid hSt
        have Hroot := Lib.hid root8
        have Hprior := Lib.hid prior8
        clear hSt root8 prior8
        go_wp2
        go_loopw [21] (fun iv wr => RelN F 0 dn iv wr) (fun iv _ => dn - (intOf iv).toNat)
        case atStart => exact ⟨0, Nat.zero_le _, Nat.zero_le _, rfl, hF0⟩
        case round =>
          clear hF0
          obtain ⟨i, _, hi, rfl, hF⟩ := hrel
          by_cases hlt : i < dn
          · have hlt' : (i : Int) < (dn : Int) := by omega
            have hlt2 : (i : Int) < ((dn + tn : Nat) : Int) := by omega
            have hlt3 : (i : Int) < (dn : Int) + (tn : Int) := by omega
            have q1 := adw (by omega)
            have q2 := adp (by omega)
            have q3 := adrw (by omega)
            have q4 := adrp (by omega)
            subst q1 q2 q3 q4
            have facts : ∀ W, F W → (W.cell? ⟨wb, i * 4, none⟩ = some (.pointer (some ⟨RW i, 0, none⟩)) ∧ W.cell? ⟨wb, i * 4 + 1, none⟩ = some (.int .u64 0) ∧ W.cell? ⟨wb, i * 4 + 2, none⟩ = some (.pointer none) ∧ W.cell? ⟨wb, i * 4 + 3, none⟩ = some (.slice none 0 0) ∧
                W.cell? ⟨pb, i * 4, none⟩ = some (.pointer (some ⟨RP i, 0, none⟩)) ∧ W.cell? ⟨pb, i * 4 + 1, none⟩ = some (.int .u64 0) ∧ W.cell? ⟨pb, i * 4 + 2, none⟩ = some (.pointer none) ∧ W.cell? ⟨pb, i * 4 + 3, none⟩ = some (.slice none 0 0) ∧
                W.cell? ⟨rwb, i, none⟩ = some (.pointer (some ⟨RW i, 0, none⟩)) ∧ W.cell? ⟨rpb, i, none⟩ = some (.pointer (some ⟨RP i, 0, none⟩)) ∧ F W) := fun W h => by
              have g := (HF.out W).1 h
              obtain ⟨a0, a1, a2, a3⟩ := g.wh.at (i := i) (by omega) (x0 := .pointer (some ⟨RW i, 0, none⟩)) (x1 := .int .u64 0) (x2 := .pointer none) (x3 := .slice none 0 0) (by unfold clF; rw [if_pos hlt]; rfl)
              obtain ⟨b0, b1, b2, b3⟩ := g.pt.at (i := i) (by omega) (x0 := .pointer (some ⟨RP i, 0, none⟩)) (x1 := .int .u64 0) (x2 := .pointer none) (x3 := .slice none 0 0) (by unfold clF; rw [if_pos hlt]; rfl)
              exact ⟨a0, a1, a2, a3, b0, b1, b2, b3, g.rw'.c i hlt, g.rp.c i hlt, h⟩
            have hFd := HSt.out _ _ hF (Below.drewT wr)
            have ne1 := neq49 (RW i)
            have ne2 := neq49 (RP i)
            clear hF
            go_wp2_with fail
            go_region_held3 (fun W => W.cell? ⟨wb, i * 4, none⟩ = some (.pointer (some ⟨RW i, 0, none⟩)) ∧ W.cell? ⟨wb, i * 4 + 1, none⟩ = some (.int .u64 0) ∧ W.cell? ⟨wb, i * 4 + 2, none⟩ = some (.pointer none) ∧ W.cell? ⟨wb, i * 4 + 3, none⟩ = some (.slice none 0 0) ∧
                W.cell? ⟨pb, i * 4, none⟩ = some (.pointer (some ⟨RP i, 0, none⟩)) ∧ W.cell? ⟨pb, i * 4 + 1, none⟩ = some (.int .u64 0) ∧ W.cell? ⟨pb, i * 4 + 2, none⟩ = some (.pointer none) ∧ W.cell? ⟨pb, i * 4 + 3, none⟩ = some (.slice none 0 0) ∧
                W.cell? ⟨rwb, i, none⟩ = some (.pointer (some ⟨RW i, 0, none⟩)) ∧ W.cell? ⟨rpb, i, none⟩ = some (.pointer (some ⟨RP i, 0, none⟩)) ∧ F W) ((exact facts _ (by assumption)))
              (first | (go_at_call 19; refine (Hroot.out _ _ _ _ _ (by assumption)).mono ?_; rintro e w' ⟨rfl, hS'⟩))
            rename_i hHeld
            obtain ⟨_, _, _, _, _, _, _, _, _, _, hFw⟩ := hHeld
            clear hS' hFd ne1 ne2
            obtain ⟨a0, a1, a2, a3, b0, b1, b2, b3, _, _, _⟩ := facts _ hFw
            go_wp2_with fail
            refine (Hprior.out _ _ _ _ _ hFw).mono ?_
            rintro e w9 ⟨rfl, hF9⟩
            clear a0 a1 a2 a3 b0 b1 b2 b3
            obtain ⟨_, _, _, _, b0, b1, b2, b3, _, _, _⟩ := facts _ hF9
            go_wp2_with fail
            refine (Hprior.out _ _ _ _ _ hF9).mono ?_
            rintro e w10 ⟨rfl, hF10⟩
            clear facts b0 b1 b2 b3
            go_wp2
            go_roundw
            case rel => exact ⟨i + 1, Nat.zero_le _, by omega, by go_num, hF10⟩
            case measure => first | (simp [intOf]; done) | (simp [intOf]; omega)
          · have hlt' : ¬ (i : Int) < (dn : Int) := by omega
            go_wp2
            go_loopw [22, 23, 24, 25, 26] (fun iv _ _ _ _ wr => RelN F 0 tn iv wr) (fun iv _ _ _ _ _ => tn - (intOf iv).toNat)
            case atStart => exact ⟨0, Nat.zero_le _, Nat.zero_le _, rfl, hF⟩
            case round =>
              clear hF
              obtain ⟨i, _, hi, rfl, hF⟩ := hrel
              by_cases hlt : i < tn
              · have hlt' : (i : Int) < (tn : Int) := by omega
                have hirn : i < rn := by omega
                have hir' : (i : Int) < (rn : Int) := by omega
                have hB := ((HF.out wr).1 hF).bel
                have q1 := adw (by omega)
                have q2 := adp (by omega)
                have q5 := hR.addr (by omega)
                subst q1 q2 q5
                have c2 := (hR.below hB).c2 i hirn
                have hrec := (hR.below hB).r i hirn
                go_wp2_with fail
                refine (first_calls (A i) (IB i) (IQ i) (L i) (C i) (X i) wr hrec (HL.out i hirn)).mono ?_
                rintro e w1x ⟨v, ids, rfl, hI1, hIds, hlen⟩
                obtain ⟨ia, ib, ic, hv, hIx⟩ := hI1.ix
                subst hv
                have hF1 := HSt.out _ _ hF hI1.bel
                have hK : (fstK (lX i)).length = ids.length := by rw [HlX.out, ← hIds.eq, List.length_map]
                have HK := Lib.hid hK
                have Hids := Lib.hid hIds
                clear hK hIds c2 hrec hI1 hF
                have wfact : ∀ W, F W → (W.cell? ⟨wb, (dn + i) * 4, none⟩ = some (.pointer (some ⟨R i, 0, none⟩)) ∧ W.cell? ⟨wb, (dn + i) * 4 + 1, none⟩ = some (.int .u64 0) ∧ W.cell? ⟨wb, (dn + i) * 4 + 2, none⟩ = some (.pointer none) ∧ W.cell? ⟨wb, (dn + i) * 4 + 3, none⟩ = some (.slice (bO (A i) (EW i)) ids.length (L i))) := fun W h =>
                  ((HF.out W).1 h).wh.at (i := dn + i) (by omega) (by unfold clF; rw [if_neg (by omega), show dn + i - dn = i by omega]; unfold pixF; rw [HK.out])
                have pfact : ∀ W, F W → (W.cell? ⟨pb, (dn + i) * 4, none⟩ = some (.pointer (some ⟨R i, 0, none⟩)) ∧ W.cell? ⟨pb, (dn + i) * 4 + 1, none⟩ = some (.int .u64 0) ∧ W.cell? ⟨pb, (dn + i) * 4 + 2, none⟩ = some (.pointer none) ∧ W.cell? ⟨pb, (dn + i) * 4 + 3, none⟩ = some (.slice (bO (A i) (EP i)) ids.length (L i))) := fun W h =>
                  ((HF.out W).1 h).pt.at (i := dn + i) (by omega) (by unfold clF; rw [if_neg (by omega), show dn + i - dn = i by omega]; unfold pixF; rw [HK.out])
                have hF1a := HSt.out _ _ hF1 (below_alloc w1x (.cells #[.pointer (some ⟨R i, 0, none⟩), .int .u64 0, .pointer none, .slice (bO (A i) (EW i)) ids.length (L i)] 58))
                obtain ⟨a0, a1, a2, a3⟩ := wfact _ hF1
                obtain ⟨b0, b1, b2, b3⟩ := pfact _ hF1a
                have s0 : (0 : Int) ≤ (dn : Int) + (i : Int) := by omega
                have s1 : (dn : Int) + (i : Int) < (dn : Int) + (tn : Int) := by omega
                have s1' : (dn : Int) + (i : Int) < ((dn + tn : Nat) : Int) := by omega
                have s2 : IntKind.i64.wrap ((dn : Int) + (i : Int)) = (dn : Int) + (i : Int) := by rw [IntKind.wrap_i64]; omega
                have s3 : ((dn : Int) + (i : Int)).toNat = dn + i := by omega
                clear wfact pfact
                go_wp2_with fail
                have hF2 := HSt.out _ _ hF1a (below_alloc _ (.cells #[.pointer (some ⟨R i, 0, none⟩), .int .u64 0, .pointer none, .slice (bO (A i) (EP i)) ids.length (L i)] 58))
                have hI2 := (hIx.below (below_alloc _ (.cells #[.pointer (some ⟨R i, 0, none⟩), .int .u64 0, .pointer none, .slice (bO (A i) (EW i)) ids.length (L i)] 58))).below (below_alloc _ (.cells #[.pointer (some ⟨R i, 0, none⟩), .int .u64 0, .pointer none, .slice (bO (A i) (EP i)) ids.length (L i)] 58))
                obtain ⟨x0, x1, x2, x3, y0, y1, y2, y3⟩ := boxes w1x (.pointer (some ⟨R i, 0, none⟩)) (.int .u64 0) (.pointer none) (.slice (bO (A i) (EW i)) ids.length (L i)) (.pointer (some ⟨R i, 0, none⟩)) (.int .u64 0) (.pointer none) (.slice (bO (A i) (EP i)) ids.length (L i))
                clear hF1 hF1a hIx a0 a1 a2 a3 b0 b1 b2 b3 s0 s1 s1' s2 s3
                generalize ((w1x.alloc (.cells #[.pointer (some ⟨R i, 0, none⟩), .int .u64 0, .pointer none, .slice (bO (A i) (EW i)) ids.length (L i)] 58)).alloc (.cells #[.pointer (some ⟨R i, 0, none⟩), .int .u64 0, .pointer none, .slice (bO (A i) (EP i)) ids.length (L i)] 58)) = W2 at hF2 hI2 x0 x1 x2 x3 y0 y1 y2 y3 ⊢
                generalize w1x.heap.size + 1 = b2 at y0 y1 y2 y3 ⊢
                generalize w1x.heap.size = b1 at x0 x1 x2 x3 ⊢
                obtain ⟨G, hGd⟩ : ∃ G : World → Prop, ∀ W, G W ↔ ((W.cell? ⟨b1, 0, none⟩ = some (.pointer (some ⟨R i, 0, none⟩)) ∧ W.cell? ⟨b1, 1, none⟩ = some (.int .u64 0) ∧ W.cell? ⟨b1, 2, none⟩ = some (.pointer none) ∧ W.cell? ⟨b1, 3, none⟩ = some (.slice (bO (A i) (EW i)) ids.length (L i))) ∧ (W.cell? ⟨b2, 0, none⟩ = some (.pointer (some ⟨R i, 0, none⟩)) ∧ W.cell? ⟨b2, 1, none⟩ = some (.int .u64 0) ∧ W.cell? ⟨b2, 2, none⟩ = some (.pointer none) ∧ W.cell? ⟨b2, 3, none⟩ = some (.slice (bO (A i) (EP i)) ids.length (L i))) ∧ F W ∧ IxAt W ia ib ids.length (fun k => ids.getD k 0)) := ⟨_, fun _ => Iff.rfl⟩
                have hGs : Stable G := fun W W' h hb => by
                  obtain ⟨⟨z0, z1, z2, z3⟩, ⟨v0, v1, v2, v3⟩, hf, hix⟩ := (hGd W).1 h
                  exact (hGd W').2 ⟨⟨below_cell hb z0, below_cell hb z1, below_cell hb z2, below_cell hb z3⟩, ⟨below_cell hb v0, below_cell hb v1, below_cell hb v2, below_cell hb v3⟩, HSt.out _ _ hf hb, hix.below hb⟩
                have hG2 : G W2 := (hGd W2).2 ⟨⟨x0, x1, x2, x3⟩, ⟨y0, y1, y2, y3⟩, hF2, hI2⟩
                have hlj : lj lX 0 tn i = fstK (lX i) := by unfold lj; rw [if_pos (by omega)]
                have gf : ∀ W, G W → (W.cell? ⟨b1, 0, none⟩ = some (.pointer (some ⟨R i, 0, none⟩)) ∧ W.cell? ⟨b1, 1, none⟩ = some (.int .u64 0) ∧ W.cell? ⟨b1, 2, none⟩ = some (.pointer none) ∧ W.cell? ⟨b1, 3, none⟩ = some (.slice (bO (A i) (EW i)) ids.length (L i)) ∧ W.cell? ⟨b2, 0, none⟩ = some (.pointer (some ⟨R i, 0, none⟩)) ∧ W.cell? ⟨b2, 1, none⟩ = some (.int .u64 0) ∧ W.cell? ⟨b2, 2, none⟩ = some (.pointer none) ∧ W.cell? ⟨b2, 3, none⟩ = some (.slice (bO (A i) (EP i)) ids.length (L i)) ∧ W.cell? ⟨rtb, i, none⟩ = some (.pointer (some ⟨R i, 0, none⟩)) ∧ W.cell? ⟨tw, i * 3, none⟩ = some (.bool (CH i)) ∧ W.cell? ⟨tw, i * 3 + 1, none⟩ = some (.bool (EN i)) ∧ W.cell? ⟨tw, i * 3 + 2, none⟩ = some (.slice (bO (A i) (EW i)) ids.length (L i)) ∧ W.cell? ⟨tp, i * 3, none⟩ = some (.bool (CH i)) ∧ W.cell? ⟨tp, i * 3 + 1, none⟩ = some (.bool (EN i)) ∧ W.cell? ⟨tp, i * 3 + 2, none⟩ = some (.slice (bO (A i) (EP i)) ids.length (L i)) ∧ G W) := fun W h => by
                  obtain ⟨⟨z0, z1, z2, z3⟩, ⟨v0, v1, v2, v3⟩, hf, hix⟩ := (hGd W).1 h
                  have g := (HF.out W).1 hf
                  have t1 := g.trw i hirn
                  have t2 := g.trp i hirn
                  rw [hlj] at t1 t2
                  have t1c := t1.c2
                  have t2c := t2.c2
                  rw [HK.out] at t1c t2c
                  exact ⟨z0, z1, z2, z3, v0, v1, v2, v3, g.rt.c i hlt, t1.c0, t1.c1, t1c, t2.c0, t2.c1, t2c, h⟩
                have mW : ∀ W, G W → Calls Try.prog 22 #[.slice (bO (A i) (EW i)) ids.length (L i), .slice (A i) (L i) (C i), .slice ia ids.length ic] W (FP G (.bool true)) := fun W h => by
                  obtain ⟨_, _, hf, hix⟩ := (hGd W).1 h
                  have g := (HF.out W).1 hf
                  obtain ⟨zs, hgot, hseg⟩ := (g.trw i hirn).got
                  rw [hlj] at hgot hseg
                  have hia := ids_at (l := fstK (lX i)) Hids.out (by rw [HlX.out]) hseg
                  rw [HK.out] at hgot
                  exact fp_of hGs h (match_calls _ _ _ (EW i) (L i) (IB i) (IQ i) (L i) (C i) ib ic ids.length zs (X i) _ W hgot ((hR.below g.bel).r i hirn) hix hia.2 (by have := HL.out i hirn; omega) (HL.out i hirn))
                have mP : ∀ W, G W → Calls Try.prog 22 #[.slice (bO (A i) (EP i)) ids.length (L i), .slice (A i) (L i) (C i), .slice ia ids.length ic] W (FP G (.bool true)) := fun W h => by
                  obtain ⟨_, _, hf, hix⟩ := (hGd W).1 h
                  have g := (HF.out W).1 hf
                  obtain ⟨zs, hgot, hseg⟩ := (g.trp i hirn).got
                  rw [hlj] at hgot hseg
                  have hia := ids_at (l := fstK (lX i)) Hids.out (by rw [HlX.out]) hseg
                  rw [HK.out] at hgot
                  exact fp_of hGs h (match_calls _ _ _ (EP i) (L i) (IB i) (IQ i) (L i) (C i) ib ic ids.length zs (X i) _ W hgot ((hR.below g.bel).r i hirn) hix hia.2 (by have := HL.out i hirn; omega) (HL.out i hirn))
                have toF : ∀ W, G W → F W := fun W h => ((hGd W).1 h).2.2.1
                have HG := Lib.hid hGs
                have Hgf := Lib.hid gf
                have HmW := Lib.hid mW
                have HmP := Lib.hid mP
                have HtF := Lib.hid toF
                have ne1 := neq49 (R i)
                have hGdr := hGs _ _ hG2 (Below.drewT W2)
                clear hGs gf mW mP toF hGd hlj x0 x1 x2 x3 y0 y1 y2 y3 hF2 hI2 hG2
                go_region_held3 (fun W => W.cell? ⟨b1, 0, none⟩ = some (.pointer (some ⟨R i, 0, none⟩)) ∧ W.cell? ⟨b1, 1, none⟩ = some (.int .u64 0) ∧ W.cell? ⟨b1, 2, none⟩ = some (.pointer none) ∧ W.cell? ⟨b1, 3, none⟩ = some (.slice (bO (A i) (EW i)) ids.length (L i)) ∧ W.cell? ⟨b2, 0, none⟩ = some (.pointer (some ⟨R i, 0, none⟩)) ∧ W.cell? ⟨b2, 1, none⟩ = some (.int .u64 0) ∧ W.cell? ⟨b2, 2, none⟩ = some (.pointer none) ∧ W.cell? ⟨b2, 3, none⟩ = some (.slice (bO (A i) (EP i)) ids.length (L i)) ∧ W.cell? ⟨rtb, i, none⟩ = some (.pointer (some ⟨R i, 0, none⟩)) ∧ W.cell? ⟨tw, i * 3, none⟩ = some (.bool (CH i)) ∧ W.cell? ⟨tw, i * 3 + 1, none⟩ = some (.bool (EN i)) ∧ W.cell? ⟨tw, i * 3 + 2, none⟩ = some (.slice (bO (A i) (EW i)) ids.length (L i)) ∧ W.cell? ⟨tp, i * 3, none⟩ = some (.bool (CH i)) ∧ W.cell? ⟨tp, i * 3 + 1, none⟩ = some (.bool (EN i)) ∧ W.cell? ⟨tp, i * 3 + 2, none⟩ = some (.slice (bO (A i) (EP i)) ids.length (L i)) ∧ G W) ((exact Hgf.out _ (by assumption)))
                  (first | (go_at_call 19; refine (fp_of HG.out (by assumption) (root_calls _ _ _ _ _)).mono ?_; rintro e w' ⟨rfl, hS'⟩))
                rename_i hHeld
                obtain ⟨x0, x1, x2, x3, _, _, _, _, _, _, _, _, _, _, _, hG⟩ := hHeld
                clear hS' hGdr ne1
                go_wp2_with fail
                refine (fp_of HG.out hG (prior_calls (some ⟨R i, 0, none⟩) (bO (A i) (EW i)) ids.length (L i) _)).mono ?_
                rintro e w3x ⟨rfl, hG3⟩
                clear x0 x1 x2 x3 hG
                go_wp2_with fail
                refine (HmW.out _ hG3).mono ?_
                rintro e w4x ⟨rfl, hG4⟩
                clear hG3
                obtain ⟨_, _, _, _, y0, y1, y2, y3, _, _, _, _, _, _, _, _⟩ := Hgf.out _ hG4
                go_wp2_with fail
                refine (fp_of HG.out hG4 (prior_calls (some ⟨R i, 0, none⟩) (bO (A i) (EP i)) ids.length (L i) _)).mono ?_
                rintro e w5x ⟨rfl, hG5⟩
                clear y0 y1 y2 y3 hG4
                go_wp2_with fail
                refine (HmP.out _ hG5).mono ?_
                rintro e w6x ⟨rfl, hG6⟩
                clear hG5
                obtain ⟨_, _, _, _, _, _, _, _, _, t0, t1, t2, _, _, _, _⟩ := Hgf.out _ hG6
                go_wp2_with fail
                refine (fp_of HG.out hG6 (tracePrior_calls (CH i) (EN i) (bO (A i) (EW i)) ids.length (L i) _)).mono ?_
                rintro e w7x ⟨rfl, hG7⟩
                clear t0 t1 t2 hG6
                go_wp2_with fail
                refine (HmW.out _ hG7).mono ?_
                rintro e w8x ⟨rfl, hG8⟩
                clear hG7
                obtain ⟨_, _, _, _, _, _, _, _, _, _, _, _, u0, u1, u2, _⟩ := Hgf.out _ hG8
                go_wp2_with fail
                refine (fp_of HG.out hG8 (tracePrior_calls (CH i) (EN i) (bO (A i) (EP i)) ids.length (L i) _)).mono ?_
                rintro e w9x ⟨rfl, hG9⟩
                clear u0 u1 u2 hG8
                go_wp2_with fail
                refine (HmP.out _ hG9).mono ?_
                rintro e w10x ⟨rfl, hG10⟩
                have hF10 := HtF.out _ hG10
                go_wp2
                go_roundw
                case rel => exact ⟨i + 1, Nat.zero_le _, by omega, by go_num, hF10⟩
                case measure => first | (simp [intOf]; done) | (simp [intOf]; omega)
              · have hlt' : ¬ (i : Int) < (tn : Int) := by omega
                go_wp2
                go_loopw [27, 28] (fun iv _ wr => RelN F tn rn iv wr) (fun iv _ _ => rn - (intOf iv).toNat)
                case atStart => exact ⟨tn, Nat.le_refl _, by omega, rfl, hF⟩
                case round =>
                  clear hF
                  obtain ⟨i, hlo, hi, rfl, hF⟩ := hrel
                  by_cases hlt : i < rn
                  · have hlt' : (i : Int) < (rn : Int) := by omega
                    have g := (HF.out wr).1 hF
                    have q5 := hR.addr (by omega)
                    subst q5
                    have c2 := (hR.below g.bel).c2 i hlt
                    have ti := g.trw i hlt
                    have hlj : lj lX 0 tn i = seg (X i) 0 (L i) := by unfold lj; rw [if_neg (by omega), HlX.out]
                    rw [hlj] at ti
                    have t0 := ti.c0
                    have t1 := ti.c1
                    have t2 := ti.c2
                    rw [seg_length] at t2
                    have Hlj := Lib.hid hlj
                    clear hlj g ti
                    go_wp2_with fail
                    refine (fp_of HSt.out hF (tracePrior_calls (CH i) (EN i) (bO (A i) (EW i)) (L i) (L i) _)).mono ?_
                    rintro e w3x ⟨rfl, hF3⟩
                    clear t0 t1 t2 c2 hF
                    go_wp2_with fail
                    refine (iota_calls (L i) w3x (HL.out i hlt)).mono ?_
                    rintro e w4x ⟨ig, rfl, hBi, hIx⟩
                    have hF4 := HSt.out _ _ hF3 hBi
                    clear hF3
                    go_wp2_with fail
                    have g := (HF.out w4x).1 hF4
                    have ti := g.trw i hlt
                    rw [Hlj.out] at ti
                    obtain ⟨zs, hgot, hseg⟩ := ti.got
                    rw [seg_length] at hgot hseg
                    refine (fp_of HSt.out hF4 (match_calls _ _ _ (EW i) (L i) (IB i) (IQ i) (L i) (C i) ig (L i) (L i) zs (X i) (fun i => i) w4x hgot ((hR.below g.bel).r i hlt) hIx (fun k hk => ⟨hk, by
                      have e1 := seg_get zs hk
                      rw [hseg, seg_get (X i) hk] at e1
                      exact (Option.some.inj e1).symm⟩) (HL.out i hlt) (HL.out i hlt))).mono ?_
                    rintro e w5x ⟨rfl, hF5⟩
                    clear g ti hgot hseg hIx hF4
                    go_wp2
                    go_roundw
                    case rel => exact ⟨i + 1, by omega, by omega, by go_num, hF5⟩
                    case measure => first | (simp [intOf]; done) | (simp [intOf]; omega)
                  · have hlt' : ¬ (i : Int) < (rn : Int) := by omega
                    have g := (HF.out wr).1 hF
                    go_wp2
                    go_ret
                    exact ⟨rfl, g.bel⟩
end Go.Proofs.Qxb6616141a
