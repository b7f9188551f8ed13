/-
  OWN TEXT. FnLedgerApplyScriptMatchesModel: the walk.
-/
import Derived.Test.Qxb6616074aStart4
namespace Go.Proofs.Qxb6616074a
open Go.RowKit Go.MapKept Go.ChangeMaps

set_option maxRecDepth 100000 in
set_option maxHeartbeats 1000000 in
theorem zz12_calls (a : Option Addr) (sb so n cap : Nat) (es : Nat → EntD) (w : World) (h : ScrAt w a sb so n es) (p : ByteArray) :
    Calls Try.prog 12 #[.slice a n cap, .string p] w (ZzbPost w n es) := by
  by_cases hbig : (1048576 : Int) < (n : Int)
  · go_enter Try.func12, Try.ntmps12
    go_wp2
    go_ret
    exact ⟨⟨false, rfl, by simp⟩, rfl⟩
  · have hb2 : ¬ (1048576 : Int) < (n : Int) := hbig
    go_enter Try.func12, Try.ntmps12
    go_wp2
    go_loop [5, 6] (fun z i => ∃ (k : Nat) (q : Int), k ≤ n ∧ i = .int .i64 k ∧ z = .int .i64 q ∧ 0 ≤ q ∧ q ≤ 1048576 ∧ ∀ j, j < k → (es j).2.1.size ≤ 1048576) (fun _ i => n - (intOf i).toNat)
    case atStart => exact ⟨0, n, Nat.zero_le _, rfl, rfl, by omega, by omega, fun j hj => by omega⟩
    case round =>
      obtain ⟨k, q, hk, rfl, rfl, hq0, hq1, hall⟩ := hrel
      by_cases hlt : k < n
      · have ha := h.addr (by omega)
        subst ha
        have hc := h.t k hlt
        have hlt' : (k : Int) < (n : Int) := by omega
        by_cases hs : (1048576 : Int) < ((es k).2.1.size : Int)
        · go_wp2
          go_ret
          exact ⟨⟨false, rfl, by simp⟩, rfl⟩
        · have hs' : ((es k).2.1.size : Int) ≤ 1048576 := by omega
          have hs0 : (0 : Int) ≤ ((es k).2.1.size : Int) := by omega
          by_cases hs2 : (1048576 : Int) < q + ((es k).2.1.size : Int)
          · go_wp2
            go_ret
            exact ⟨⟨false, rfl, by simp⟩, rfl⟩
          · go_wp2
            go_round
            case rel =>
              refine ⟨k + 1, q + ((es k).2.1.size : Int), by omega, by go_num, rfl, by omega, by omega, fun j hj => ?_⟩
              rcases Nat.lt_or_eq_of_le (Nat.lt_succ_iff.1 hj) with h' | h'
              · exact hall j h'
              · subst h'; omega
            case measure => simp [intOf]; omega
      · have hlt' : ¬ (k : Int) < (n : Int) := by omega
        have p0 : (0 : Int) ≤ (p.size : Int) := by omega
        by_cases hp1 : (1048576 : Int) < (p.size : Int)
        · go_wp2
          go_ret
          exact ⟨⟨false, rfl, by simp⟩, rfl⟩
        · by_cases hp2 : (1048576 : Int) < q + (p.size : Int)
          · go_wp2
            go_ret
            exact ⟨⟨false, rfl, by simp⟩, rfl⟩
          · go_wp2
            go_ret
            exact ⟨⟨true, rfl, fun _ => ⟨by omega, fun i hi => hall i (by omega)⟩⟩, rfl⟩


set_option maxRecDepth 100000 in
set_option maxHeartbeats 4000000 in
theorem model_walk (a : Option Addr) (sb so n cap : Nat) (es : Nat → EntD) (p : ByteArray) (w : World) (h : ScrAt w a sb so n es) (hst : ∀ i, i < n → (es i).2.2 ≤ topU) :
    Calls Try.prog 4 #[.slice a n cap, .string p] w (LawPost w) := by
  go_enter Try.func4, Try.ntmps4
  go_wp2_with fail
  refine (zz12_calls a sb so n cap es w h p).mono ?_
  rintro e w1 ⟨⟨b, rfl, hb⟩, hw⟩; obtain rfl := hw.symm; clear hw
  cases b with
  | false =>
    go_wp2_with fail
    go_ret
    exact ⟨rfl, Below.refl _ _⟩
  | true =>
    obtain ⟨hn, hsz⟩ := hb rfl
    clear hb
    have p0 : (0 : Int) ≤ (p.size : Int) := by omega
    by_cases hp : (1048576 : Int) < (p.size : Int)
    · go_wp2
      go_ret
      exact ⟨rfl, Below.refl _ _⟩
    go_wp2_with fail
    refine (big_calls a sb so n cap es w h hn hsz (p.size : Int) p0 (by omega)).mono ?_
    rintro e w1 ⟨⟨b, rfl⟩, hw⟩; obtain rfl := hw.symm; clear hw
    cases b with
    | true =>
      go_wp2_with fail
      go_ret
      exact ⟨rfl, Below.refl _ _⟩
    | false =>
      go_wp2_with fail
      refine (new_calls w).mono ?_
      rintro e w1 ⟨rfl, hled, hchg, hsz1⟩
      have hmm := @run_makeMap Try.prog
      obtain ⟨O0, hM0⟩ := start_mid hled hchg hsz1
      go_wp2_with fail
      clear hmm
      obtain ⟨B, hB⟩ : ∃ B, B = w.heap.size := ⟨_, rfl⟩
      rw [← hB] at hM0 ⊢
      delta W6 c44 at hM0
      clear hB hled hchg hsz1
      go_loopw [10] (fun iv wr => ∃ (k : Nat) (O : Nat → List Nat) (F : List Nat) (L : Led) (f : ByteArray → Option Int) (nd : Nat) (u : ByteArray → Option Int) (nu : Nat) (Ga : List Nat) (Ra : Resn) (Na : Nat) (Gc : List Nat) (Rc : Resn) (Nc : Nat) (X : List Nat), iv = .int .i64 k ∧ k ≤ n ∧
        Mid w wr O B (B + 1) (B + 1 + 1) (B + 1 + 1 + 1) (B + 1 + 1 + 1 + 1) F L f nd u nu Ga Ra Na Gc Rc Nc X ∧ PI es k L f nd u Ra Na Rc Nc) (fun iv _ => n - (intOf iv).toNat)
      case atStart => exact ⟨0, O0, _, _, _, _, _, _, _, _, _, _, _, _, _, rfl, Nat.zero_le _, hM0, pi0 es⟩
      case round =>
        clear hM0
        obtain ⟨k, O, F, L, f, nd, u, nu, Ga, Ra, Na, Gc, Rc, Nc, X, rfl, hk, hM, hP⟩ := hrel
        by_cases hlt : k < n
        · have ha := h.addr (by omega)
          subst ha
          have hsc := h.below hM.below
          have ck := hsc.k k hlt
          have ct := hsc.t k hlt
          have cs := hsc.s k hlt
          have hlt' : (k : Int) < (n : Int) := by omega
          obtain ⟨O1, hM1⟩ := hM.box (.cells #[.int .u8 (es k).1, .string (es k).2.1, .int .u64 (es k).2.2] 30)
          have b0 : (wr.alloc (.cells #[.int .u8 (es k).1, .string (es k).2.1, .int .u64 (es k).2.2] 30)).cell? ⟨wr.heap.size, 0, none⟩ = some (.int .u8 (es k).1) := (cell_new rfl _ _ _).trans rfl
          have b1 : (wr.alloc (.cells #[.int .u8 (es k).1, .string (es k).2.1, .int .u64 (es k).2.2] 30)).cell? ⟨wr.heap.size, 1, none⟩ = some (.string (es k).2.1) := (cell_new rfl _ _ _).trans rfl
          have b2 : (wr.alloc (.cells #[.int .u8 (es k).1, .string (es k).2.1, .int .u64 (es k).2.2] 30)).cell? ⟨wr.heap.size, 2, none⟩ = some (.int .u64 (es k).2.2) := (cell_new rfl _ _ _).trans rfl
          have hna := hP.la
          have hnc := hP.lc
          go_wp2_with fail
          refine (zzapply_calls hM1.ag.led hP.small (by omega) _ _ _).mono ?_
          rintro e w2 ⟨rfl, F', q1, q2⟩
          have d0 := hM1.cellL q2 b0
          have d1 := hM1.cellL q2 b1
          have d2 := hM1.cellL q2 b2
          obtain ⟨O2, hM2⟩ := hM1.led q1 q2
          clear b0 b1 b2 hM1 hM q1 q2 ck ct cs hsc
          generalize wr.heap.size = bx at d0 d1 d2 hM2 ⊢
          by_cases hk1 : (es k).1 = 1
          · have e1 : ((es k).1 == 1) = true := by simpa using hk1
            obtain ⟨w3, O3, hup, hM3, _⟩ := hM2.putD (es k).2.1 (es k).2.2
            have hP' := hP.k1 hk1 (hst k hlt)
            go_wp2_with fail
            go_roundw
            case rel => exact ⟨k + 1, O3, F', _, _, _, _, _, _, _, _, _, _, _, _, by go_num, by omega, hM3, hP'⟩
            case measure => simp [intOf]; omega
          · have e1 : ((es k).1 == 1) = false := by simpa using hk1
            by_cases hk2 : (es k).1 = 2
            · have e2 : ((es k).1 == 2) = true := by simpa using hk2
              obtain ⟨w3, O3, nu3, hup, hM3, hc3⟩ := hM2.putU (es k).2.1 (es k).2.2
              have g1 := hM2.cellU hc3 d1
              obtain ⟨w4, O4, hdel, hM4, _⟩ := hM3.delD (es k).2.1
              have hP' := hP.k2 hk2
              clear hc3
              go_wp2_with (at_delete; refine wpList_delete rfl (.tmp 80) (.tmp 82) 27 9 rfl (.map (some (B + 1))) (.string (es k).2.1) rfl rfl w4 hdel ?_)
              go_roundw
              case rel => exact ⟨k + 1, O4, F', _, _, _, _, _, _, _, _, _, _, _, _, by go_num, by omega, hM4, hP'⟩
              case measure => simp [intOf]; omega
            · have e2 : ((es k).1 == 2) = false := by simpa using hk2
              by_cases hk5 : (es k).1 = 5
              · have e5 : ((es k).1 == 5) = true := by simpa using hk5
                obtain ⟨w3, O3, nu3, hdelu, hM3, hc3⟩ := hM2.delU (es k).2.1
                have g0 := hM2.cellU hc3 d0
                have g1 := hM2.cellU hc3 d1
                have g2 := hM2.cellU hc3 d2
                have hP' := hP.k5 hk5
                clear hc3
                go_wp2_with (at_delete; refine wpList_delete rfl (.tmp 70) (.tmp 72) 27 9 rfl (.map (some (B + 1 + 1))) (.string (es k).2.1) rfl rfl w3 hdelu ?_)
                go_wp2_with fail
                have hq := logAdd_calls hM3.ag.rcm (show Nc < 2000000 by omega) (es k)
                rw [hk5] at hq
                refine hq.mono ?_
                rintro e w4 ⟨rfl, G', q1, q2⟩
                have r1 := hM3.cellC q2 g1
                obtain ⟨O4, hM4⟩ := hM3.cmt q1 q2
                obtain ⟨w5, O5, hdel, hM5, _⟩ := hM4.delD (es k).2.1
                clear q1 q2 hdelu
                go_wp2_with (at_delete; refine wpList_delete rfl (.tmp 80) (.tmp 82) 27 9 rfl (.map (some (B + 1))) (.string (es k).2.1) rfl rfl w5 hdel ?_)
                go_roundw
                case rel => exact ⟨k + 1, O5, F', _, _, _, _, _, _, _, _, _, _, _, _, by go_num, by omega, hM5, hP'⟩
                case measure => simp [intOf]; omega
              · have e5 : ((es k).1 == 5) = false := by simpa using hk5
                by_cases hk34 : (es k).1 = 3 ∨ (es k).1 = 4
                · have hP' := hP.k34 hk34
                  rcases hk34 with hk3 | hk4
                  · have e3 : ((es k).1 == 3) = true := by simpa using hk3
                    go_wp2_with fail
                    have hq := logAdd_calls hM2.ag.rab (show Na < 2000000 by omega) (es k)
                    rw [hk3] at hq
                    refine hq.mono ?_
                    rintro e w4 ⟨rfl, G', q1, q2⟩
                    have r1 := hM2.cellA q2 d1
                    obtain ⟨O4, hM4⟩ := hM2.abt q1 q2
                    obtain ⟨w5, O5, hdel, hM5, _⟩ := hM4.delD (es k).2.1
                    clear q1 q2
                    go_wp2_with (at_delete; refine wpList_delete rfl (.tmp 80) (.tmp 82) 27 9 rfl (.map (some (B + 1))) (.string (es k).2.1) rfl rfl w5 hdel ?_)
                    go_roundw
                    case rel => exact ⟨k + 1, O5, F', _, _, _, _, _, _, _, _, _, _, _, _, by go_num, by omega, hM5, hP'⟩
                    case measure => simp [intOf]; omega
                  · have e3 : ((es k).1 == 3) = false := by simpa using (show (es k).1 ≠ 3 by omega)
                    have e4 : ((es k).1 == 4) = true := by simpa using hk4
                    go_wp2_with fail
                    have hq := logAdd_calls hM2.ag.rab (show Na < 2000000 by omega) (es k)
                    rw [hk4] at hq
                    refine hq.mono ?_
                    rintro e w4 ⟨rfl, G', q1, q2⟩
                    have r1 := hM2.cellA q2 d1
                    obtain ⟨O4, hM4⟩ := hM2.abt q1 q2
                    obtain ⟨w5, O5, hdel, hM5, _⟩ := hM4.delD (es k).2.1
                    clear q1 q2
                    go_wp2_with (at_delete; refine wpList_delete rfl (.tmp 80) (.tmp 82) 27 9 rfl (.map (some (B + 1))) (.string (es k).2.1) rfl rfl w5 hdel ?_)
                    go_roundw
                    case rel => exact ⟨k + 1, O5, F', _, _, _, _, _, _, _, _, _, _, _, _, by go_num, by omega, hM5, hP'⟩
                    case measure => simp [intOf]; omega
                · have e3 : ((es k).1 == 3) = false := by simpa using (show (es k).1 ≠ 3 from fun e => hk34 (.inl e))
                  have e4 : ((es k).1 == 4) = false := by simpa using (show (es k).1 ≠ 4 from fun e => hk34 (.inr e))
                  have hP' := hP.k0 hk1 hk2 (fun e => hk34 (.inl e)) (fun e => hk34 (.inr e)) hk5
                  obtain ⟨w5, O5, hdel, hM5, _⟩ := hM2.delD (es k).2.1
                  go_wp2_with (at_delete; refine wpList_delete rfl (.tmp 80) (.tmp 82) 27 9 rfl (.map (some (B + 1))) (.string (es k).2.1) rfl rfl w5 hdel ?_)
                  go_roundw
                  case rel => exact ⟨k + 1, O5, F', _, _, _, _, _, _, _, _, _, _, _, _, by go_num, by omega, hM5, hP'⟩
                  case measure => simp [intOf]; omega
        · have hlt' : ¬ (k : Int) < (n : Int) := by omega
          obtain rfl : k = n := by omega
          have hA := hM.ag
          have hbel := hM.below
          have hcnt := hP.dinv.cnt
          subst hcnt
          have hsm := hP.small.h
          have hNa : Na < 2000000 := by have := hP.la; omega
          have hNc : Nc < 2000000 := by have := hP.lc; omega
          have hlenD := hA.dm.len (P := Try.prog) (t := 27) (kt := 9) (et := 28) (ty := 3) Try.underlying27
          have hlenU := hA.um.len (P := Try.prog) (t := 27) (kt := 9) (et := 28) (ty := 3) Try.underlying27
          have hsome : ∀ (R : Resn) (N : Nat) (t : ByteArray), (remF R N t).isSome = (remI R N t).isSome := fun R N t => by rw [remF_remI]; simp
          have hsrcA : ∀ t, (remI Ra Na t).isSome = true → ∃ i, i < k ∧ (es i).2.1 = t := fun t ht => by
            obtain ⟨i, hi⟩ := Option.isSome_iff_exists.1 ht
            obtain ⟨j, hj, e⟩ := hP.fa i (remI_lt hi)
            exact ⟨j, hj, e.trans (remI_txn hi)⟩
          have hsrcC : ∀ t, (remI Rc Nc t).isSome = true → ∃ i, i < k ∧ (es i).2.1 = t := fun t ht => by
            obtain ⟨i, hi⟩ := Option.isSome_iff_exists.1 ht
            obtain ⟨j, hj, e⟩ := hP.fc i (remI_lt hi)
            exact ⟨j, hj, e.trans (remI_txn hi)⟩
          have hl14 := unLen_calls hA.led (fun m => m = nu) (fun m hm => hm.uniq hA.um.card (fun t => by rw [hP.un]))
          have hl15 := abLen_calls hA.led (fun m => m = cntR es Ra Na k) (fun m hm => hm.uniq (cntR_card hsrcA) (fun t => by rw [hP.sa.lat, hsome]))
          have hl17 : ∀ wq, Chg (fun _ => False) wr wq → _ := fun wq hq => cmLen_calls (hA.chg hq).led (fun m => m = cntR es Rc Nc k) (fun m hm => hm.uniq (cntR_card hsrcC) (fun t => by rw [hP.sc.lat, hsome]))
          have hl16 := count_calls hA.rab hNa a sb so k cap es (h.below hbel) hn
          have hl16c : ∀ wq, Chg (fun _ => False) wr wq → _ := fun wq hq => count_calls (hA.chg hq).rcm hNc a sb so k cap es ((h.below hbel).chg hq) hn
          have hfA : ∀ wq, Chg (fun _ => False) wr wq → _ := fun wq hq => forgotten_calls (hA.chg hq).rab hNa
          have hfC : ∀ wq, Chg (fun _ => False) wr wq → _ := fun wq hq => forgotten_calls (hA.chg hq).rcm hNc
          have Hfg := Lib.hid hP.fg
          have hAgr : ∀ wq, Chg (fun _ => False) wr wq → ∀ t, _ := fun wq hq t => agrees_calls (hA.chg hq) t (fun s => hP.dinv.mem t s) (hP.un t) (hP.sa.lat t) (hP.sc.lat t) hNa hNc
          have hc1 := cntR_le es Ra Na k
          have hc2 := cntR_le es Rc Nc k
          generalize fgF Ra (Na - 10000) = fa at hfA Hfg
          generalize fgF Rc (Nc - 10000) = fc at hfC Hfg
          generalize cntR es Ra Na k = ca at hl15 hl16 hc1
          generalize cntR es Rc Nc k = cc at hl17 hl16c hc2
          clear hsrcA hsrcC hsome hP hM hst hsz
          go_wp2_with fail
          refine (dlen_calls hA.led).mono ?_
          rintro e w1 ⟨rfl, hw⟩; obtain rfl := hw.symm; clear hw
          go_wp2_with fail
          refine hl14.mono ?_
          rintro e w1 ⟨⟨m1, rfl, rfl⟩, hw⟩; obtain rfl := hw.symm; clear hw
          clear hl14
          go_wp2_with fail
          refine hl15.mono ?_
          rintro e w1 ⟨⟨m2, rfl, rfl⟩, hw⟩; obtain rfl := hw.symm; clear hw
          clear hl15 hlenD hlenU
          go_wp2_with fail
          refine hl16.mono ?_
          rintro e w2 ⟨⟨m3, rfl, rfl⟩, hC2⟩
          clear hl16
          go_wp2_with fail
          refine (hl17 w2 hC2).mono ?_
          rintro e w1 ⟨⟨m4, rfl, rfl⟩, hw⟩; obtain rfl := hw.symm; clear hw
          clear hl17
          go_wp2_with fail
          refine (hl16c w2 hC2).mono ?_
          rintro e w3 ⟨⟨m5, rfl, rfl⟩, hC3'⟩
          have hC3 := hC2.tr hC3'
          clear hl16c hC3' hC2
          go_wp2_with fail
          refine (hfA w3 hC3).mono ?_
          rintro e w4 ⟨rfl, hC4'⟩
          have hC4 := hC3.tr hC4'
          clear hfA hC4' hC3
          go_wp2_with fail
          refine (hfC w4 hC4).mono ?_
          rintro e w5 ⟨rfl, hC5'⟩
          have hC5 := hC4.tr hC5'
          clear hfC hC5' hC4
          by_cases hgf : fa < fc
          · skip
            have hfgv : L.fg = fc := by rw [Hfg.out]; omega
            have hf19 := fg_calls (hA.chg hC5).led
            rw [hfgv] at hf19
            clear hfgv
            go_wp2_with fail
            refine hf19.mono ?_
            rintro e w6 ⟨rfl, hw⟩; obtain rfl := hw.symm; clear hw
            clear hf19
            go_wp2_with fail
            go_loopw [14] (fun iv wq => ∃ i : Nat, i ≤ k + 1 ∧ iv = .int .i64 i ∧ Chg (fun _ => False) wr wq) (fun iv _ => k + 1 - (intOf iv).toNat)
            case atStart => exact ⟨0, Nat.zero_le _, rfl, hC5⟩
            case round =>
              obtain ⟨i, hi, rfl, hCq⟩ := hrel
              by_cases hik : i ≤ k
              · have hik' : (i : Int) ≤ (k : Int) := by omega
                by_cases hil : i < k
                · have hil' : (i : Int) < (k : Int) := by omega
                  have ha := h.addr (by omega)
                  subst ha
                  have ct := ((h.below hbel).chg hCq).t i hil
                  have hag := hAgr _ hCq (es i).2.1
                  go_wp2_with fail
                  refine hag.mono ?_
                  rintro e w7 ⟨rfl, hC7⟩
                  go_wp2_with fail
                  go_roundw
                  case rel => exact ⟨i + 1, by omega, by go_num, hCq.tr hC7⟩
                  case measure => simp [intOf]; omega
                · have hil' : ¬ (i : Int) < (k : Int) := by omega
                  have hag := hAgr _ hCq p
                  go_wp2_with fail
                  refine hag.mono ?_
                  rintro e w7 ⟨rfl, hC7⟩
                  go_wp2_with fail
                  go_roundw
                  case rel => exact ⟨i + 1, by omega, by go_num, hCq.tr hC7⟩
                  case measure => simp [intOf]; omega
              · have hik' : ¬ (i : Int) ≤ (k : Int) := by omega
                go_wp2_with fail
                go_ret
                exact ⟨rfl, hbel.trans (hCq.below (B := w.heap.size) (fun _ x => x.elim) hbel.size)⟩
          · skip
            have hfgv : L.fg = fa := by rw [Hfg.out]; omega
            have hf19 := fg_calls (hA.chg hC5).led
            rw [hfgv] at hf19
            clear hfgv
            go_wp2_with fail
            refine hf19.mono ?_
            rintro e w6 ⟨rfl, hw⟩; obtain rfl := hw.symm; clear hw
            clear hf19
            go_wp2_with fail
            go_loopw [14] (fun iv wq => ∃ i : Nat, i ≤ k + 1 ∧ iv = .int .i64 i ∧ Chg (fun _ => False) wr wq) (fun iv _ => k + 1 - (intOf iv).toNat)
            case atStart => exact ⟨0, Nat.zero_le _, rfl, hC5⟩
            case round =>
              obtain ⟨i, hi, rfl, hCq⟩ := hrel
              by_cases hik : i ≤ k
              · have hik' : (i : Int) ≤ (k : Int) := by omega
                by_cases hil : i < k
                · have hil' : (i : Int) < (k : Int) := by omega
                  have ha := h.addr (by omega)
                  subst ha
                  have ct := ((h.below hbel).chg hCq).t i hil
                  have hag := hAgr _ hCq (es i).2.1
                  go_wp2_with fail
                  refine hag.mono ?_
                  rintro e w7 ⟨rfl, hC7⟩
                  go_wp2_with fail
                  go_roundw
                  case rel => exact ⟨i + 1, by omega, by go_num, hCq.tr hC7⟩
                  case measure => simp [intOf]; omega
                · have hil' : ¬ (i : Int) < (k : Int) := by omega
                  have hag := hAgr _ hCq p
                  go_wp2_with fail
                  refine hag.mono ?_
                  rintro e w7 ⟨rfl, hC7⟩
                  go_wp2_with fail
                  go_roundw
                  case rel => exact ⟨i + 1, by omega, by go_num, hCq.tr hC7⟩
                  case measure => simp [intOf]; omega
              · have hik' : ¬ (i : Int) ≤ (k : Int) := by omega
                go_wp2_with fail
                go_ret
                exact ⟨rfl, hbel.trans (hCq.below (B := w.heap.size) (fun _ x => x.elim) hbel.size)⟩
end Go.Proofs.Qxb6616074a
