/-
  OWN TEXT. symMergeCmpFunc, the general case, the middle ahead of m.
-/
import Derived.Test.Qxb6616141aSymD
namespace Go.Proofs.Qxb6616141a
open Go.RowKit
set_option maxRecDepth 100000 in
set_option maxHeartbeats 8000000 in
theorem sym_c2 (g n cap : Nat) (xs : Nat → E) (w : World) (h : PR w g n xs) (hg : g < w.heap.size) (hn : n ≤ 1000000) (a m b mid : Nat) (hmid : mid = (a + b) / 2) (ham : a + 1 < m) (hmb : m + 1 < b) (hb : b ≤ n) (hS1 : SrtOn xs a m) (hS2 : SrtOn xs m b) (hmm : mid < m) (hIH : SymIH g n cap (b - a)) :
    Calls Try.prog 48 #[.slice (some ⟨g, 0, none⟩) n cap, .int .i64 a, .int .i64 m, .int .i64 b, cmpV] w (MrgP w g n xs a b) := by
  have hm1 : ((m : Int) - (a : Int) == 1) = false := by simp; omega
  have hm4 : ((b : Int) - (m : Int) == 1) = false := by simp; omega
  have hm2 : (0 : Int) ≤ (m : Int) := by omega
  have hm3 : (m : Int) ≤ 1000000 := by omega
  have hb' : (b : Int) ≤ 1000000 := by omega
  have hb0 : (0 : Int) ≤ (b : Int) := by omega
  have ha0 : (0 : Int) ≤ (a : Int) := by omega
  have ha1 : (a : Int) ≤ 1000000 := by omega
  have Hmid := Lib.hid hmid
  have hmm' : ((a : Int) + (b : Int)) / 2 < (m : Int) := by omega
  clear hmid
  go_enter Try.func48, Try.ntmps48
  go_wp2
  rw [show ((a : Int) + (b : Int)) / 2 = (mid : Int) by have := Hmid.out; omega]
  have hmidv := Hmid.out
  have hq1 : mid < b := by omega
  have hq2 : a < mid := by omega
  have hq3 : a + b ≤ mid + m := by omega
  have k1 : (mid : Int) ≤ 1000000 := by omega
  have k0 : (0 : Int) ≤ (mid : Int) := by omega
  clear hmm' hmidv
  go_loopw [20, 21] (fun sv rv wr => RelC w g n xs (mid + m - b) mid (mid + m) sv rv wr) (fun sv rv _ => (intOf rv).toNat - (intOf sv).toNat)
  case atStart => exact ⟨mid + m - b, mid, by congr 1; omega, rfl, Nat.le_refl _, by omega, Nat.le_refl _, ⟨h, hg, Chg.refl _ _⟩, fun c h1 h2 => by omega, fun c h1 h2 => by omega⟩
  case round =>
    obtain ⟨s, r, rfl, rfl, hs1, hsr, hr1, hK, hlo, hhi⟩ := hrel
    by_cases hlt : s < r
    · have hlt' : (s : Int) < (r : Int) := by omega
      obtain ⟨cc, hce⟩ : ∃ q, q = (s + r) / 2 := ⟨_, rfl⟩
      have hc1 : s ≤ cc := by omega
      have hc2 : cc < r := by omega
      obtain ⟨pc, hpc⟩ : ∃ q, q = mid + m - 1 - cc := ⟨_, rfl⟩
      have hcn : (cc : Int) < (n : Int) := by omega
      have hcc0 : (0 : Int) ≤ (cc : Int) := by omega
      have hpn : (pc : Int) < (n : Int) := by omega
      have hp0 : (0 : Int) ≤ (pc : Int) := by omega
      have hpm : m ≤ pc := by omega
      have hpb : pc < b := by omega
      have Hc := Lib.hid hce
      have Hp := Lib.hid hpc
      clear hce hpc
      go_wp2_with fail
      rw [show ((s : Int) + (r : Int)) / 2 = (cc : Int) by have := Hc.out; omega]
      have wpc : IntKind.i64.wrap ((mid : Int) + (m : Int) - 1 - (cc : Int)) = (pc : Int) := by
        have := Hp.out
        rw [IntKind.wrap_i64]; omega
      have fa := foldE (xs pc)
      have fb := foldE (xs cc)
      have hKd := hK.drew
      go_region_held3 (fun W => (∀ q, q < 15 → W.cell? ⟨g, pc * 15 + q, none⟩ = some (cE (xs pc) q)) ∧ W.cell? ⟨g, pc * 15, none⟩ = some (cE (xs pc) 0) ∧ (∀ q, q < 15 → W.cell? ⟨g, cc * 15 + q, none⟩ = some (cE (xs cc) q)) ∧ W.cell? ⟨g, cc * 15, none⟩ = some (cE (xs cc) 0) ∧ CK w g n xs W) ((refine CK.keep ?_ (by omega) (by omega); assumption))
        (first | (go_at_call 40; refine (cmp_ck (by assumption) _ _).mono ?_; rintro e w' ⟨⟨z, rfl, hz⟩, hS'⟩))
      rename_i hHeld
      obtain ⟨_, _, _, _, hKw⟩ := hHeld
      clear hz hS' hK hKd fa fb wpc
      have hpe := Hp.out
      by_cases hc : (xs pc).1 < (xs cc).1
      · have hbn : (!decide ((xs pc).1 < (xs cc).1)) = false := by simpa using hc
        rw [hbn]
        clear hbn
        have hhi2 : ∀ c, cc ≤ c → c < mid → (xs (mid + m - 1 - c)).1 < (xs c).1 := fun c h1 h2 => by
          by_cases q : c = cc
          · subst q; rw [← hpe]; exact hc
          · have e1 := hS1 cc c (by omega) (by omega) (by omega)
            have e2 := hS2 (mid + m - 1 - c) pc (by omega) (by omega) hpb
            omega
        clear hpe
        go_wp2
        go_roundw
        case rel => exact ⟨s, cc, rfl, rfl, hs1, hc1, by omega, hKw, hlo, hhi2⟩
        case measure => first | (simp [intOf]; done) | (simp [intOf]; omega)
      · have hbn : (!decide ((xs pc).1 < (xs cc).1)) = true := by simpa using hc
        rw [hbn]
        clear hbn
        have hlo2 : ∀ c, mid + m - b ≤ c → c < cc + 1 → (xs c).1 ≤ (xs (mid + m - 1 - c)).1 := fun c h1 h2 => by
          by_cases q : c = cc
          · subst q; rw [← hpe]; omega
          · have e1 := hS1 c cc (by omega) (by omega) (by omega)
            have e2 := hS2 pc (mid + m - 1 - c) hpm (by omega) (by omega)
            omega
        clear hpe
        go_wp2
        go_roundw
        case rel => exact ⟨cc + 1, r, by go_num, rfl, by omega, by omega, hr1, hKw, hlo2, hhi⟩
        case measure => first | (simp [intOf]; done) | (simp [intOf]; omega)
    · have hlt' : ¬ (s : Int) < (r : Int) := by omega
      obtain rfl : s = r := by omega
      obtain ⟨e, hee⟩ : ∃ e, e = mid + m - s := ⟨_, rfl⟩
      have hcut : CutAt xs a m b mid s e := ⟨hS1, hS2, by omega, by omega, by omega, by omega, by omega, by omega, by omega,
        fun h1 h2 => by have := hhi s (Nat.le_refl _) (by omega); rwa [show mid + m - 1 - s = e - 1 by omega] at this,
        fun h1 h2 => by have := hlo (s - 1) (by omega) (by omega); rwa [show mid + m - 1 - (s - 1) = e by omega] at this⟩
      have hH := hcut.halves
      have q1 : (0 : Int) ≤ (s : Int) := by omega
      have q2 : (s : Int) ≤ (m : Int) := by omega
      have q3 : (s : Int) ≤ 1000000 := by omega
      clear hlo hhi hcut
      by_cases c1 : s < m ∧ m < e
      · have c11 : (s : Int) < (m : Int) := by omega
        have c12 : (m : Int) < (mid : Int) + (m : Int) - (s : Int) := by omega
        go_wp2_with fail
        refine (rotate_calls g n cap xs _ hK.pr hn cmpV (s : Int) (m : Int) ((mid : Int) + (m : Int) - (s : Int)) s m e rfl rfl (by omega) c1.1 c1.2 (by omega)).mono ?_
        rintro ee w7 ⟨rfl, hR7, hC7⟩
        have hK7 : CK w g n (Rot xs s m e) w7 := ⟨hR7, Nat.lt_of_lt_of_le hK.lt hC7.size, hK.chg.tr hC7⟩
        clear hR7 hC7 hK
        by_cases c2 : a < s ∧ s < mid
        · have c21 : (a : Int) < (s : Int) := by omega
          have c22 : (s : Int) < (mid : Int) := by omega
          go_wp2_with fail
          refine (hIH a s mid (a : Int) (s : Int) (mid : Int) _ _ rfl rfl rfl (by omega) c2.1 c2.2 (by omega) hK7.pr hK7.lt hH.s1 hH.s2).mono ?_
          rintro ee w8 ⟨rfl, ys, hKy0, hIy, hSy⟩
          have hKy : CK w g n ys w8 := ⟨hKy0.pr, hKy0.lt, hK7.chg.tr hKy0.chg⟩
          clear hKy0
          by_cases c3 : mid < e ∧ e < b
          · have c31 : (mid : Int) < (mid : Int) + (m : Int) - (s : Int) := by omega
            have c32 : (mid : Int) + (m : Int) - (s : Int) < (b : Int) := by omega
            go_wp2_with fail
            refine (hIH mid e b (mid : Int) ((mid : Int) + (m : Int) - (s : Int)) (b : Int) _ _ rfl (by omega) rfl (by omega) c3.1 c3.2 hb hKy.pr hKy.lt (srt_out hIy.out hH.s3 (by omega)) (srt_out hIy.out hH.s4 (by omega))).mono ?_
            rintro ee w9 ⟨rfl, us, hKu, hIu, hSu⟩
            go_wp2
            all_goals
              go_end0
              exact ⟨rfl, us, ⟨hKu.pr, hKu.lt, hKy.chg.tr hKu.chg⟩, hH.fin (by omega) (by omega) hIy hSy hIu hSu⟩
          · have hsr : SrtOn _ mid b := fun i j h1 h2 h3 => by
              by_cases q : mid < e
              · have : e = b := by omega
                subst this
                exact srt_out hIy.out hH.s3 (by omega) i j h1 h2 h3
              · have : e = mid := by omega
                exact srt_out hIy.out hH.s4 (by omega) i j (by omega) h2 h3
            have hfin := hH.fin (by omega) (by omega) hIy hSy (InsI.refl _ mid b) hsr
            by_cases d1 : mid < e
            · have c31 : (mid : Int) < (mid : Int) + (m : Int) - (s : Int) := by omega
              have c32 : ¬ (mid : Int) + (m : Int) - (s : Int) < (b : Int) := by omega
              go_wp2
              all_goals
                go_end0
                exact ⟨rfl, _, hKy, hfin⟩
            · have c31 : ¬ (mid : Int) < (mid : Int) + (m : Int) - (s : Int) := by omega
              go_wp2
              all_goals
                go_end0
                exact ⟨rfl, _, hKy, hfin⟩
        · have hsl : SrtOn (Rot xs s m e) a mid := fun i j h1 h2 h3 => by
            by_cases q : a < s
            · exact hH.s1 i j h1 h2 (by omega)
            · exact hH.s2 i j (by omega) h2 h3
          have hil := InsI.refl (Rot xs s m e) a mid
          by_cases d2 : a < s
          · exfalso; omega
          · have c21 : ¬ (a : Int) < (s : Int) := by omega
            by_cases c3 : mid < e ∧ e < b
            · have c31 : (mid : Int) < (mid : Int) + (m : Int) - (s : Int) := by omega
              have c32 : (mid : Int) + (m : Int) - (s : Int) < (b : Int) := by omega
              go_wp2_with fail
              refine (hIH mid e b (mid : Int) ((mid : Int) + (m : Int) - (s : Int)) (b : Int) _ _ rfl (by omega) rfl (by omega) c3.1 c3.2 hb hK7.pr hK7.lt (srt_out hil.out hH.s3 (by omega)) (srt_out hil.out hH.s4 (by omega))).mono ?_
              rintro ee w9 ⟨rfl, us, hKu, hIu, hSu⟩
              go_wp2
              all_goals
                go_end0
                exact ⟨rfl, us, ⟨hKu.pr, hKu.lt, hK7.chg.tr hKu.chg⟩, hH.fin (by omega) (by omega) hil hsl hIu hSu⟩
            · have hsr : SrtOn _ mid b := fun i j h1 h2 h3 => by
                by_cases q : mid < e
                · have : e = b := by omega
                  subst this
                  exact srt_out hil.out hH.s3 (by omega) i j h1 h2 h3
                · have : e = mid := by omega
                  exact srt_out hil.out hH.s4 (by omega) i j (by omega) h2 h3
              have hfin := hH.fin (by omega) (by omega) hil hsl (InsI.refl _ mid b) hsr
              by_cases d1 : mid < e
              · have c31 : (mid : Int) < (mid : Int) + (m : Int) - (s : Int) := by omega
                have c32 : ¬ (mid : Int) + (m : Int) - (s : Int) < (b : Int) := by omega
                go_wp2
                all_goals
                  go_end0
                  exact ⟨rfl, _, hK7, hfin⟩
              · have c31 : ¬ (mid : Int) < (mid : Int) + (m : Int) - (s : Int) := by omega
                go_wp2
                all_goals
                  go_end0
                  exact ⟨rfl, _, hK7, hfin⟩
      · have hrx : Rot xs s m e = xs := by
          by_cases q : s < m
          · have : e = m := by omega
            subst this
            exact rot_none xs s e
          · have : s = m := by omega
            subst this
            exact rot_zero xs s e
        have hK7 : CK w g n (Rot xs s m e) wr := by rw [hrx]; exact hK
        clear hrx hK
        by_cases d0 : s < m
        · have c11 : (s : Int) < (m : Int) := by omega
          have c12 : ¬ (m : Int) < (mid : Int) + (m : Int) - (s : Int) := by omega
          by_cases c2 : a < s ∧ s < mid
          · have c21 : (a : Int) < (s : Int) := by omega
            have c22 : (s : Int) < (mid : Int) := by omega
            go_wp2_with fail
            refine (hIH a s mid (a : Int) (s : Int) (mid : Int) _ _ rfl rfl rfl (by omega) c2.1 c2.2 (by omega) hK7.pr hK7.lt hH.s1 hH.s2).mono ?_
            rintro ee w8 ⟨rfl, ys, hKy0, hIy, hSy⟩
            have hKy : CK w g n ys w8 := ⟨hKy0.pr, hKy0.lt, hK7.chg.tr hKy0.chg⟩
            clear hKy0
            by_cases c3 : mid < e ∧ e < b
            · have c31 : (mid : Int) < (mid : Int) + (m : Int) - (s : Int) := by omega
              have c32 : (mid : Int) + (m : Int) - (s : Int) < (b : Int) := by omega
              go_wp2_with fail
              refine (hIH mid e b (mid : Int) ((mid : Int) + (m : Int) - (s : Int)) (b : Int) _ _ rfl (by omega) rfl (by omega) c3.1 c3.2 hb hKy.pr hKy.lt (srt_out hIy.out hH.s3 (by omega)) (srt_out hIy.out hH.s4 (by omega))).mono ?_
              rintro ee w9 ⟨rfl, us, hKu, hIu, hSu⟩
              go_wp2
              all_goals
                go_end0
                exact ⟨rfl, us, ⟨hKu.pr, hKu.lt, hKy.chg.tr hKu.chg⟩, hH.fin (by omega) (by omega) hIy hSy hIu hSu⟩
            · have hsr : SrtOn _ mid b := fun i j h1 h2 h3 => by
                by_cases q : mid < e
                · have : e = b := by omega
                  subst this
                  exact srt_out hIy.out hH.s3 (by omega) i j h1 h2 h3
                · have : e = mid := by omega
                  exact srt_out hIy.out hH.s4 (by omega) i j (by omega) h2 h3
              have hfin := hH.fin (by omega) (by omega) hIy hSy (InsI.refl _ mid b) hsr
              by_cases d1 : mid < e
              · have c31 : (mid : Int) < (mid : Int) + (m : Int) - (s : Int) := by omega
                have c32 : ¬ (mid : Int) + (m : Int) - (s : Int) < (b : Int) := by omega
                go_wp2
                all_goals
                  go_end0
                  exact ⟨rfl, _, hKy, hfin⟩
              · have c31 : ¬ (mid : Int) < (mid : Int) + (m : Int) - (s : Int) := by omega
                go_wp2
                all_goals
                  go_end0
                  exact ⟨rfl, _, hKy, hfin⟩
          · have hsl : SrtOn (Rot xs s m e) a mid := fun i j h1 h2 h3 => by
              by_cases q : a < s
              · exact hH.s1 i j h1 h2 (by omega)
              · exact hH.s2 i j (by omega) h2 h3
            have hil := InsI.refl (Rot xs s m e) a mid
            by_cases d2 : a < s
            · have c21 : (a : Int) < (s : Int) := by omega
              have c22 : ¬ (s : Int) < (mid : Int) := by omega
              by_cases c3 : mid < e ∧ e < b
              · have c31 : (mid : Int) < (mid : Int) + (m : Int) - (s : Int) := by omega
                have c32 : (mid : Int) + (m : Int) - (s : Int) < (b : Int) := by omega
                go_wp2_with fail
                refine (hIH mid e b (mid : Int) ((mid : Int) + (m : Int) - (s : Int)) (b : Int) _ _ rfl (by omega) rfl (by omega) c3.1 c3.2 hb hK7.pr hK7.lt (srt_out hil.out hH.s3 (by omega)) (srt_out hil.out hH.s4 (by omega))).mono ?_
                rintro ee w9 ⟨rfl, us, hKu, hIu, hSu⟩
                go_wp2
                all_goals
                  go_end0
                  exact ⟨rfl, us, ⟨hKu.pr, hKu.lt, hK7.chg.tr hKu.chg⟩, hH.fin (by omega) (by omega) hil hsl hIu hSu⟩
              · have hsr : SrtOn _ mid b := fun i j h1 h2 h3 => by
                  by_cases q : mid < e
                  · have : e = b := by omega
                    subst this
                    exact srt_out hil.out hH.s3 (by omega) i j h1 h2 h3
                  · have : e = mid := by omega
                    exact srt_out hil.out hH.s4 (by omega) i j (by omega) h2 h3
                have hfin := hH.fin (by omega) (by omega) hil hsl (InsI.refl _ mid b) hsr
                by_cases d1 : mid < e
                · have c31 : (mid : Int) < (mid : Int) + (m : Int) - (s : Int) := by omega
                  have c32 : ¬ (mid : Int) + (m : Int) - (s : Int) < (b : Int) := by omega
                  go_wp2
                  all_goals
                    go_end0
                    exact ⟨rfl, _, hK7, hfin⟩
                · have c31 : ¬ (mid : Int) < (mid : Int) + (m : Int) - (s : Int) := by omega
                  go_wp2
                  all_goals
                    go_end0
                    exact ⟨rfl, _, hK7, hfin⟩
            · have c21 : ¬ (a : Int) < (s : Int) := by omega
              by_cases c3 : mid < e ∧ e < b
              · have c31 : (mid : Int) < (mid : Int) + (m : Int) - (s : Int) := by omega
                have c32 : (mid : Int) + (m : Int) - (s : Int) < (b : Int) := by omega
                go_wp2_with fail
                refine (hIH mid e b (mid : Int) ((mid : Int) + (m : Int) - (s : Int)) (b : Int) _ _ rfl (by omega) rfl (by omega) c3.1 c3.2 hb hK7.pr hK7.lt (srt_out hil.out hH.s3 (by omega)) (srt_out hil.out hH.s4 (by omega))).mono ?_
                rintro ee w9 ⟨rfl, us, hKu, hIu, hSu⟩
                go_wp2
                all_goals
                  go_end0
                  exact ⟨rfl, us, ⟨hKu.pr, hKu.lt, hK7.chg.tr hKu.chg⟩, hH.fin (by omega) (by omega) hil hsl hIu hSu⟩
              · have hsr : SrtOn _ mid b := fun i j h1 h2 h3 => by
                  by_cases q : mid < e
                  · have : e = b := by omega
                    subst this
                    exact srt_out hil.out hH.s3 (by omega) i j h1 h2 h3
                  · have : e = mid := by omega
                    exact srt_out hil.out hH.s4 (by omega) i j (by omega) h2 h3
                have hfin := hH.fin (by omega) (by omega) hil hsl (InsI.refl _ mid b) hsr
                by_cases d1 : mid < e
                · have c31 : (mid : Int) < (mid : Int) + (m : Int) - (s : Int) := by omega
                  have c32 : ¬ (mid : Int) + (m : Int) - (s : Int) < (b : Int) := by omega
                  go_wp2
                  all_goals
                    go_end0
                    exact ⟨rfl, _, hK7, hfin⟩
                · have c31 : ¬ (mid : Int) < (mid : Int) + (m : Int) - (s : Int) := by omega
                  go_wp2
                  all_goals
                    go_end0
                    exact ⟨rfl, _, hK7, hfin⟩
        · exfalso; omega
end Go.Proofs.Qxb6616141a
