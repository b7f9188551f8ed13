/-
  OWN TEXT. The walk of FnStampAppendTextOrdersLikeStamps.
-/
import Derived.Test.Qxb6616074aDoorLaw3
namespace Go.Proofs.Qxb6616074aDoor
open Go.RowKit Go.Sort

set_option maxRecDepth 100000 in
set_option maxHeartbeats 4000000 in
theorem law4 (u t n cap : Nat) (a : Option Addr) (f : Nat → Int) (w : World) (h : In w a n cap f) (hu : u < 18446744073709551616) (ht : t < 18446744073709551616) (htab : Tab w) :
    Calls Tryd.prog 4 #[.int .u64 u, .int .u64 t, .slice a n cap] w (TB w (.bool true)) := by
  have HT : Hid (Tab w) := htab
  clear htab
  go_enter Tryd.func4, Tryd.ntmps4
  go_wp2_with fail
  refine (zz4_calls _ _ _ _ _ _).mono ?_
  rintro e w1 ⟨⟨b, rfl, hb⟩, hw⟩
  obtain rfl := hw.symm
  clear hw
  cases b with
  | false =>
    go_wp2
    go_ret
    exact ⟨rfl, Below.refl _ _⟩
  | true =>
    have hn := hb rfl
    clear hb
    have hn1 : ¬ (1048576 : Int) < (n : Int) := by omega
    go_wp2_with fail
    refine (clone_calls a n cap f w h hn).mono ?_
    rintro e w1 ⟨a1, rfl, hF1, hB1⟩
    go_wp2_with fail
    refine (clone_calls a1 n n f w1 hF1.in hn).mono ?_
    rintro e w2 ⟨a2, rfl, hF2, hB2⟩
    have hB12 := below_tr hB1 hB2
    have HT2 : Hid (Tab w2) := tab_below HT.out hB12
    have hF12 := hF1.below hB2
    go_wp2_with fail
    refine (appendText n u hu a1 f w2 hF12 (by omega) HT2.out).mono ?_
    rintro e w3 ⟨v3, rfl, g, cp, rfl, hcp1, hcp2, hg, hBy3, hB3⟩
    have hB13 := below_tr hB12 hB3
    have HT3 : Hid (Tab w3) := tab_below HT2.out hB3
    go_wp2_with fail
    refine (appendText n t ht a1 f w3 (hF12.below hB3) (by omega) HT3.out).mono ?_
    rintro e w4 ⟨v4, rfl, k, cq, rfl, hcq1, hcq2, hk, hCy4, hB4⟩
    have hB14 := below_tr hB13 hB4
    have hBy4 := hBy3.below hB4
    have hF24 := (hF2.below hB3).below hB4
    obtain ⟨sb2, so2, hby2⟩ := hF24.by
    have hp := Lib.nDigits_pos u
    have hd20 := nd20 hu
    have hpt := Lib.nDigits_pos t
    have hdt20 := nd20 ht
    have hle : ¬ ((n : Int) + (Lib.nDigits u : Int) ≤ (n : Int)) := by omega
    have hlet : ¬ ((n : Int) + (Lib.nDigits t : Int) ≤ (n : Int)) := by omega
    go_wp2_with fail
    refine (beq_at _ _ _ _ _ _ _ _ _ _ _ _ w4 hBy4.fst hby2 (by omega) true (eqF_true (fun _ _ => rfl))).mono ?_
    rintro e w5 ⟨rfl, hB5⟩
    have hB15 := below_tr hB14 hB5
    have hBy5 := hBy4.below hB5
    have hCy5 := hCy4.below hB5
    have hby25 := hby2.below hB5
    go_wp2_with fail
    refine (beq_at _ _ _ _ _ _ _ _ _ _ _ _ w5 hCy5.fst hby25 (by omega) true (eqF_true (fun _ _ => rfl))).mono ?_
    rintro e w6 ⟨rfl, hB6⟩
    have hB16 := below_tr hB15 hB6
    have hBy6 := hBy5.below hB6
    have hCy6 := hCy5.below hB6
    go_wp2_with fail
    refine (parse_at g n u _ hu w6 hBy6.snd).mono ?_
    rintro e w7 ⟨rfl, hw⟩
    obtain rfl := hw.symm
    clear hw
    go_wp2_with fail
    refine (parse_at k n t _ ht w6 hCy6.snd).mono ?_
    rintro e w7 ⟨rfl, hw⟩
    obtain rfl := hw.symm
    clear hw
    go_wp2_with fail
    refine (short_at _ _ _ _ _ _ _ _ _ _ _ _ w6 hBy6.snd hCy6.snd (by omega) (by omega) _ (short_law u t)).mono ?_
    rintro e w7 ⟨rfl, hB7⟩
    have hB17 := below_tr hB16 hB7
    have hBy7 := hBy6.below hB7
    have hCy7 := hCy6.below hB7
    go_wp2_with fail
    refine (short_at _ _ _ _ _ _ _ _ _ _ _ _ w7 hCy7.snd hBy7.snd (by omega) (by omega) _ (short_law t u)).mono ?_
    rintro e w8 ⟨rfl, hB8⟩
    have hB18 := below_tr hB17 hB8
    have hBy8 := hBy7.below hB8
    have hCy8 := hCy7.below hB8
    go_wp2_with fail
    refine (beq_at _ _ _ _ _ _ _ _ _ _ _ _ w8 hBy8.snd hCy8.snd (by omega) _ (eq_law u t)).mono ?_
    rintro e w9 ⟨rfl, hB9⟩
    go_wp2
    go_ret
    refine ⟨?_, below_tr hB18 hB9⟩
    have he : (decide ((u : Int) = (t : Int)) == ((u : Int) == (t : Int))) = true := by
      by_cases hh : (u : Int) = (t : Int)
      · rw [hh]; simp
      · have h2 : ((u : Int) == (t : Int)) = false := beq_eq_false_iff_ne.2 hh
        rw [h2]; simp [hh]
    show Ending.returned (.bool (decide ((u : Int) = (t : Int)) == ((u : Int) == (t : Int)))) = _
    rw [he]
end Go.Proofs.Qxb6616074aDoor
