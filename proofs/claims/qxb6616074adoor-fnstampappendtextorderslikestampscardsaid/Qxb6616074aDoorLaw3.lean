/-
  OWN TEXT. The walk of FnStampAppendTextPrefixThenDecimal.
-/
import Derived.Test.Qxb6616074aDoorDig
namespace Go.Proofs.Qxb6616074aDoor
open Go.RowKit Go.Sort

theorem below_tr {w w1 w2 : World} (h : Below w.heap.size w w1) (k : Below w1.heap.size w1 w2) : Below w.heap.size w w2 :=
  h.trans ⟨k.os, k.tape, k.output, k.size, fun i hi => k.block i (Nat.lt_of_lt_of_le hi h.size)⟩

def TB (w : World) (v : Value) (e : Ending) (w' : World) : Prop := e = .returned v ∧ Below w.heap.size w w'

theorem beq_at (a b : Option Addr) (sb so tb tof n m ca cb : Nat) (f g : Nat → Int) (w : World) (h : By w a sb so n f) (k : By w b tb tof m g) (hn : n ≤ 1000000000) (r : Bool) (hr : (decide (n = m) && eqF n f g) = r) :
    Calls Tryd.prog 10 #[.slice a n ca, .slice b m cb] w (TB w (.bool r)) := by
  refine (bytesEq_calls a b sb so tb tof n m ca cb f g w h k hn).mono ?_
  rintro e w' ⟨rfl, q, rfl⟩
  exact ⟨by rw [hr], below_drewN (Below.refl _ _) q⟩

theorem short_at (a b : Option Addr) (sb so tb tof n m ca cb : Nat) (f g : Nat → Int) (w : World) (h : By w a sb so n f) (k : By w b tb tof m g) (hn : n ≤ 1000000000) (hm : m ≤ 1000000000) (r : Bool) (hr : slF n m f g = r) :
    Calls Tryd.prog 13 #[.slice a n ca, .slice b m cb] w (TB w (.bool r)) := by
  refine (shortlex_calls a b sb so tb tof n m ca cb f g w h k hn hm).mono ?_
  rintro e w' ⟨rfl, q, rfl⟩
  exact ⟨by rw [hr], below_drewN (Below.refl _ _) q⟩

theorem eqF_true {n : Nat} {f g : Nat → Int} (h : ∀ i, i < n → f i = g i) : (decide (n = n) && eqF n f g) = true := by
  simp [eqF]; exact h

/-- the first n bytes of what came back -/
theorem By.fst {w : World} {g n d : Nat} {f k : Nat → Int} (h : By w (some ⟨g, 0, none⟩) g 0 (n + d) (catF n f k)) : By w (some ⟨g, 0, none⟩) g 0 n f :=
  ⟨fun _ => rfl, fun i hi => by have := h.c i (by omega); simpa [catF, hi] using this⟩
/-- the others -/
theorem By.snd {w : World} {g n d : Nat} {f k : Nat → Int} (h : By w (some ⟨g, 0, none⟩) g 0 (n + d) (catF n f k)) : By w (some ⟨g, n, none⟩) g n d k :=
  ⟨fun _ => rfl, fun i hi => by
    have := h.c (n + i) (by omega)
    have hh : ¬ n + i < n := by omega
    simpa [catF, hh] using this⟩

/-- onto nothing -/
theorem By.snd0 {w : World} {g d : Nat} {f k : Nat → Int} (h : By w (some ⟨g, 0, none⟩) g 0 (0 + d) (catF 0 f k)) : By w (some ⟨g, 0, none⟩) g 0 d k := h.snd

theorem parse_at (g n u ca : Nat) (hu : u < 18446744073709551616) (w : World) (h : By w (some ⟨g, n, none⟩) g n (Lib.nDigits u) (dgF u)) :
    Calls Tryd.prog 11 #[.slice (some ⟨g, n, none⟩) (Lib.nDigits u) ca] w fun e w' => e = .returned (.tuple #[.int .u64 u, .bool true]) ∧ w' = w := by
  obtain ⟨h1, h2, h3, _⟩ := dig_law u
  have := parse_calls (some ⟨g, n, none⟩) g n (Lib.nDigits u) ca (dgF u) w h (Lib.nDigits_pos u) (nd20 hu) (fun h => (h2 h).1) h1 (by rw [h3]; omega)
  rw [h3] at this
  exact this

theorem full_cap {w : World} {a : Option Addr} {n : Nat} {f : Nat → Int} (h : Full w a n f) : a = none → n = 0 := by
  rcases h with h | ⟨_, _, h, _⟩
  · exact fun _ => h.2
  · intro h'; rw [h'] at h; cases h

theorem tab_below {w w' : World} (h : Tab w) (hb : Below w.heap.size w w') : Tab w' := Lib.tabBelow_of_tabIs h w' hb

set_option maxRecDepth 100000 in
set_option maxHeartbeats 2000000 in
theorem law3 (u n cap : Nat) (a : Option Addr) (f : Nat → Int) (w : World) (h : In w a n cap f) (hu : u < 18446744073709551616) (htab : Tab w) :
    Calls Tryd.prog 3 #[.int .u64 u, .slice a n cap] w (TB w (.bool true)) := by
  have HT : Hid (Tab w) := htab
  clear htab
  go_enter Tryd.func3, Tryd.ntmps3
  go_wp2_with fail
  refine (zz3_calls _ _ _ _ _).mono ?_
  rintro e w1 ⟨⟨b, rfl, hb⟩, hw⟩
  obtain rfl := hw.symm
  clear hw
  cases b with
  | false =>
    go_wp2
    go_ret
    exact ⟨rfl, Below.refl _ _⟩
  | true =>
    have hn := hb rfl
    clear hb
    have hn1 : ¬ (1048576 : Int) < (n : Int) := by omega
    go_wp2_with fail
    refine (clone_calls a n cap f w h hn).mono ?_
    rintro e w1 ⟨a1, rfl, hF1, hB1⟩
    go_wp2_with fail
    refine (clone_calls a1 n n f w1 hF1.in hn).mono ?_
    rintro e w2 ⟨a2, rfl, hF2, hB2⟩
    have hB12 := below_tr hB1 hB2
    have HT2 : Hid (Tab w2) := tab_below HT.out hB12
    go_wp2_with fail
    refine (appendText n u hu a1 f w2 (hF1.below hB2) (by omega) HT2.out).mono ?_
    rintro e w3 ⟨v3, rfl, g, cp, rfl, hcp1, hcp2, hg, hBy3, hB3⟩
    have hB13 := below_tr hB12 hB3
    have hp := Lib.nDigits_pos u
    have hd20 := nd20 hu
    have hle : ¬ ((n : Int) + (Lib.nDigits u : Int) ≤ (n : Int)) := by omega
    have HT3 : Hid (Tab w3) := tab_below HT2.out hB3
    have hF23 := hF2.below hB3
    obtain ⟨sb2, so2, hby2⟩ := hF23.by
    go_wp2_with fail
    refine (beq_at _ _ _ _ _ _ _ _ _ _ _ _ w3 hBy3.fst hby2 (by omega) true (eqF_true (fun _ _ => rfl))).mono ?_
    rintro e w4 ⟨rfl, hB4⟩
    have hB14 := below_tr hB13 hB4
    have hBy4 := hBy3.below hB4
    have HT4 : Hid (Tab w4) := tab_below HT3.out hB4
    go_wp2_with fail
    refine (parse_at g n u _ hu w4 hBy4.snd).mono ?_
    rintro e w5 ⟨rfl, hw⟩
    obtain rfl := hw.symm
    clear hw
    go_wp2_with fail
    refine (appendText 0 u hu none (fun _ => 0) w4 (.inl ⟨rfl, rfl⟩) (by omega) HT4.out).mono ?_
    rintro e w5 ⟨v5, rfl, g5, cp5, rfl, hcq1, hcq2, hg5, hBy5, hB5⟩
    have hB15 := below_tr hB14 hB5
    have hBy6 := hBy4.below hB5
    go_wp2_with fail
    refine (beq_at _ _ _ _ _ _ _ _ _ _ _ _ w5 hBy5.snd0 hBy6.snd (by omega) true (eqF_true (fun _ _ => rfl))).mono ?_
    rintro e w6 ⟨rfl, hB6⟩
    go_wp2
    go_ret
    exact ⟨rfl, below_tr hB15 hB6⟩
end Go.Proofs.Qxb6616074aDoor
