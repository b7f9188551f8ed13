/-
  OWN TEXT. insertionSortCmpFunc.
-/
import Derived.Test.Qxb6616141aSrt
import Derived.Deep.RegionHeld3
import Derived.BigQuiet
namespace Go.Proofs.Qxb6616141a
open Go.RowKit

/-- within a region that compares: the row as it was -/
structure CK (w0 : World) (g n : Nat) (xs : Nat → E) (W : World) : Prop where
  pr : PR W g n xs
  lt : g < W.heap.size
  chg : Chg (fun k => k = g) w0 W
theorem CK.below {w0 W W' : World} {g n : Nat} {xs : Nat → E} (h : CK w0 g n xs W) (hb : Below W.heap.size W W') : CK w0 g n xs W' :=
  ⟨h.pr.keep (F := fun _ => False) (Chg.of_below hb) (fun x => x) h.lt, Nat.lt_of_lt_of_le h.lt hb.size, h.chg.tr (Chg.of_below hb)⟩
theorem CK.drew {w0 W : World} {g n : Nat} {xs : Nat → E} (h : CK w0 g n xs W) : CK w0 g n xs W.drew := ⟨h.pr.drew, h.lt, h.chg.drew⟩
def CS (w0 : World) (g n : Nat) (xs : Nat → E) (i j : Nat) (W : World) : Prop :=
  (∀ q, q < 15 → W.cell? ⟨g, i * 15 + q, none⟩ = some (cE (xs i) q)) ∧ W.cell? ⟨g, i * 15, none⟩ = some (cE (xs i) 0) ∧ (∀ q, q < 15 → W.cell? ⟨g, j * 15 + q, none⟩ = some (cE (xs j) q)) ∧ W.cell? ⟨g, j * 15, none⟩ = some (cE (xs j) 0) ∧ CK w0 g n xs W
theorem CK.keep {w0 W : World} {g n : Nat} {xs : Nat → E} (h : CK w0 g n xs W) {i j : Nat} (hi : i < n) (hj : j < n) : CS w0 g n xs i j W :=
  ⟨(h.pr.cells hi).1, (h.pr.cells hi).2, (h.pr.cells hj).1, (h.pr.cells hj).2, h⟩
def CmpK (w0 : World) (g n : Nat) (xs : Nat → E) (a b : E) (e : Ending) (w' : World) : Prop := (∃ z : Int, e = .returned (.int .i64 z) ∧ (z < 0 ↔ a.1 < b.1)) ∧ CK w0 g n xs w'
theorem cmp_ck {w0 W : World} {g n : Nat} {xs : Nat → E} (h : CK w0 g n xs W) (a b : E) : Calls Try.prog 40 #[aggE a, aggE b] W (CmpK w0 g n xs a b) := by
  refine (cmp_calls a b W).mono ?_
  rintro e w' ⟨hz, hb⟩
  exact ⟨hz, h.below hb⟩

/-- sorted but for the place j, up to i -/
def Bar (xs : Nat → E) (a i j : Nat) : Prop := ∀ p q, a ≤ p → p < q → q ≤ i → q ≠ j → (xs p).1 ≤ (xs q).1

structure InsI (xs zs : Nat → E) (a b : Nat) : Prop where
  out : Out xs zs a b
  st : Stb (seg xs a b) (seg zs a b)

theorem InsI.swap {xs zs : Nat → E} {a b p : Nat} (h : InsI xs zs a b) (hap : a ≤ p) (h2 : p + 1 < b) (hc : (zs (p + 1)).1 < (zs p).1) : InsI xs (swE zs (p + 1) p) a b := by
  obtain ⟨o, s⟩ := stb_swap hc
  exact ⟨h.out.trans (o.mono hap (by omega)), h.st.trans (stb_part o s (by omega) hap (by omega))⟩
theorem Bar.swap {zs : Nat → E} {a i p : Nat} (h : Bar zs a i (p + 1)) (hap : a ≤ p) (hc : (zs (p + 1)).1 < (zs p).1) : Bar (swE zs (p + 1) p) a i p := by
  have e0 : swE zs (p + 1) p p = zs (p + 1) := by simp [swE, upE]
  have e1 : swE zs (p + 1) p (p + 1) = zs p := by simp [swE, upE]
  have e2 : ∀ t, t ≠ p → t ≠ p + 1 → swE zs (p + 1) p t = zs t := fun t h1 h2 => by simp [swE, upE, h1, h2]
  intro x y h1 h2 h3 h4
  by_cases hy : y = p + 1
  · subst hy
    rw [e1]
    by_cases hx : x = p
    · subst hx; rw [e0]; omega
    · rw [e2 x hx (by omega)]
      exact h x p h1 (by omega) (by omega) (by omega)
  · rw [e2 y h4 hy]
    by_cases hx : x = p
    · subst hx; rw [e0]
      exact h (x + 1) y (by omega) (by omega) h3 hy
    · by_cases hx1 : x = p + 1
      · subst hx1; rw [e1]
        exact h p y (by omega) (by omega) h3 hy
      · rw [e2 x hx hx1]
        exact h x y h1 h2 h3 hy
theorem Bar.done {zs : Nat → E} {a i p : Nat} (h : Bar zs a i (p + 1)) (hc : ¬ (zs (p + 1)).1 < (zs p).1) : SrtOn zs a (i + 1) := by
  intro x y h1 h2 h3
  by_cases hy : y = p + 1
  · subst hy
    by_cases hx : x = p
    · subst hx; omega
    · have := h x p h1 (by omega) (by omega) (by omega)
      omega
  · exact h x y h1 h2 (by omega) hy
theorem Bar.done0 {zs : Nat → E} {a i : Nat} (h : Bar zs a i a) : SrtOn zs a (i + 1) := fun x y h1 h2 h3 => h x y h1 h2 (by omega) (by omega)

abbrev cmpV : Value := .func (.func 40) #[] #[]

set_option maxRecDepth 100000 in
set_option maxHeartbeats 8000000 in
theorem insertion_calls (g n cap : Nat) (xs : Nat → E) (w : World) (h : PR w g n xs) (hg : g < w.heap.size) (hn : n ≤ 1000000) (ai bi : Int) (a b : Nat) (ea : ai = a) (eb : bi = b) (hab : a ≤ b) (hb : b ≤ n) :
    Calls Try.prog 47 #[.slice (some ⟨g, 0, none⟩) n cap, .int .i64 ai, .int .i64 bi, cmpV] w fun e w' => e = .returned (.tuple #[]) ∧ ∃ ys, CK w g n ys w' ∧ InsI xs ys a b ∧ SrtOn ys a b := by
  subst ea eb
  have hb' : (b : Int) ≤ 1000000 := by omega
  have ha0 : (0 : Int) ≤ (a : Int) := by omega
  have hab' : (a : Int) ≤ (b : Int) := by omega
  go_enter Try.func47, Try.ntmps47
  go_wp2
  go_loopw [8] (fun iv wr => ∃ (i : Nat) (zs : Nat → E), a < i ∧ i ≤ n + 1 ∧ iv = .int .i64 i ∧ CK w g n zs wr ∧ InsI xs zs a b ∧ SrtOn zs a i) (fun iv _ => n + 1 - (intOf iv).toNat)
  case atStart => exact ⟨a + 1, xs, by omega, by omega, by simp, ⟨h, hg, Chg.refl _ _⟩, ⟨Out.refl _ _ _, Stb.refl _⟩, fun i j h1 h2 h3 => by omega⟩
  case round =>
    obtain ⟨i, zs, hai, hin, rfl, hK, hI, hS⟩ := hrel
    by_cases hib : i < b
    · have hib' : (i : Int) < (b : Int) := by omega
      go_wp2
      go_loopw [9] (fun jv wq => ∃ (j : Nat) (ys : Nat → E), a ≤ j ∧ j ≤ i ∧ jv = .int .i64 j ∧ CK w g n ys wq ∧ InsI xs ys a b ∧ Bar ys a i j) (fun jv _ => (intOf jv).toNat)
      case atStart => exact ⟨i, zs, by omega, Nat.le_refl _, rfl, hK, hI, fun p q h1 h2 h3 h4 => hS p q h1 h2 (by omega)⟩
      case round =>
        clear hK hI hS
        obtain ⟨j, ys, haj, hji, rfl, hK, hI, hB⟩ := hrel
        by_cases hja : a < j
        · obtain ⟨p, rfl⟩ : ∃ p, j = p + 1 := ⟨j - 1, by omega⟩
          have hja' : (a : Int) < (p : Int) + 1 := by omega
          have n1 : (p : Int) + 1 < (n : Int) := by omega
          have n2 : (p : Int) < (n : Int) := by omega
          have n0 : (0 : Int) ≤ (p : Int) := by omega
          have n3 : (0 : Int) ≤ (p : Int) + 1 := by omega
          have wr0 : IntKind.i64.wrap (p : Int) = p := by rw [IntKind.wrap_i64]; omega
          have wr1 : IntKind.i64.wrap ((p : Int) + 1) = (p : Int) + 1 := by rw [IntKind.wrap_i64]; omega
          have wr2 : IntKind.i64.wrap ((p : Int) + 1 - 1) = (p : Int) := by rw [IntKind.wrap_i64]; omega
          have tn : ((p : Int) + 1).toNat = p + 1 := by omega
          rw [show (((p + 1 : Nat)) : Int) = (p : Int) + 1 by omega]
          have fa := foldE (ys (p + 1))
          have fb := foldE (ys p)
          have hKd := hK.drew
          go_wp2_with fail
          go_region_held3 (fun W => (∀ q, q < 15 → W.cell? ⟨g, (p + 1) * 15 + q, none⟩ = some (cE (ys (p + 1)) q)) ∧ W.cell? ⟨g, (p + 1) * 15, none⟩ = some (cE (ys (p + 1)) 0) ∧ (∀ q, q < 15 → W.cell? ⟨g, p * 15 + q, none⟩ = some (cE (ys p) q)) ∧ W.cell? ⟨g, p * 15, none⟩ = some (cE (ys p) 0) ∧ CK w g n ys W) ((refine CK.keep ?_ (by omega) (by omega); assumption))
            (first | (go_at_call 40; refine (cmp_ck (by assumption) _ _).mono ?_; rintro e w' ⟨⟨z, rfl, hz⟩, hS'⟩))
          rename_i hHeld
          obtain ⟨_, _, _, _, hKw⟩ := hHeld
          clear hz hS' hK hKd fa fb
          by_cases hc : (ys (p + 1)).1 < (ys p).1
          · obtain ⟨W1, W2, hS⟩ := swap_facts hKw.pr (i := p + 1) (j := p) (by omega) (by omega)
            have hI2 := hI.swap (show a ≤ p by omega) (by omega) hc
            have hB2 := hB.swap (show a ≤ p by omega) hc
            have hc' := Lib.hid hc
            obtain ⟨ci, ci0, cj, cj0, s1, s2, hR2, hC2⟩ := hS
            have hK2 : CK w g n (swE ys (p + 1) p) W2 := ⟨hR2, Nat.lt_of_lt_of_le hKw.lt hC2.size, hKw.chg.tr hC2⟩
            have fa := foldE (ys (p + 1))
            have fb := foldE (ys p)
            have la := encE_length (ys (p + 1))
            have lb := encE_length (ys p)
            clear hR2 hC2 hKw hI hB
            go_wp2_with fail
            go_region
            all_goals
              go_wp2
              go_roundw
              case rel => exact ⟨p, _, by omega, by omega, by go_num, hK2, hI2, hB2⟩
              case measure => first | (simp [intOf]; done) | (simp [intOf]; omega)
          · have hS2 := hB.done hc
            go_wp2
            go_roundw
            case rel => exact ⟨i + 1, ys, by omega, by omega, by go_num, hKw, hI, hS2⟩
            case measure => first | (simp [intOf]; done) | (simp [intOf]; omega)
        · have hja' : ¬ (a : Int) < (j : Int) := by omega
          have hdec : decide ((a : Int) < (j : Int)) = false := by simpa using hja'
          obtain rfl : j = a := by omega
          have hS2 := hB.done0
          have hKd : ∀ q, CK w g n ys (wr.drewN q) := fun q => ⟨⟨fun i hi j v hv => hK.pr.r i hi j v hv, fun i hi j hj => hK.pr.t i hi j hj⟩, hK.lt, ⟨hK.chg.os, hK.chg.tape, hK.chg.output, hK.chg.size, hK.chg.block⟩⟩
          go_wp2_with fail
          go_quiet (fail)
          go_wp2
          go_roundw
          case rel => exact ⟨i + 1, ys, by omega, by omega, by go_num, hKd _, hI, hS2⟩
          case measure => first | (simp [intOf]; done) | (simp [intOf]; omega)
    · have hib' : ¬ (i : Int) < (b : Int) := by omega
      go_wp2
      go_end0
      exact ⟨rfl, zs, hK, hI, fun p q h1 h2 h3 => hS p q h1 h2 (by omega)⟩
end Go.Proofs.Qxb6616141a
