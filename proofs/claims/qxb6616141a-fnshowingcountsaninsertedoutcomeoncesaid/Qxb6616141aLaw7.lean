/-
  OWN TEXT. FnShowingCountsAnInsertedOutcomeOnce: the walk.
-/
import Derived.Test.Qxb6616141aApp
import Derived.Deep.DeepCutAuto
import Derived.Deep.Cut
namespace Go.Proofs.Qxb6616141a
open Go.RowKit

/-- a copy of a row of strings, in a block of the call's own -/
theorem copied (w : World) (ad : Addr) (xb xo xn xc : Nat) (xf : Nat → ByteArray) (hx : StrAt w (some ad) xb xo xn xf) :
    ∃ W', (∀ ty, (Builtin.copy_ #[29, 29] ty #[.slice (some ⟨w.heap.size, 0, none⟩) xn xn, .slice (some ad) xn xc]).run Try.prog (w.alloc (.cells (madeCells #[.string ByteArray.empty] xn) 9)) = .ok (.int .i64 xn) W') ∧
      StrAt W' (some ⟨w.heap.size, 0, none⟩) w.heap.size 0 xn xf ∧ Below w.heap.size w W' := by
  have hB := below_alloc w (.cells (madeCells #[.string ByteArray.empty] xn) 9)
  have hx1 := hx.below hB
  have hsz : (madeCells #[.string ByteArray.empty] xn).size = xn := by simp [madeCells]
  have hg : (w.alloc (.cells (madeCells #[.string ByteArray.empty] xn) 9)).heap[w.heap.size]? = some (.cells (madeCells #[.string ByteArray.empty] xn) 9 (0, 0)) := heap_alloc_new w _
  have hr := fun ty => run_copy_row (P := Try.prog) (w.alloc (.cells (madeCells #[.string ByteArray.empty] xn) 9)) 29 29 ty 9 w.heap.size 0 xn xn ad xn xc _ 9 (strL xf xn) Try.underlying29 (by kernel_rfl) hg (by simp [strL])
    (fun j u hu => by
        obtain ⟨hj, rfl⟩ := strL_at hu
        have ha := hx1.addr (by omega)
        cases ha
        rw [Addr.add_lit]
        exact hx1.c j hj) (by simp [strL, hsz]) (fun u hu => by
        simp only [strL, List.mem_map] at hu
        obtain ⟨j, _, rfl⟩ := hu
        rfl)
  have e1 : goInt (strL xf xn).length = .int .i64 xn := by simp [strL, goInt]
  simp only [e1] at hr
  refine ⟨_, hr, ⟨fun _ => rfl, fun j hj => ?_⟩, ?_⟩
  · rw [Nat.zero_add]
    unfold World.cell?
    rw [setRow_heap _ _ _ _ 9 _ hg]
    simp [List.getElem?_append, strL, hj]
  · exact hB.trans ⟨rfl, rfl, rfl, by simp [World.setRow], fun k hk => setRow_other _ _ k _ (by omega)⟩

theorem fill_one (e l : Nat) : Instr.fill (fun i => some (i * 2, 2)) ((Array.range (1 * 2)).map ((Value.agg #[.slice none 0 0, .slice none 0 0]).cells[· % (Value.agg #[.slice none 0 0, .slice none 0 0]).cells.size]!)) #[(0, Value.agg #[.slice (some ⟨e, 0, none⟩) l l, .slice none 0 0])].toList = some #[.slice (some ⟨e, 0, none⟩) l l, .slice none 0 0] := by
  kernel_rfl

def ExtP (w : World) (xn : Nat) (xf : Nat → ByteArray) (v : Value) (wx : World) : Prop := ∃ xa xb xo xc, v = .slice xa xn xc ∧ StrAt wx xa xb xo xn xf ∧ (xa = none → xc = 0) ∧ Below w.heap.size w wx

set_option maxRecDepth 100000 in
set_option maxHeartbeats 2000000 in
theorem law4 (a : Option Addr) (nb no n cap : Nat) (A : Nat → Option Addr) (L C IB IQ : Nat → Nat) (F : Nat → Nat → ByteArray) (s : ByteArray) (xa : Option Addr) (xb xo xn xc : Nat) (xf : Nat → ByteArray) (cut : Int) (w : World) (h : NmAt w a nb no n A L C IB IQ F)
    (hx : StrAt w xa xb xo xn xf) (hnil : xa = none → xc = 0) :
    Calls Try.prog 4 #[.slice a n cap, .string s, .slice xa xn xc, .int .i64 cut] w (TB w (.bool true)) := by
  have s0 : (0 : Int) ≤ (s.size : Int) := by omega
  have x0 : (0 : Int) ≤ (xn : Int) := by omega
  go_enter Try.func4, Try.ntmps4
  go_wp2_with fail
  refine (zz11_calls a nb no n cap A L C IB IQ F w h s xa xb xo xn xc xf hx cut).mono ?_
  rintro e w1 ⟨⟨b, rfl, hsz0⟩, hw⟩
  subst hw
  cases b with
  | false =>
    go_wp2
    go_ret
    exact ⟨rfl, Below.refl _ _⟩
  | true =>
    obtain ⟨hsz, hxs⟩ := hsz0 rfl
    clear hsz0
    by_cases h1 : (1048576 : Int) < (s.size : Int)
    · go_wp2
      go_ret
      exact ⟨rfl, Below.refl _ _⟩
    by_cases h2 : (65536 : Int) < (xn : Int)
    · go_wp2
      go_ret
      exact ⟨rfl, Below.refl _ _⟩
    have h2' : (xn : Int) ≤ 65536 := by omega
    have h1' : (s.size : Int) ≤ 1048576 := by omega
    go_upto_if 35 with fail
    go_cut [2, 9] (fun v _ wx => ExtP w1 xn xf v wx)
    case first =>
      cases xa with
      | none =>
        obtain rfl := hnil rfl
        go_wp2
        all_goals
          go_meet
          exact ⟨none, xb, xo, 0, rfl, hx, fun _ => rfl, Below.refl _ _⟩
      | some ad =>
        have hi : (Try.prog.info? 9).map (fun i => (i.zero, i.size, i.bytes)) = some (some (.string ByteArray.empty), 1, 16) := by kernel_rfl
        obtain ⟨i0, hi, hz0, hz1, hz2⟩ := info_parts hi
        have hmk := run_make (P := Try.prog) w1 29 9 i0 _ Try.underlying29 hi hz0 .i64 .i64 xn xn (by omega) (Int.le_refl _) (by rw [hz2]; omega) (by omega)
        simp only [Int.toNat_natCast, hz1, Nat.mul_one] at hmk
        obtain ⟨W', hcp, hS, hB⟩ := copied w1 ad xb xo xn xc xf hx
        go_wp2
        all_goals
          go_meet
          exact ⟨_, _, _, _, rfl, hS, (by intro h; cases h), hB⟩
    case rest =>
      obtain ⟨ya, yb, yo, yc, rfl, hY, hynil, hB1⟩ := hcut
      clear hx hnil
      have h' := h.below hB1
      by_cases h5 : (1048576 : Int) < (s.size : Int) + 24 + 32 * (xn : Int)
      · go_wp2
        go_ret
        exact ⟨rfl, hB1⟩
      go_wp2
      go_loop [10, 11] (fun z i => ∃ (k : Nat) (q : Int), k ≤ xn ∧ i = .int .i64 k ∧ z = .int .i64 q ∧ 0 ≤ q ∧ q ≤ 1048576) (fun _ i => xn - (intOf i).toNat)
      case atStart => exact ⟨0, _, Nat.zero_le _, rfl, rfl, by omega, by omega⟩
      case round =>
        obtain ⟨k, q, hk, rfl, rfl, hq0, hq1⟩ := hrel
        by_cases hlt : k < xn
        · have e := hY.addr (by omega)
          subst e
          have hd := hY.c k hlt
          have hlt' : (k : Int) < (xn : Int) := by omega
          have z0 : (0 : Int) ≤ ((xf k).size : Int) := by omega
          have z1 : ((xf k).size : Int) ≤ 1048576 := by have := hxs k hlt; omega
          by_cases hs3 : (1048576 : Int) < q + 2 * ((xf k).size : Int)
          · go_wp2
            go_ret
            exact ⟨rfl, hB1⟩
          · go_wp2
            go_round
            case rel => exact ⟨k + 1, q + 2 * ((xf k).size : Int), by omega, by go_num, rfl, by omega, by omega⟩
            case measure => simp [intOf]; omega
        · have hlt' : ¬ (k : Int) < (xn : Int) := by omega
          (obtain rfl : k = xn := by omega)
          go_wp2_with fail
          refine (tooBig_calls a nb no n cap A L C IB IQ F _ h' q hq0 hq1 hsz).mono ?_
          rintro e w2 ⟨⟨b, rfl, hb⟩, hw⟩
          subst hw
          cases b with
          | true =>
            go_wp2
            go_ret
            exact ⟨rfl, hB1⟩
          | false =>
            obtain ⟨hn, hL⟩ := hb rfl
            by_cases h3 : cut < 0
            · go_wp2
              go_ret
              exact ⟨rfl, hB1⟩
            by_cases h4 : (n : Int) < cut
            · go_wp2
              go_ret
              exact ⟨rfl, hB1⟩
            obtain ⟨c, rfl⟩ : ∃ c : Nat, cut = (c : Int) := ⟨cut.toNat, by omega⟩
            have hcn : c ≤ n := by omega
            have hcn' : (c : Int) ≤ (n : Int) := by omega
            have hc0 : (0 : Int) ≤ (c : Int) := by omega
            have hnn : (n : Int) ≤ (n : Int) := by omega
            have hn' : (n : Int) ≤ 65536 := by omega
            have hn0 : (0 : Int) ≤ (n : Int) := by omega
            go_wp2_with fail
            refine (outcomes_calls a nb no n cap A L C IB IQ F w2 h' hn hL).mono ?_
            rintro e w3 ⟨g, E, rfl, hO, hB3, hg, hE⟩
            have hY3 := hY.below hB3
            go_wp2_with fail
            refine (showing_calls _ g 0 n n _ L _ E _ F s w3 hO (by omega) (fun i hi => by have := hL i hi; omega)).mono ?_
            rintro e w4 ⟨rfl, hB4⟩
            have hO4 := hO.below hB4
            have hY4 := hY3.below hB4
            have hBa := below_tr (below_tr hB1 hB3) hB4
            clear hB1 hB3 hB4 hO hY hY3 h h'
            have hi9 : (Try.prog.info? 9).map (fun i => (i.zero, i.size, i.bytes)) = some (some (.string ByteArray.empty), 1, 16) := by kernel_rfl
            obtain ⟨i9, hi9, hz90, hz91, hz92⟩ := info_parts hi9
            have hi33 : (Try.prog.info? 33).map (fun i => (i.zero, i.size, i.bytes)) = some (some (.agg #[.slice none 0 0, .slice none 0 0]), 2, 48) := by kernel_rfl
            obtain ⟨i33, hi33, hz0, hz1, hz2⟩ := info_parts hi33
            have hmk := run_make (P := Try.prog) w4 29 9 i9 _ Try.underlying29 hi9 hz90 .i64 .i64 0 (2 * (k : Int)) (by omega) (by omega) (by rw [hz92]; omega) (by omega)
            rw [show (2 * (k : Int)).toNat = 2 * k by omega, hz91, Nat.mul_one] at hmk
            have hw5 := own_made w4 9 1 (2 * k) (madeCells #[.string ByteArray.empty] (2 * k)) (by unfold maxLen; omega) (by simp [madeCells])
            go_wp2_with (at_builtin; refine wpList_append_of rfl _ _ 29 29 rfl _ _ rfl rfl _ (appS hw5 (hY4.below hw5.bel) hynil (by omega)) ?_)
            rintro v5 w6 ⟨rfl, hw6, _⟩
            clear hmk hw5
            go_wp2_with (at_builtin; refine wpList_append_of rfl _ _ 29 29 rfl _ _ rfl rfl _ (appS hw6 (hY4.below hw6.bel) hynil (by omega)) ?_)
            rintro v6 w7 ⟨rfl, hw7, _⟩
            have hT := hw7.str (f := fun j => if j < k then xf j else xf (j - k)) (fun j hj => strL_twice xf k j (by omega))
            have hY7 := hY4.below hw7.bel
            have hO7 := hO4.below hw7.bel
            have hB7 := below_tr hBa hw7.bel
            clear hw6 hw7 hY4 hO4 hBa
            generalize w4.heap.size = tg at hT ⊢
            obtain ⟨ad, hslc, hadc⟩ := tail_run' g n c hcn
            have hmka := run_make (P := Try.prog) w7 25 33 i33 _ Try.underlying25 hi33 hz0 .i64 .i64 0 ((n : Int) + 1) (by omega) (by omega) (by rw [hz2]; omega) (by omega)
            rw [show ((n : Int) + 1).toNat = n + 1 by omega, hz1] at hmka
            have o0a := own_made w7 33 2 (n + 1) (madeCells #[.slice none 0 0, .slice none 0 0] ((n + 1) * 2)) (by unfold maxLen; omega) (by simp [madeCells])
            go_wp2_with (at_builtin; refine wpList_append_of rfl _ _ 25 25 rfl _ _ rfl rfl _ (appO o0a ⟨g, 0, none⟩ c n (rowL (fun i => some ⟨E i, 0, none⟩) L 0 c) (rowL_length _ _ _ _) (by simpa using (hO7.below o0a.bel).cells 0 c (by omega)) (rowL_one _ _ _ _) (by omega)) ?_)
            rintro v1a x1a ⟨rfl, o1a, _⟩
            clear hmka o0a
            go_wp2_with fail
            refine (outcome_calls ya yb yo k yc xf x1a (hY7.below o1a.bel) (by omega)).mono ?_
            rintro e x2a ⟨ea, rfl, hEa, hgea, hba⟩
            have o2a := o1a.below hba
            have hlta := o1a.lt
            have hbsa : (Instr.buildSlice 25 1 #[(0, .agg #[.slice (some ⟨ea, 0, none⟩) (k) (k), .slice none 0 0])]).run Try.prog x2a = .ok (.slice (some ⟨x2a.heap.size, 0, none⟩) 1 1) (x2a.alloc (.cells #[.slice (some ⟨ea, 0, none⟩) (k) (k), .slice none 0 0] 33)) :=
              run_buildSlice x2a 25 33 1 _ _ i33 _ Try.underlying25 hi33 hz0 (by rw [hz1]; omega) (by rw [hz1]; omega) (by rw [hz1]; exact fill_one _ _)
            have hb2a := below_alloc x2a (.cells #[.slice (some ⟨ea, 0, none⟩) (k) (k), .slice none 0 0] 33)
            have o3a := o2a.below hb2a
            have hE2a := hEa.below hb2a
            have hnwa : ∀ j u, (rowL (fun _ => some ⟨ea, 0, none⟩) (fun _ => k) 0 1)[j]? = some u → (x2a.alloc (.cells #[.slice (some ⟨ea, 0, none⟩) (k) (k), .slice none 0 0] 33)).cell? ((⟨x2a.heap.size, 0, none⟩ : Addr).add j) = some u := fun j u hu => by
              rw [rowL_get] at hu
              rw [Addr.add_lit, cell_new rfl, Nat.zero_add]
              match j with
              | 0 => simpa [cellF] using hu
              | 1 => simpa [cellF] using hu
              | j + 2 => rw [if_neg (by omega)] at hu; cases hu
            go_wp2_with (at_builtin; refine wpList_append_of rfl _ _ 25 25 rfl _ _ rfl rfl _ (appO o3a ⟨x2a.heap.size, 0, none⟩ 1 1 (rowL (fun _ => some ⟨ea, 0, none⟩) (fun _ => k) 0 1) (rowL_length _ _ _ _) hnwa (rowL_one _ _ _ _) (by omega)) ?_)
            rintro v2a x4a ⟨rfl, o4a, g4a⟩
            have hE4a := hE2a.grown g4a (by intro h; injection h with h; omega)
            clear hbsa hb2a o3a o2a hE2a hnwa g4a hEa
            have hsla := hslc
            go_wp2_with (at_builtin; refine wpList_append_of rfl _ _ 25 25 rfl _ _ rfl rfl _ (appO o4a ad (n - c) (n - c) (rowL (fun i => some ⟨E i, 0, none⟩) L c (n - c)) (rowL_length _ _ _ _) (fun j u hu => by
              have hj : j < (n - c) * 2 := by
                rw [rowL_get] at hu
                by_cases hj : j < (n - c) * 2
                · exact hj
                · rw [if_neg hj] at hu; cases hu
              rw [hadc (by omega)]
              have := (hO7.below o4a.bel).cells c (n - c) (by omega) j u hu
              simpa using this) (rowL_one _ _ _ _) (by omega)) ?_)
            rintro v3a x5a ⟨rfl, o5a, g5a⟩
            have hE5a := hE4a.grown g5a (by intro h; injection h with h; omega)
            have hIa := ins_out hcn (by simpa using o5a) hO7 hE5a
            clear hsla o1a o4a hE4a hba
            have hO8 := hO7.below o5a.bel
            have hY8 := hY7.below o5a.bel
            have hT8 := hT.below o5a.bel
            have hB8 := below_tr hB7 o5a.bel
            clear hO7 hY7 hT hB7
            have hmkb := run_make (P := Try.prog) x5a 25 33 i33 _ Try.underlying25 hi33 hz0 .i64 .i64 0 ((n : Int) + 1) (by omega) (by omega) (by rw [hz2]; omega) (by omega)
            rw [show ((n : Int) + 1).toNat = n + 1 by omega, hz1] at hmkb
            have o0b := own_made x5a 33 2 (n + 1) (madeCells #[.slice none 0 0, .slice none 0 0] ((n + 1) * 2)) (by unfold maxLen; omega) (by simp [madeCells])
            go_wp2_with (at_builtin; refine wpList_append_of rfl _ _ 25 25 rfl _ _ rfl rfl _ (appO o0b ⟨g, 0, none⟩ c n (rowL (fun i => some ⟨E i, 0, none⟩) L 0 c) (rowL_length _ _ _ _) (by simpa using (hO8.below o0b.bel).cells 0 c (by omega)) (rowL_one _ _ _ _) (by omega)) ?_)
            rintro v1b x1b ⟨rfl, o1b, _⟩
            clear hmkb o0b
            go_wp2_with fail
            refine (outcome_calls (some ⟨tg, 0, none⟩) tg 0 (k + k) (2 * k) (fun j => if j < k then xf j else xf (j - k)) x1b (hT8.below o1b.bel) (by omega)).mono ?_
            rintro e x2b ⟨eb, rfl, hEb, hgeb, hbb⟩
            have o2b := o1b.below hbb
            have hltb := o1b.lt
            have hbsb : (Instr.buildSlice 25 1 #[(0, .agg #[.slice (some ⟨eb, 0, none⟩) (k + k) (k + k), .slice none 0 0])]).run Try.prog x2b = .ok (.slice (some ⟨x2b.heap.size, 0, none⟩) 1 1) (x2b.alloc (.cells #[.slice (some ⟨eb, 0, none⟩) (k + k) (k + k), .slice none 0 0] 33)) :=
              run_buildSlice x2b 25 33 1 _ _ i33 _ Try.underlying25 hi33 hz0 (by rw [hz1]; omega) (by rw [hz1]; omega) (by rw [hz1]; exact fill_one _ _)
            have hb2b := below_alloc x2b (.cells #[.slice (some ⟨eb, 0, none⟩) (k + k) (k + k), .slice none 0 0] 33)
            have o3b := o2b.below hb2b
            have hE2b := hEb.below hb2b
            have hnwb : ∀ j u, (rowL (fun _ => some ⟨eb, 0, none⟩) (fun _ => k + k) 0 1)[j]? = some u → (x2b.alloc (.cells #[.slice (some ⟨eb, 0, none⟩) (k + k) (k + k), .slice none 0 0] 33)).cell? ((⟨x2b.heap.size, 0, none⟩ : Addr).add j) = some u := fun j u hu => by
              rw [rowL_get] at hu
              rw [Addr.add_lit, cell_new rfl, Nat.zero_add]
              match j with
              | 0 => simpa [cellF] using hu
              | 1 => simpa [cellF] using hu
              | j + 2 => rw [if_neg (by omega)] at hu; cases hu
            go_wp2_with (at_builtin; refine wpList_append_of rfl _ _ 25 25 rfl _ _ rfl rfl _ (appO o3b ⟨x2b.heap.size, 0, none⟩ 1 1 (rowL (fun _ => some ⟨eb, 0, none⟩) (fun _ => k + k) 0 1) (rowL_length _ _ _ _) hnwb (rowL_one _ _ _ _) (by omega)) ?_)
            rintro v2b x4b ⟨rfl, o4b, g4b⟩
            have hE4b := hE2b.grown g4b (by intro h; injection h with h; omega)
            clear hbsb hb2b o3b o2b hE2b hnwb g4b hEb
            have hslb := hslc
            go_wp2_with (at_builtin; refine wpList_append_of rfl _ _ 25 25 rfl _ _ rfl rfl _ (appO o4b ad (n - c) (n - c) (rowL (fun i => some ⟨E i, 0, none⟩) L c (n - c)) (rowL_length _ _ _ _) (fun j u hu => by
              have hj : j < (n - c) * 2 := by
                rw [rowL_get] at hu
                by_cases hj : j < (n - c) * 2
                · exact hj
                · rw [if_neg hj] at hu; cases hu
              rw [hadc (by omega)]
              have := (hO8.below o4b.bel).cells c (n - c) (by omega) j u hu
              simpa using this) (rowL_one _ _ _ _) (by omega)) ?_)
            rintro v3b x5b ⟨rfl, o5b, g5b⟩
            have hE5b := hE4b.grown g5b (by intro h; injection h with h; omega)
            have hIb := ins_out hcn (by simpa using o5b) hO8 hE5b
            clear hslb o1b o4b hE4b hbb
            have hY9 := hY8.below o5b.bel
            have hB9 := below_tr hB8 o5b.bel
            have hIa9 := hIa.below o5b.bel
            clear hO8 hY8 hT8 hB8 hslc hadc hIa
            have hlen : c + 1 + (n - c) = n + 1 := by omega
            have hlim : ∀ (l : Nat), l ≤ 1048576 → ∀ i, i < c + 1 + (n - c) → insF L l c i ≤ 1048576 := fun l hl i hi => by
              unfold insF
              split
              · have := hL i (by omega); omega
              · split
                · exact hl
                · have := hL (i - 1) (by omega); omega
            have ea1 : cntF (insF L k c) (insF F xf c) s (c + 1 + (n - c)) = cntF L F s n + if hasF xf s k then 1 else 0 := by
              rw [hlen]; exact cntF_ins L F s k xf n c hcn
            have eb1 : cntF (insF L (k + k) c) (insF F (fun j => if j < k then xf j else xf (j - k)) c) s (c + 1 + (n - c)) = cntF L F s n + if hasF xf s k then 1 else 0 := by
              rw [hlen, ← hasF_twice xf s k]; exact cntF_ins L F s (k + k) _ n c hcn
            have ha1 := (showing_calls _ _ 0 (c + 1 + (n - c)) (n + 1) _ _ _ _ _ _ s x5b (by rw [hlen]; exact hIa9) (by omega) (hlim k (by omega)))
            rw [ea1] at ha1
            have hb1 := fun y hy => (showing_calls _ _ 0 (c + 1 + (n - c)) (n + 1) _ _ _ _ _ _ s y (by rw [hlen]; exact hIb.below hy) (by omega) (hlim (k + k) (by omega)))
            rw [eb1] at hb1
            obtain ⟨d, hd⟩ : ∃ d : Nat, d = if hasF xf s k then 1 else 0 := ⟨_, rfl⟩
            rw [← hd] at ha1 hb1
            have Hd := Lib.hid hd
            clear hd
            have hle := cntF_le L F s n
            clear hIa9 hIb hlim ea1 eb1 hlen
            generalize cntF L F s n = B at *
            have hB0 : (0 : Int) ≤ (B : Int) := by omega
            have hB1 : (B : Int) ≤ (n : Int) := by omega
            go_wp2_with fail
            refine ha1.mono ?_
            rintro e y1 ⟨rfl, hy1⟩
            go_wp2_with fail
            refine (hb1 y1 hy1).mono ?_
            rintro e y2 ⟨rfl, hy2⟩
            go_wp2_with fail
            refine (shows_calls ya yb yo k yc xf s y2 ((hY9.below hy1).below hy2) (by omega)).mono ?_
            rintro e y3 ⟨rfl, hy3⟩
            subst hy3
            have hBz := below_tr (below_tr hB9 hy1) hy2
            cases he : hasF xf s k with
            | true =>
              obtain rfl : d = 1 := by rw [Hd.out, he]; rfl
              clear he ha1 hb1 Hd
              go_wp2
              go_ret
              exact ⟨by first | rfl | (simp; done) | (simp; omega), hBz⟩
            | false =>
              obtain rfl : d = 0 := by rw [Hd.out, he]; rfl
              clear he ha1 hb1 Hd
              go_wp2
              go_ret
              exact ⟨by first | rfl | (simp; done) | (simp; omega), hBz⟩
end Go.Proofs.Qxb6616141a
