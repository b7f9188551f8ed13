/-
  OWN TEXT. The walk of FnLedgerApplyKeepsLeastDoubtOnTop.
-/
import Derived.Test.Qxb6616074aInv
import Derived.Maps.OwnSet
namespace Go.Proofs.Qxb6616074a
open Go.RowKit Go.MapKept Go.ChangeMaps

theorem wpList_delete {P : Program} {w : World} {ops : Array Oper} {rest : List Oper} {o : Oper} {a : Act} {Q : Exit → Act → World → Prop}
    (hg : o.guard = none) (m x : Operand) (t k : TypeId) (hop : o.op = Op.call { callee := Callee.builtin Builtin.delete, args := #[m, x], argTypes := #[t, k] })
    (mv xv : Value) (hm : a.eval m = mv) (hx : a.eval x = xv) (w' : World) (hrun : (Builtin.delete_ #[t, k] o.type #[mv, xv]).run P w = .ok (.tuple #[]) w')
    (hK : wpList P ops Q rest (a.put o.dst (.tuple #[])) w') : wpList P ops Q (o :: rest) a w := by
  refine wpList_plain hg fun K hK' => ?_
  unfold Oper.wp
  simp [execOp, hop, resolve, invoke, builtin, hm, hx, hrun, Result.andThen]
  exact hK' _ _ hK

theorem zero28 (w : World) : (zeroValue 28).run Try.prog w = .ok (.int .u64 0) w := by kernel_rfl
def topU : Int := 18446744073709551615
def LawPost (w : World) (e : Ending) (w' : World) : Prop := e = .returned (.bool true) ∧ Below w.heap.size w w'

/-- what holds when k entries have been applied -/
structure TopInv (w wr : World) (n : Nat) (es : Nat → EntD) (lb db k : Nat) (F : List Nat) (L : Led) (f : ByteArray → Option Int) (nd : Nat) : Prop where
  led : LedS wr lb F L
  dbt : MapAt wr db u64V f nd
  inv : DInv L.hs f nd (fun t => ∃ j, j < k ∧ (es j).2.1 = t) topU
  small : Small L k
  below : Below w.heap.size w wr
  fnew : ∀ x ∈ F, w.heap.size ≤ x ∧ x ≠ db
  lbe : lb = w.heap.size
  dbe : db = w.heap.size + 1

theorem ScrAt.below {w wr : World} {a : Option Addr} {sb so n : Nat} {es : Nat → EntD} (h : ScrAt w a sb so n es) (hb : Below w.heap.size w wr) : ScrAt wr a sb so n es := by
  have e : ∀ i, i < n → ∀ o, wr.cell? ⟨sb, o, none⟩ = w.cell? ⟨sb, o, none⟩ := fun i hi o => hb.cell (p := ⟨sb, o, none⟩) (show sb < _ from World.block_lt_of_cell? w ⟨sb, so + i * 3, none⟩ (h.k i hi))
  exact ⟨h.addr, fun i hi => (e i hi _).trans (h.k i hi), fun i hi => (e i hi _).trans (h.t i hi), fun i hi => (e i hi _).trans (h.s i hi)⟩

theorem Stp.below {lb : Nat} {F F' : List Nat} {w wr w' : World} (h : Stp lb F wr F' w') (hb : Below w.heap.size w wr) (hlb : w.heap.size ≤ lb) (hF : ∀ x ∈ F, w.heap.size ≤ x) : Below w.heap.size w w' :=
  hb.trans (h.1.below (B := w.heap.size) (fun k hk => by rcases hk with rfl | hk; exact hlb; exact hF k hk) hb.size)

section
variable {w wr : World} {n : Nat} {es : Nat → EntD} {lb db k : Nat} {F : List Nat} {L : Led} {f : ByteArray → Option Int} {nd : Nat}

/-- what stands behind the call of apply, ahead of the turn of the map -/
theorem TopInv.mid (h : TopInv w wr n es lb db k F L f nd) {w2 : World} {F' : List Nat} {X : Array Value} {T : TypeId} (q2 : Stp lb F (wr.alloc (.cells X T)) F' w2) :
    MapAt w2 db u64V f nd ∧ (∀ j v, X[j]? = some v → w2.cell? ⟨wr.heap.size, j, none⟩ = some v) ∧ Below w.heap.size w w2 ∧ (∀ x ∈ F', w.heap.size ≤ x ∧ x ≠ db) ∧ ¬ db = lb := by
  have hlbs := h.led.lb_lt
  have hdbs := h.dbt.lt
  have hFl := h.led.lts
  have hlbe := h.lbe
  have hdbe := h.dbe
  have hbs := h.below.size
  have hsz : (wr.alloc (.cells X T)).heap.size = wr.heap.size + 1 := by simp
  have hdF : ¬ (db = lb ∨ db ∈ F) := by
    rintro (e | e)
    · omega
    · exact (h.fnew db e).2 rfl
  have hM1 : MapAt (wr.alloc (.cells X T)) db u64V f nd := h.dbt.kept (chg_alloc (fun _ => False) _ _) (fun x => x)
  refine ⟨hM1.kept q2.1 hdF, ?_, ?_, ?_, by omega⟩
  · intro j v hv
    refine q2.1.cell (a := ⟨wr.heap.size, j, none⟩) (by rw [cell_new rfl]; exact hv) ?_
    rintro (e | e)
    · simp at e; omega
    · have := (hFl _ e).1; simp at this
  · exact q2.below ((h.below.alloc (by omega) _)) (by omega) (fun x hx => (h.fnew x hx).1)
  · intro x hx
    rcases q2.2 x hx with h' | h'
    · exact h.fnew x h'
    · rw [hsz] at h'; exact ⟨by omega, by omega⟩

theorem TopInv.step (h : TopInv w wr n es lb db k F L f nd) {w2 w3 : World} {F' : List Nat} {f' : ByteArray → Option Int} {nd' : Nat} (q1 : LedS w2 lb F' (applyF L (es k).1 (es k).2.1 (es k).2.2))
    (hb : Below w.heap.size w w2) (hF : ∀ x ∈ F', w.heap.size ≤ x ∧ x ≠ db) (hc : Chg (fun x => x = db) w2 w3) (hM : MapAt w3 db u64V f' nd') (hne : ¬ db = lb)
    (hI : DInv (applyF L (es k).1 (es k).2.1 (es k).2.2).hs f' nd' (fun t => ∃ j, j < k + 1 ∧ (es j).2.1 = t) topU) : TopInv w w3 n es lb db (k + 1) F' (applyF L (es k).1 (es k).2.1 (es k).2.2) f' nd' := by
  have hlbe := h.lbe
  have hdbe := h.dbe
  refine ⟨q1.frame hc (fun e => hne e.symm) (fun x hx => (hF x hx).2), hM, hI, small_apply h.small _ _ _, hb.trans (hc.below (B := w.heap.size) (fun x e => by omega) hb.size), hF, h.lbe, h.dbe⟩

theorem TopInv.frame (h : TopInv w wr n es lb db k F L f nd) {w2 : World} (hc : Chg (fun _ => False) wr w2) : TopInv w w2 n es lb db k F L f nd :=
  ⟨h.led.frame hc (fun x => x) (fun _ _ x => x), h.dbt.kept hc (fun x => x), h.inv, h.small, h.below.trans (hc.below (B := w.heap.size) (fun _ x => x.elim) h.below.size), h.fnew, h.lbe, h.dbe⟩
end

set_option maxRecDepth 100000 in
set_option maxHeartbeats 8000000 in
theorem top_walk (a : Option Addr) (sb so n cap : Nat) (es : Nat → EntD) (w : World) (h : ScrAt w a sb so n es) (hst : ∀ i, i < n → (es i).2.2 ≤ topU) :
    Calls Try.prog 3 #[.slice a n cap] w (LawPost w) := by
  go_enter Try.func3, Try.ntmps3
  go_wp2_with fail
  refine (zzb_calls a sb so n cap es w h).mono ?_
  rintro e w1 ⟨⟨b, rfl, hb⟩, hw⟩; obtain rfl := hw.symm; clear hw
  cases b with
  | false =>
    go_wp2_with fail
    go_ret
    exact ⟨rfl, Below.refl _ _⟩
  | true =>
    obtain ⟨hn, hsz⟩ := hb rfl
    clear hb
    go_wp2_with fail
    refine (big_calls a sb so n cap es w h hn hsz 0 (by decide) (by decide)).mono ?_
    rintro e w1 ⟨⟨b, rfl⟩, hw⟩; obtain rfl := hw.symm; clear hw
    cases b with
    | true =>
      go_wp2_with fail
      go_ret
      exact ⟨rfl, Below.refl _ _⟩
    | false =>
      go_wp2_with fail
      refine (new_calls w).mono ?_
      rintro e w1 ⟨rfl, hled, hchg, hsz1⟩
      have hmm := @run_makeMap Try.prog
      have hI0 : TopInv w (w1.alloc (.map #[] 0)) n es w.heap.size (w.heap.size + 1) 0 [] led0 (fun _ => none) 0 := by
        rw [← hsz1]
        refine ⟨hled.frame (G := fun _ => False) (chg_alloc _ _ _) (fun x => x) (fun _ _ x => x), ⟨#[], 0, (MapKept.heap_alloc _ _).1, ⟨MapKept.stamped_empty 0, by simp, by simp⟩, rfl⟩, dinv_nil _ _, small_led0, ?_, by simp, rfl, hsz1⟩
        exact (hchg.alloc _).below (fun k x => x.elim) (Nat.le_refl _)
      go_wp2_with fail
      clear hmm
      generalize w1.alloc (.map #[] 0) = w2 at hI0 ⊢
      obtain ⟨lb, hlb⟩ : ∃ lb, lb = w.heap.size := ⟨_, rfl⟩
      rw [← hlb] at hI0 ⊢
      clear hlb hled hchg hsz1
      go_loopw [5] (fun iv wr => ∃ (k : Nat) (F : List Nat) (L : Led) (f : ByteArray → Option Int) (nd : Nat), iv = .int .i64 k ∧ k ≤ n ∧ TopInv w wr n es lb (lb + 1) k F L f nd) (fun iv _ => n - (intOf iv).toNat)
      case atStart => exact ⟨0, _, _, _, _, rfl, Nat.zero_le _, hI0⟩
      case round =>
        obtain ⟨k, F, L, f, nd, rfl, hk, hI⟩ := hrel
        by_cases hlt : k < n
        · have ha := h.addr (by omega)
          subst ha
          have hsc := h.below hI.below
          have ck := hsc.k k hlt
          have ct := hsc.t k hlt
          have cs := hsc.s k hlt
          have hlt' : (k : Int) < (n : Int) := by omega
          have hlbs := hI.led.lb_lt
          go_wp2_with fail
          refine (zzapply_calls (hI.led.frame (G := fun _ => False) (chg_alloc _ _ _) (fun x => x) (fun _ _ x => x)) hI.small (by omega) _ _ _).mono ?_
          rintro e w2 ⟨rfl, F', q1, q2⟩
          obtain ⟨hM2, hcl, hb2, hF2, hne⟩ := hI.mid q2
          have d0 := hcl 0 _ rfl
          have d1 := hcl 1 _ rfl
          have d2 := hcl 2 _ rfl
          obtain ⟨es2, clock2, hbk2, R2, hsz2⟩ := hM2
          have hsrc : ∀ x, (∃ j, j < k ∧ (es j).2.1 = x) → ∃ j, j < k + 1 ∧ (es j).2.1 = x := fun x ⟨j, hj, e⟩ => ⟨j, by omega, e⟩
          by_cases hk1 : (es k).1 = 1
          · have b1 : ((es k).1 == 1) = true := by simpa using hk1
            obtain ⟨es3, clock3, hup, R3, hs3⟩ := R2.store (w := w2) (b := lb + 1) (P := Try.prog) (t := 27) (kt := 9) (et := 28) hbk2 Try.underlying27 Try.underlying9 (es k).2.1 (es k).2.2
            have hc3 : Chg (fun x => x = lb + 1) w2 (setBlock w2 (lb + 1) (.map es3 clock3)) := (Chg.refl (fun x => x = lb + 1) w2).setBlock (fun _ => rfl) _
            have hbk3 : (setBlock w2 (lb + 1) (.map es3 clock3)).heap[lb + 1]? = some (.map es3 clock3) := heap_setBlock (Array.getElem?_eq_some_iff.1 hbk2).1 _
            generalize setBlock w2 (lb + 1) (.map es3 clock3) = w3 at hup hc3 hbk3
            simp only [u64V] at hup
            have hI' : TopInv w w3 n es lb (lb + 1) (k + 1) F' (applyF L (es k).1 (es k).2.1 (es k).2.2) (upd f (es k).2.1 (some (es k).2.2)) (if (f (es k).2.1).isSome then nd else nd + 1) := by
              refine hI.step q1 hb2 hF2 hc3 ⟨es3, clock3, hbk3, R3, by rw [hs3, hsz2]⟩ hne ?_
              rw [applyF_hs, if_pos hk1]
              exact hI.inv.hold _ _ hsrc ⟨k, by omega, rfl⟩ (hst k hlt)
            clear hbk2 hbk3 R2 R3 hs3 hcl
            go_wp2_with fail
            go_roundw
            case rel => exact ⟨k + 1, F', _, _, _, by go_num, by omega, hI'⟩
            case measure => simp [intOf]; omega
          · have b1 : ((es k).1 == 1) = false := by simpa using hk1
            obtain ⟨es3, hdel, R3, hs3⟩ := R2.drop (w := w2) (b := lb + 1) (P := Try.prog) (t := 27) (kt := 9) (et := 28) (ty := 0) hbk2 Try.underlying27 Try.underlying9 (es k).2.1
            have hc3 : Chg (fun x => x = lb + 1) w2 (setBlock w2 (lb + 1) (.map es3 clock2)) := (Chg.refl (fun x => x = lb + 1) w2).setBlock (fun _ => rfl) _
            have hbk3 : (setBlock w2 (lb + 1) (.map es3 clock2)).heap[lb + 1]? = some (.map es3 clock2) := heap_setBlock (Array.getElem?_eq_some_iff.1 hbk2).1 _
            generalize setBlock w2 (lb + 1) (.map es3 clock2) = w3 at hdel hc3 hbk3
            have hI' : TopInv w w3 n es lb (lb + 1) (k + 1) F' (applyF L (es k).1 (es k).2.1 (es k).2.2) (upd f (es k).2.1 none) (if (f (es k).2.1).isSome then nd - 1 else nd) := by
              refine hI.step q1 hb2 hF2 hc3 ⟨es3, clock2, hbk3, R3, by rw [hs3, hsz2]⟩ hne ?_
              rw [applyF_hs, if_neg hk1]
              exact hI.inv.drop _ hsrc
            clear hbk2 hbk3 R2 R3 hs3 hcl
            go_wp2_with (at_delete; refine wpList_delete rfl (.tmp 56) (.tmp 58) 27 9 rfl (.map (some (lb + 1))) (.string (es k).2.1) rfl rfl w3 hdel ?_)
            go_roundw
            case rel => exact ⟨k + 1, F', _, _, _, by go_num, by omega, hI'⟩
            case measure => simp [intOf]; omega
        · have hlt' : ¬ (k : Int) < (n : Int) := by omega
          obtain rfl : k = n := by omega
          have hinv := hI.inv
          have hcnt := hinv.cnt
          subst hcnt
          have hlenq := hI.dbt.len (P := Try.prog) (t := 27) (kt := 9) (et := 28) (ty := 3) Try.underlying27
          have hsmall := hI.small.h
          clear hI0
          go_wp2_with fail
          refine (dlen_calls hI.led).mono ?_
          rintro e w3 ⟨rfl, hw⟩; obtain rfl := hw.symm; clear hw
          go_wp2_with fail
          clear hlenq
          go_loopw [8] (fun iv wq => ∃ (i : Nat), iv = .int .i64 i ∧ i ≤ L.hs.length ∧ TopInv w wq k es lb (lb + 1) k F L f L.hs.length) (fun iv _ => L.hs.length - (intOf iv).toNat)
          case atStart => exact ⟨0, rfl, Nat.zero_le _, hI⟩
          case round =>
            clear hI
            obtain ⟨i, rfl, hi, hI⟩ := hrel
            have hnl := hI.led.lb_lt
            by_cases hil : i < L.hs.length
            · have hil' : (i : Int) < (L.hs.length : Int) := by omega
              have hd : L.hs[i]? = some L.hs[i] := List.getElem?_eq_getElem hil
              obtain ⟨d, hdd⟩ : ∃ d, d = L.hs[i] := ⟨_, rfl⟩
              rw [← hdd] at hd
              have hfd : f d.1 = some d.2 := (hinv.mem d.1 d.2).2 (List.mem_of_getElem? hd)
              clear hdd
              go_wp2_with fail
              refine (held_calls hI.led _ i rfl d hd).mono ?_
              rintro e w3 ⟨rfl, hc3⟩
              have hI3 := hI.frame hc3
              have hlk := hI3.dbt.look (P := Try.prog) (t := 27) (kt := 9) (et := 28) Try.underlying27 Try.underlying9 (zero28 w3) d.1
              rw [hfd] at hlk
              simp only [Option.map_some, Option.getD_some, Option.isSome_some, u64V] at hlk
              have hD : Hid (L.hs[i]? = some d) := hd
              have hF : Hid (f d.1 = some d.2) := hfd
              clear hfd
              go_wp2_with fail
              refine (place_calls hI3.led i d hD.out).mono ?_
              rintro e w4 ⟨rfl, hw⟩; obtain rfl := hw.symm; clear hw
              by_cases hi0 : i = 0
              · subst hi0
                go_wp2_with fail
                go_roundw
                case rel => exact ⟨1, by go_num, by omega, hI3⟩
                case measure => simp [intOf]; omega
              · have hi0' : (0 : Int) < (i : Int) := by omega
                have hpl : (i - 1) / 2 < L.hs.length := by omega
                have hp : L.hs[(i - 1) / 2]? = some (L.hs[(i - 1) / 2]) := List.getElem?_eq_getElem hpl
                obtain ⟨d', hdd'⟩ : ∃ d', d' = L.hs[(i - 1) / 2] := ⟨_, rfl⟩
                rw [← hdd'] at hp
                have hle := hinv.heap i (by omega) hil
                rw [stampAt_eq hp, stampAt_eq hD.out] at hle
                have hle' : ¬ d.2 < d'.2 := by omega
                have HP : Hid (L.hs[(i - 1) / 2]? = some d') := hp
                clear hp hdd' hd
                go_wp2_with fail
                refine (held_calls hI3.led _ ((i - 1) / 2) (by omega) d' HP.out).mono ?_
                rintro e w5 ⟨rfl, hc5⟩
                have hI5 := hI3.frame hc5
                go_wp2_with fail
                go_roundw
                case rel => exact ⟨i + 1, by go_num, by omega, hI5⟩
                case measure => simp [intOf]; omega
            · have hil' : ¬ (i : Int) < (L.hs.length : Int) := by omega
              obtain rfl : i = L.hs.length := by omega
              by_cases hz : L.hs.length = 0
              · have hz' : ¬ (0 : Int) < (L.hs.length : Int) := by omega
                go_wp2_with fail
                go_ret
                exact ⟨rfl, hI.below⟩
              · have hz' : (0 : Int) < (L.hs.length : Int) := by omega
                have hleast := hinv.least (by omega)
                go_wp2_with fail
                have HLST : Hid (leastTo f es topU k = stampAt L.hs 0) := hleast
                clear hleast
                go_loop [17, 18] (fun z iv => ∃ j : Nat, j ≤ k ∧ iv = .int .i64 j ∧ z = .int .u64 (leastTo f es topU j)) (fun _ iv => k - (intOf iv).toNat)
                case atStart => exact ⟨0, Nat.zero_le _, rfl, rfl⟩
                case round =>
                  obtain ⟨j, hj, rfl, rfl⟩ := hrel
                  by_cases hjk : j < k
                  · have ha := h.addr (by omega)
                    subst ha
                    have hjk' : (j : Int) < (k : Int) := by omega
                    have ct := (h.below hI.below).t j hjk
                    have hlk := hI.dbt.look (P := Try.prog) (t := 27) (kt := 9) (et := 28) Try.underlying27 Try.underlying9 (zero28 _) (es j).2.1
                    have hstep : leastTo f es topU (j + 1) = match f (es j).2.1 with
                      | some s => if s < leastTo f es topU j then s else leastTo f es topU j
                      | none => leastTo f es topU j := rfl
                    cases hfj : f (es j).2.1 with
                    | none =>
                      rw [hfj] at hlk hstep
                      simp only [Option.map_none, Option.getD_none, Option.isSome_none] at hlk
                      simp only at hstep
                      have HS : Hid (leastTo f es topU (j + 1) = leastTo f es topU j) := hstep
                      clear hstep hfj
                      go_wp2_with fail
                      go_round
                      case rel => exact ⟨j + 1, by omega, by go_num, by rw [HS.out]⟩
                      case measure => simp [intOf]; omega
                    | some s =>
                      rw [hfj] at hlk hstep
                      simp only [Option.map_some, Option.getD_some, Option.isSome_some, u64V] at hlk
                      simp only at hstep
                      have HS : Hid (leastTo f es topU (j + 1) = if s < leastTo f es topU j then s else leastTo f es topU j) := hstep
                      clear hstep hfj
                      generalize leastTo f es topU j = m at HS ⊢
                      by_cases hsm : s < m
                      · go_wp2_with fail
                        go_round
                        case rel => exact ⟨j + 1, by omega, by go_num, by rw [HS.out, if_pos hsm]⟩
                        case measure => simp [intOf]; omega
                      · go_wp2_with fail
                        go_round
                        case rel => exact ⟨j + 1, by omega, by go_num, by rw [HS.out, if_neg hsm]⟩
                        case measure => simp [intOf]; omega
                  · have hjk' : ¬ (j : Int) < (k : Int) := by omega
                    obtain rfl : j = k := by omega
                    have hd0 : L.hs[0]? = some (L.hs[0]'(by omega)) := List.getElem?_eq_getElem (by omega)
                    obtain ⟨d0, hdd0⟩ : ∃ d0, d0 = (L.hs[0]'(by omega)) := ⟨_, rfl⟩
                    rw [← hdd0] at hd0
                    rw [HLST.out, stampAt_eq hd0]
                    have HD0 : Hid (L.hs[0]? = some d0) := hd0
                    clear hd0 hdd0
                    go_wp2_with fail
                    refine (held_calls hI.led _ 0 (by simp) d0 HD0.out).mono ?_
                    rintro e w6 ⟨rfl, hc6⟩
                    have hI6 := hI.frame hc6
                    go_wp2_with fail
                    go_ret
                    exact ⟨rfl, hI6.below⟩
end Go.Proofs.Qxb6616074a
