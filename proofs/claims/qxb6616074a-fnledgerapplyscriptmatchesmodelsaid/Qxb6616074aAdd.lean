/-
  OWN TEXT. (*resolvedLog).add: its contract.
-/
import Derived.Test.Qxb6616074aLog
import Derived.Test.Qxb6616074aPop
import Derived.BigQuiet
import Derived.Deep.QuietTactic
import Derived.Deep.LoopGhost
import Derived.Deep.DeepCutAuto
namespace Go.Proofs.Qxb6616074a
open Go.RowKit Go.MapKept Go.ChangeMaps
theorem eqnil55 (r : Nat) (w : World) : (binOp .eql 55 (.map (some r)) (.map none)).run Try.prog w = .ok (.bool false) w := run_eql_map_nil Try.underlying55 (some r) w
theorem eqnil55' (w : World) : (binOp .eql 55 (.map none) (.map none)).run Try.prog w = .ok (.bool true) w := run_eql_map_nil Try.underlying55 none w
theorem info94 : (Try.prog.info? 94).map (fun i => (i.zero, i.size, i.bytes)) = some (some (.agg #[.string { data := #[] }, .int .u64 0]), 2, 24) := by kernel_rfl
theorem zero84 (w : World) : (zeroValue 84).run Try.prog w = .ok (outV (0, 0, 0)) w := by kernel_rfl

theorem field84_0 (a b c : Value) (w : World) : (Instr.field 84 (.agg #[a, b, c]) 0).run Try.prog w = .ok a w := by kernel_rfl
theorem field84_2 (a b c : Value) (w : World) : (Instr.field 84 (.agg #[a, b, c]) 2).run Try.prog w = .ok c w := by kernel_rfl

/-- What the append leaves, from the world that it finds on. -/
theorem add_append (w2 : World) (v : Value) (hs : List Dbt) (d : Dbt) (hS : SliceAt w2 v 2 hs.length (flat hs)) (hl : hs.length < 1000000000) :
    ∃ v' w', (Builtin.append_ #[56, 56] 56 #[v, .slice (some ⟨w2.heap.size, 0, none⟩) 1 1]).run Try.prog (w2.alloc (.cells #[.string d.1, .int .u64 d.2] 94)).drew = .ok v' w' ∧
      (SliceAt w' v' 2 (hs.length + 1) (flat (hs ++ [d])) ∧ Chg (fun k => v.ownBlock = some k) w2 w' ∧
      (∀ k ∈ vblk v', k ∈ vblk v ∨ w2.heap.size ≤ k)) := by
  obtain ⟨i0, hi, hz0, hz1, hz2⟩ := info_parts info94
  have hS' : SliceAt (w2.alloc (.cells #[.string d.1, .int .u64 d.2] 94)).drew v 2 hs.length (flat hs) := hS.kept (F := fun _ => False) ((chg_alloc _ _ _).drew) (fun _ _ x => x)
  obtain ⟨v', w', hrun, r1, r2, r3⟩ := run_append_slice (P := Try.prog) _ 56 56 94 i0 _ 2 24 Try.underlying56 hi hz0 hz1 hz2 rfl (by decide) v hs.length (flat hs) hS' ⟨w2.heap.size, 0, none⟩ 1 1 [.string d.1, .int .u64 d.2] (by decide) rfl
    (by
      intro j u hu
      rw [Addr.add_lit]
      show (w2.alloc _).cell? _ = _
      rw [cell_new rfl, Nat.zero_add]
      simpa using hu)
    (by intro u hu; simp at hu; rcases hu with rfl | rfl <;> rfl) (by unfold maxLen; omega) (by omega)
  refine ⟨v', w', hrun, ?_, ?_, ?_⟩
  · rw [flat_append]; exact r1
  · exact (((Chg.refl (fun k => v.ownBlock = some k) w2).alloc _).drew).tr r2
  · rcases r3 with ⟨g, off, cap, rfl, rfl⟩ | ⟨g, cap, rfl, h2⟩
    · intro k hk; exact .inl (by simpa [vblk] using hk)
    · intro k hk
      simp [vblk] at hk
      simp at h2
      exact .inr (by omega)

/-- What add leaves. T: the order, the latest resolutions, the stamp that it hands back. -/
def AddPost (w : World) (lb o : Nat) (mv ov : Value) (cnt : Nat) (T : List Dbt × Latest × Int) (e : Ending) (w' : World) : Prop :=
  e = .returned (.int .u64 T.2.2) ∧ ∃ mv' ov' nf', LogAt w' lb o mv' ov' T.2.1 nf' T.1 (cnt + 1) ∧
    (∀ k ∈ vblk mv' ++ vblk ov', k ∈ vblk mv ++ vblk ov ∨ w.heap.size ≤ k) ∧ Chg (fun k => k = lb ∨ k ∈ vblk mv ++ vblk ov) w w' ∧ KeepS lb (fun x => x = o ∨ x = o + 1 ∨ x = o + 2) w w'

set_option maxRecDepth 100000 in
set_option maxHeartbeats 4000000 in
theorem add_calls {w : World} {lb o : Nat} {mv ov : Value} {f : Latest} {nf : Nat} {ord : List Dbt} {cnt : Nat} (h : LogAt w lb o mv ov f nf ord cnt) (hcnt : cnt < 1000000000) (hol : ord.length < 1000000000) (t : ByteArray) (kd st : Int) :
    Calls Try.prog 30 #[.pointer (some ⟨lb, o, none⟩), .agg #[.int .u8 kd, .string t, .int .u64 st]] w
      (AddPost w lb o mv ov cnt (trimF (ord ++ [(t, (cnt : Int) + 1)]) (upd f t (some ((cnt : Int) + 1, kd, st))) 0)) := by
  obtain ⟨T, hT⟩ : ∃ T, T = trimF (ord ++ [(t, (cnt : Int) + 1)]) (upd f t (some ((cnt : Int) + 1, kd, st))) 0 := ⟨_, rfl⟩
  rw [← hT]
  have HT : Hid (trimF (ord ++ [(t, (cnt : Int) + 1)]) (upd f t (some ((cnt : Int) + 1, kd, st))) 0 = T) := hT.symm
  clear hT
  have hlb := h.lb_lt
  have h0 := h.c0
  have h1 := h.c1
  have h2 := h.c2
  have f0 := h.f0
  have f1 := h.f1
  have f2 := h.f2
  obtain ⟨ao, oc, hov⟩ := h.row.len
  rw [hov] at h1
  go_enter Try.func30, Try.ntmps30
  have hmvf : ∃ mo, mv = .map mo := by
    rcases h.map with ⟨rfl, _⟩ | ⟨r, rfl, _⟩
    · exact ⟨_, rfl⟩
    · exact ⟨_, rfl⟩
  obtain ⟨mo, hmo⟩ := hmvf
  have h0' := h0
  rw [hmo] at h0'
  have hen : ∀ w : World, (binOp .eql 55 (.map mo) (.map none)).run Try.prog w = .ok (.bool mo.isNone) w := fun w => run_eql_map_nil Try.underlying55 mo w
  have Hmo : Hid (mv = .map mo) := hmo
  clear h0 hmo
  go_upto_if 11 with fail
  go_cut [10] (fun _ wx => ∃ r, Pre0 w wx lb o w.heap.size r mv ov f nf ord cnt t kd st)
  case first =>
    cases mo with
    | none =>
      have hmo' := Hmo.out
      subst hmo'
      obtain ⟨_, rfl, rfl⟩ | ⟨r, hr, _⟩ := h.map
      · have hP := pre0_nil h t kd st
        have hmm := @run_makeMap Try.prog
        simp only [Option.isNone_none]
        go_wp2
        go_meet
        exact ⟨_, hP⟩
      · simp at hr
    | some r =>
      have hmo' := Hmo.out
      subst hmo'
      have hP := pre0_live h t kd st
      simp only [Option.isNone_some]
      go_wp2
      go_meet
      exact ⟨_, hP⟩
  case rest =>
    obtain ⟨r, hP0⟩ := hcut
    have hP := hP0.count hlb
    have y2 := hP0.log.c2
    have y3 := hP0.log.f2
    clear h0' h1 h2 f0 f1 f2 hen
    obtain ⟨w1, hw1⟩ : ∃ w1, wc.setCell ⟨lb, o + 2, none⟩ (.int .u64 ((cnt : Int) + 1)) = w1 := ⟨_, rfl⟩
    rw [hw1] at hP
    go_wp2
    clear hw1 y2 y3 hP0
    have hlog := hP.log
    have d0 := hlog.c0
    have d1 := hlog.c1
    rw [hov] at d1
    have d2 : w1.cell? ⟨lb, o + 2, none⟩ = some (.int .u64 ((cnt : Int) + 1)) := hlog.c2
    have d3 := hP.e0
    have d4 := hP.e1
    have d5 := hP.e2
    obtain ⟨es, clock, hbk, R, hsz⟩ := hlog.mapAt
    obtain ⟨es2, clock2, hup, R2, hs2⟩ := R.store (w := w1.drew) (b := r) (P := Try.prog) (t := 55) (kt := 9) (et := 84) hbk Try.underlying55 Try.underlying9 t ((cnt : Int) + 1, kd, st)
    have hc2 : Chg (fun k => k = r) w1 (setBlock w1.drew r (.map es2 clock2)) := ((Chg.refl (fun k => k = r) w1).drew).setBlock (fun _ => rfl) _
    have hbk2 : (setBlock w1.drew r (.map es2 clock2)).heap[r]? = some (.map es2 clock2) := heap_setBlock (w := w1.drew) (Array.getElem?_eq_some_iff.1 hbk).1 _
    generalize setBlock w1.drew r (.map es2 clock2) = w2 at hup hc2 hbk2
    have hlog2 := hlog.setMap hc2 ⟨es2, clock2, hbk2, R2, rfl⟩
    simp only [outV] at hup
    have hnbs : w.heap.size < w1.heap.size := World.block_lt_of_cell? w1 _ d3
    have hsz2 := hc2.size
    have g3 := hc2.cell d3 (by have := hP.nbr; simpa using this)
    have g4 := hc2.cell d4 (by have := hP.nbr; simpa using this)
    have g5 := hc2.cell d5 (by have := hP.nbr; simpa using this)
    have g1 := hlog2.c1
    rw [hov] at g1
    have g2 : w2.cell? ⟨lb, o + 2, none⟩ = some (.int .u64 ((cnt : Int) + 1)) := hlog2.c2
    have hlb2 : lb < w2.heap.size := hlog2.lb_lt
    have hnb2 : w.heap.size < w2.heap.size := by omega
    have hap := add_append w2 ov ord (t, (cnt : Int) + 1) hlog2.row hol
    rw [hov] at hap
    generalize hRdef : (fun (v' : Value) (w' : World) => SliceAt w' v' 2 (ord.length + 1) (flat (ord ++ [(t, (cnt : Int) + 1)])) ∧ Chg (fun k => (Value.slice ao ord.length oc).ownBlock = some k) w2 w' ∧ ∀ k ∈ vblk v', k ∈ vblk (Value.slice ao ord.length oc) ∨ w2.heap.size ≤ k) = R0
    have hap' : ∃ v' w', (Builtin.append_ #[56, 56] 56 #[.slice ao ord.length oc, .slice (some ⟨w2.heap.size, 0, none⟩) 1 1]).run Try.prog (w2.alloc (.cells #[.string t, .int .u64 ((cnt : Int) + 1)] 94)).drew = .ok v' w' ∧ R0 v' w' := by rw [← hRdef]; exact hap
    have hR : ∀ v' w', R0 v' w' → ∃ a' c', v' = .slice a' (ord.length + 1) c' ∧ w'.cell? ⟨lb, o + 1, none⟩ = some (.slice ao ord.length oc) ∧ w'.frozen? ⟨lb, o + 1, none⟩ = false := by
      intro v' w' hr
      rw [← hRdef] at hr
      obtain ⟨q1, q2, q3⟩ := hr
      obtain ⟨a', c', rfl⟩ := q1.len
      have hnF : ¬ (Value.slice ao ord.length oc).ownBlock = some lb := fun e => hlog2.nel lb (List.mem_append.2 (.inr (by rw [hov]; exact vblk_own e))) rfl
      exact ⟨a', c', rfl, (q2.cells hlb2 hnF _).trans g1, (q2.frozens hlb2 hnF _).trans hlog2.f1⟩
    have HRd := hRdef
    have HRd' : Hid ((fun (v' : Value) (w' : World) => SliceAt w' v' 2 (ord.length + 1) (flat (ord ++ [(t, (cnt : Int) + 1)])) ∧ Chg (fun k => (Value.slice ao ord.length oc).ownBlock = some k) w2 w' ∧ ∀ k ∈ vblk v', k ∈ vblk (Value.slice ao ord.length oc) ∨ w2.heap.size ≤ k) = R0) := HRd
    clear hbk hbk2 R R2 hs2 hsz hap HRd hRdef
    go_region
    go_wp2
    go_cut [51] (fun _ wx => ∃ a' c' w', R0 (.slice a' (ord.length + 1) c') w' ∧ wx = w'.setCell ⟨lb, o + 1, none⟩ (.slice a' (ord.length + 1) c'))
    case first =>
      go_region_law (refine step_append_at rfl (.tmp 42) (.tmp 50) 56 rfl (.slice ao ord.length oc) (.slice (some ⟨w2.heap.size, 0, none⟩) 1 1) (by simp [Act.eval]) (by simp [Act.eval]) R0 hap' ?_; intro v' w' hr; obtain ⟨a', c', rfl, hcc1, hff1⟩ := hR v' w' hr)
      all_goals
        go_wp2
        go_meet
        exact ⟨_, _, _, ‹R0 _ _›, rfl⟩
    case rest =>
      obtain ⟨a', c', w3, hr3, rfl⟩ := hcut
      clear d0 d1 d2 d3 d4 d5 g1 g2 g3 g4 g5 hup hap' hR
      rw [← HRd'.out] at hr3
      obtain ⟨q1, q2, q3⟩ := hr3
      clear HRd'
      have hovb : ∀ k ∈ vblk ov, k < w.heap.size := hP.nbo
      have hrl : r ≠ lb := hlog2.nel r (by simp [vblk])
      have hb4 : ∀ k ∈ vblk (Value.slice a' (ord.length + 1) c'), k ≠ lb ∧ k ≠ r := by
        intro k hk
        rcases q3 k hk with hk | hk
        · rw [← hov] at hk
          exact ⟨hlog2.nel k (List.mem_append.2 (.inr hk)), fun e => hlog2.nem r (by simp [vblk]) (by rw [← e]; exact hk)⟩
        · have := hlog2.mapAt.lt; omega
      have hnF : ¬ (Value.slice ao ord.length oc).ownBlock = some lb := fun e => hlog2.nel lb (List.mem_append.2 (.inr (by rw [hov]; exact vblk_own e))) rfl
      have hnR : ¬ (Value.slice ao ord.length oc).ownBlock = some r := fun e => hlog2.nem r (by simp [vblk]) (by rw [hov]; exact vblk_own e)
      have hc3 := q2.cells hlb2 hnF
      have hf3 := q2.frozens hlb2 hnF
      have hl3 : LogAt (w3.setCell ⟨lb, o + 1, none⟩ (.slice a' (ord.length + 1) c')) lb o (.map (some r)) (.slice a' (ord.length + 1) c') (upd f t (some ((cnt : Int) + 1, kd, st))) es2.size (ord ++ [(t, (cnt : Int) + 1)]) (cnt + 1) :=
        mkLog ((hc3 _).trans hlog2.c0) ((hc3 _).trans hlog2.c1) ((hc3 _).trans hlog2.c2) ((hf3 _).trans hlog2.f0) ((hf3 _).trans hlog2.f1) ((hf3 _).trans hlog2.f2) (hlog2.mapAt.kept q2 hnR) hrl (by rw [List.length_append]; exact q1) hb4
      have hrn : r ∈ vblk mv ++ vblk ov ∨ w.heap.size ≤ r := by
        rcases hP.rnew with h' | h'
        · exact .inl (List.mem_append.2 (.inl h'))
        · exact .inr h'
      have hc4 : Chg (fun k => k = lb ∨ k ∈ vblk mv ++ vblk ov) w (w3.setCell ⟨lb, o + 1, none⟩ (.slice a' (ord.length + 1) c')) := by
        refine Chg.setCell ?_ (a := ⟨lb, o + 1, none⟩) (fun _ => .inl rfl) _
        refine Chg.trans ((hP.chg.mono (G := fun k => k = lb ∨ k ∈ vblk mv ++ vblk ov) (fun k _ e => .inl e)).trans hc2 ?_) q2 ?_
        · intro k hk e
          subst e
          rcases hrn with h' | h'
          · exact .inr h'
          · omega
        · intro k hk e
          exact .inr (List.mem_append.2 (.inr (by rw [hov]; exact vblk_own e)))
      have hk4 : KeepS lb (fun x => x = o ∨ x = o + 1 ∨ x = o + 2) w (w3.setCell ⟨lb, o + 1, none⟩ (.slice a' (ord.length + 1) c')) :=
        ((((hP.keep.mono (fun x e => by omega)).chg hc2 (by omega) (Ne.symm hrl)).chg q2 hlb2 hnF)).setCell (a := ⟨lb, o + 1, none⟩) (fun _ _ => .inr (.inl rfl)) _
      have hbn : ∀ k ∈ vblk (Value.slice a' (ord.length + 1) c'), k ∈ vblk mv ++ vblk ov ∨ w.heap.size ≤ k := by
        intro k hk
        rcases q3 k hk with h' | h'
        · exact .inl (List.mem_append.2 (.inr (by rw [hov]; exact h')))
        · exact .inr (by omega)
      generalize w3.setCell ⟨lb, o + 1, none⟩ (.slice a' (ord.length + 1) c') = w4 at hl3 hc4 hk4 ⊢
      have hord1 : (ord ++ [(t, (cnt : Int) + 1)]).length ≤ 1000000000 := by simp; omega
      clear q1 q2 q3 hc2 hlog2 hlog hP hsz2 hlb2 hnb2 hnbs hc3 hf3 h
      go_wp2
      go_loopg [5] (ord ++ [(t, (cnt : Int) + 1)]).length (fun gg sv wr => ∃ (g : Int) (ord' : List Dbt) (f' : Latest) (nf' : Nat) (ov' : Value), sv = .int .u64 g ∧ ord'.length ≤ gg ∧ ord'.length ≤ 1000000000 ∧ LogAt wr lb o (.map (some r)) ov' f' nf' ord' (cnt + 1) ∧
          (∀ k ∈ vblk ov', k ∈ vblk mv ++ vblk ov ∨ w.heap.size ≤ k) ∧ Chg (fun k => k = lb ∨ k ∈ vblk mv ++ vblk ov) w wr ∧ KeepS lb (fun x => x = o ∨ x = o + 1 ∨ x = o + 2) w wr ∧ Hid (trimF ord' f' g = T))
      case atStart => exact ⟨0, _, _, _, _, rfl, Nat.le_refl _, hord1, hl3, hbn, hc4, hk4, HT⟩
      case round =>
        clear hl3 hc4 hk4 hbn
        obtain ⟨g, ord', f', nf', ov', rfl, hgg, hsm, hL, hB, hC, hK, HE⟩ := hrel
        obtain ⟨ao', oc', hov'⟩ := hL.row.len
        have k0 := hL.c0
        have k1 := hL.c1
        rw [hov'] at k1
        by_cases hlen : ord'.length ≤ 10000
        · have b1 : ¬ (10000 : Int) < (ord'.length : Int) := by omega
          go_wp2
          go_ret
          have HE' := HE.out
          rw [trim_stop hlen] at HE'
          subst HE'
          rw [← hov]
          refine ⟨rfl, .map (some r), ov', nf', hL, ?_, hC, hK⟩
          intro k hk
          rcases List.mem_append.1 hk with hk | hk
          · simp [vblk] at hk
            subst hk
            exact hrn
          · exact hB k hk
        · have hne : ord' ≠ [] := by intro e; rw [e] at hlen; simp at hlen
          obtain ⟨old, rest, rfl⟩ := List.exists_cons_of_ne_nil hne
          have hlr : rest.length + 1 = (old :: rest).length := by simp
          rcases hL.row with ⟨_, h', _⟩ | ⟨g0, off, cap', hform, hgs, hcm, hrow⟩
          · simp at h'
          subst hform
          have e0 := hrow.cell 0 (.string old.1) (by simp [flat])
          have e1 := hrow.cell 1 (.int .u64 old.2) (by simp [flat])
          have hle := hrow.le
          have z0 := hrow.free 0 (by omega)
          have z1 := hrow.free 1 (by omega)
          rw [Nat.add_zero] at e0 z0
          have k1' : wr.cell? ⟨lb, o + 1, none⟩ = some (.slice (some ⟨g0, off, none⟩) (rest.length + 1) cap') := hL.c1
          clear k1 hov'
          have hlbw := hL.lb_lt
          have k1f := hL.f1
          have hgl : ¬ g0 = lb := hL.nel g0 (by simp [vblk])
          have hgl' : ¬ lb = g0 := fun e => hgl e.symm
          have b1 : (10000 : Int) < ((rest.length : Int) + 1) := by simp at hlen; omega
          have b3 : (1 : Int) ≤ (cap' : Int) := by omega
          have b4 : ¬ cap' = 1 := by simp at hlen; omega
          have hlk0 := fun q => (hL.mapAt.kept (F := fun _ => False) (((Chg.refl _ wr).alloc (.cells #[.string old.1, .int .u64 old.2] 94)).drewN q) (fun x => x)).look1 (P := Try.prog) (t := 55) (kt := 9) (et := 84) Try.underlying55 Try.underlying9 (zero84 _) old.1
          obtain ⟨⟨xn, xk, xs⟩, hx⟩ : ∃ x : Outc, x = (f' old.1).getD (0, 0, 0) := ⟨_, rfl⟩
          have hlk : ∀ q, (Instr.lookup 55 (.map (some r)) (.string old.1) false).run Try.prog ((wr.alloc (.cells #[.string old.1, .int .u64 old.2] 94)).drewN q) = .ok (.agg #[.int .u64 xn, .int .u8 xk, .int .u64 xs]) ((wr.alloc (.cells #[.string old.1, .int .u64 old.2] 94)).drewN q) := by
            intro q
            rw [hlk0 q]
            rw [outV_getD, ← hx]; rfl
          have HN : Hid (nOf (f' old.1) = xn) := by show _ = _; rw [nOf_getD, ← hx]
          have HS : Hid (stOf (f' old.1) = xs) := by show _ = _; rw [stOf_getD, ← hx]
          clear hlk0 hx hlr hne
          have hfd0 := field84_0
          have hfd2 := field84_2
          have hLa : ∀ q, LogAt ((wr.alloc (.cells #[.string old.1, .int .u64 old.2] 94)).drewN q) lb o (.map (some r)) (.slice (some ⟨g0, off, none⟩) (old :: rest).length cap') f' nf' (old :: rest) (cnt + 1) := fun q =>
            hL.frame (F := fun _ => False) (((Chg.refl _ wr).alloc _).drewN q) (fun x => x) (fun _ _ x => x) (fun _ _ x => x)
          have hCa : ∀ q, Chg (fun k => k = lb ∨ k ∈ vblk mv ++ vblk ov) w ((wr.alloc (.cells #[.string old.1, .int .u64 old.2] 94)).drewN q) := fun q => (hC.alloc _).drewN q
          have hKa : ∀ q, KeepS lb (fun x => x = o ∨ x = o + 1 ∨ x = o + 2) w ((wr.alloc (.cells #[.string old.1, .int .u64 old.2] 94)).drewN q) := fun q => (hK.alloc hlbw _).drewN q
          have hB' : g0 ∈ vblk mv ++ vblk ov ∨ w.heap.size ≤ g0 := hB g0 (by simp [vblk])
          have hsm' : rest.length ≤ 1000000000 := by simp at hsm; omega
          by_cases hhit : xn = old.2
          · have b2 : (xn == old.2) = true := by simpa using hhit
            go_wp2
            go_quiet (fail)
            go_wp2
            have hLq := hLa nq
            have hCq := hCa nq
            have hKq := hKa nq
            have hn0 : ((wr.alloc (.cells #[.string old.1, .int .u64 old.2] 94)).drewN nq).cell? ⟨wr.heap.size, 0, none⟩ = some (.string old.1) := by
              show (wr.alloc _).cell? _ = _
              rw [cell_new rfl]; rfl
            have hlkq : ∀ q, (Instr.lookup 55 (.map (some r)) (.string old.1) false).run Try.prog (((wr.alloc (.cells #[.string old.1, .int .u64 old.2] 94)).drewN nq).drewN q) = .ok (.agg #[.int .u64 xn, .int .u8 xk, .int .u64 xs]) (((wr.alloc (.cells #[.string old.1, .int .u64 old.2] 94)).drewN nq).drewN q) := fun q => by
              rw [World.drewN_drewN]; exact hlk (nq + q)
            clear hLa hCa hKa hlk e0 e1 z0 z1 k0 k1' k1f
            generalize (wr.alloc (.cells #[.string old.1, .int .u64 old.2] 94)).drewN nq = wq at hLq hCq hKq hn0 hlkq ⊢
            have m0 := hLq.c0
            go_cut [5] (fun sv wx => sv = .int .u64 (max g xs) ∧ ∃ q, wx = wq.drewN q)
            case first =>
              go_quiet (fail)
              go_wp2
              all_goals
                go_meet
                refine ⟨?_, nq, rfl⟩
                rw [Int.max_def]
                split <;> first | rfl | (exfalso; omega) | (congr 1; omega)
            case rest =>
              obtain ⟨rfl, q2, rfl⟩ := hcut
              have hLp := hLq.drewN q2
              have hCp := hCq.drewN q2
              have hKp := hKq.drewN q2
              have hp0 : (wq.drewN q2).cell? ⟨wr.heap.size, 0, none⟩ = some (.string old.1) := hn0
              clear hLq hCq hKq hn0 hlkq m0
              generalize wq.drewN q2 = wp at hLp hCp hKp hp0 ⊢
              go_wp2
              have m0 := hLp.c0
              have m1 : wp.cell? ⟨lb, o + 1, none⟩ = some (.slice (some ⟨g0, off, none⟩) (rest.length + 1) cap') := hLp.c1
              have m2 := hLp.f1
              obtain ⟨es3, clock3, hbk3, R3, hsz3⟩ := hLp.mapAt
              obtain ⟨es4, hdel, R4, hs4⟩ := R3.drop (w := wp.drew) (b := r) (P := Try.prog) (t := 55) (kt := 9) (et := 84) (ty := 0) hbk3 Try.underlying55 Try.underlying9 old.1
              have hc4 : Chg (fun k => k = r) wp (setBlock wp.drew r (.map es4 clock3)) := ((Chg.refl (fun k => k = r) wp).drew).setBlock (fun _ => rfl) _
              have hbk4 : (setBlock wp.drew r (.map es4 clock3)).heap[r]? = some (.map es4 clock3) := heap_setBlock (w := wp.drew) (Array.getElem?_eq_some_iff.1 hbk3).1 _
              generalize setBlock wp.drew r (.map es4 clock3) = w5 at hdel hc4 hbk4
              have hL5 := hLp.setMap hc4 ⟨es4, clock3, hbk4, R4, rfl⟩
              have hC5 : Chg (fun k => k = lb ∨ k ∈ vblk mv ++ vblk ov) w w5 := hCp.trans hc4 (fun k hk e => by subst e; rcases hrn with h' | h'; exact .inr h'; omega)
              have hK5 : KeepS lb (fun x => x = o ∨ x = o + 1 ∨ x = o + 2) w w5 := hKp.chg hc4 hLp.lb_lt (Ne.symm hrl)
              have p1 : w5.cell? ⟨lb, o + 1, none⟩ = some (.slice (some ⟨g0, off, none⟩) (rest.length + 1) cap') := hL5.c1
              have p2 := hL5.f1
              rcases hL5.row with ⟨h', _⟩ | ⟨g1, off1, cap1, hform1, _, _, hrow5⟩
              · simp at h'
              simp only [Value.slice.injEq, Option.some.injEq, Addr.mk.injEq, and_true, true_and] at hform1
              obtain ⟨⟨rfl, rfl⟩, rfl⟩ := hform1
              have e0 := hrow5.cell 0 (.string old.1) (by simp [flat])
              have e1 := hrow5.cell 1 (.int .u64 old.2) (by simp [flat])
              have z0 := hrow5.free 0 (by omega)
              have z1 := hrow5.free 1 (by omega)
              rw [Nat.add_zero] at e0 z0
              clear R3 R4 hs4 hsz3 hbk3 hbk4 hLp hCp hKp
              go_cut [6] (fun sv wx => sv = .pointer (some ⟨wr.heap.size, 0, none⟩) ∧ wx = w5)
              case first =>
                go_region_law (refine step_delete rfl (.tmp 90) (.tmp 92) 55 9 rfl (.map (some r)) (.string old.1) (by simp [Act.eval]) (by simp [Act.eval]) w5 hdel ?_)
                all_goals
                  go_wp2
                  go_meet
                  exact ⟨rfl, rfl⟩
              case rest =>
                obtain ⟨rfl, rfl⟩ := hcut
                go_wp2
                go_roundg rest.length
                case measure => simp at hgg; omega
                case rel =>
                  obtain ⟨s1, s2, s3⟩ := log_shift hL5
                  refine ⟨_, rest, upd f' old.1 none, _, _, rfl, Nat.le_refl _, hsm', s1, ?_, ?_, ?_, ?_⟩
                  · intro k hk; simp [vblk] at hk; subst hk; exact hB'
                  · exact hC5.trans s2 (fun k hk e => by rcases e with e | e; exact .inl e; subst e; rcases hB' with h' | h'; exact .inr h'; omega)
                  · exact hK5.trans (s3.mono (fun x e => .inr (.inl e)))
                  · refine Eq.trans ?_ ((trim_hit hlen (by rw [HN.out]; exact hhit)).symm.trans HE.out)
                    rw [HS.out]
          · have b2 : (xn == old.2) = false := by simpa using hhit
            go_wp2
            go_quiet (fail)
            go_wp2
            go_roundg rest.length
            case measure => simp at hgg; omega
            case rel =>
              obtain ⟨s1, s2, s3⟩ := log_shift (hLa nq)
              refine ⟨g, rest, f', nf', _, rfl, Nat.le_refl _, hsm', s1, ?_, ?_, ?_, ?_⟩
              · intro k hk; simp [vblk] at hk; subst hk; exact hB'
              · exact (hCa nq).trans s2 (fun k hk e => by rcases e with e | e; exact .inl e; subst e; rcases hB' with h' | h'; exact .inr h'; omega)
              · exact (hKa nq).trans (s3.mono (fun x e => .inr (.inl e)))
              · exact (trim_miss hlen (by rw [HN.out]; exact hhit)).symm.trans HE.out
end Go.Proofs.Qxb6616074a
