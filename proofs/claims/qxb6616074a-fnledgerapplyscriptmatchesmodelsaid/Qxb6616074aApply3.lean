/-
  OWN TEXT. (*ledger).apply: commits and releases; all kinds together.
-/
import Derived.Test.Qxb6616074aApply2
import Derived.Test.Qxb6616074aUn
namespace Go.Proofs.Qxb6616074a
open Go.RowKit Go.MapKept Go.ChangeMaps

theorem eqnil54 (r : Nat) (w : World) : (binOp .eql 54 (.map (some r)) (.map none)).run Try.prog w = .ok (.bool false) w := run_eql_map_nil Try.underlying54 (some r) w
theorem eqnil54' (w : World) : (binOp .eql 54 (.map none) (.map none)).run Try.prog w = .ok (.bool true) w := run_eql_map_nil Try.underlying54 none w

set_option maxRecDepth 100000 in
set_option maxHeartbeats 4000000 in
theorem apply_2 {w : World} {lb : Nat} {F : List Nat} {L : Led} (h : LedS w lb F L) (t : ByteArray) (s : Int) :
    Calls Try.prog 21 #[.pointer (some ⟨lb, 0, none⟩), .agg #[.int .u8 2, .string t, .int .u64 s]] w (ApplyPost w lb F { L with un := upd L.un t (some s), hs := dropF L.hs t }) := by
  have hlb := h.lb_lt
  have hnl : ¬ lb = w.heap.size := by omega
  have hnl' : ¬ w.heap.size = lb := by omega
  obtain ⟨mo, hmo, hfo⟩ := h.uv
  -- the world when the map is there
  have hW : ∃ w0 F0 r, LedS w0 lb F0 L ∧ Stp lb F w F0 w0 ∧ w0.cell? ⟨lb, 2, none⟩ = some (.map (some r)) ∧ w0.cell? ⟨w.heap.size, 0, none⟩ = some (.int .u8 2) ∧ w0.cell? ⟨w.heap.size, 1, none⟩ = some (.string t) ∧ w0.cell? ⟨w.heap.size, 2, none⟩ = some (.int .u64 s) ∧ (∀ k ∈ F0, k ≠ w.heap.size) ∧
      ((mo = none ∧ ((w.setCell ⟨lb, 2, none⟩ (.map (some (w.heap.size + 1)))).alloc (.cells #[.int .u8 2, .string t, .int .u64 s] 65)).alloc (.map #[] 0) = w0) ∨ (∃ r, mo = some r ∧ w.alloc (.cells #[.int .u8 2, .string t, .int .u64 s] 65) = w0)) := by
    cases mo with
    | none =>
      obtain ⟨F', h1, h2, h3, h4, h5⟩ := led_un_make h hmo #[.int .u8 2, .string t, .int .u64 s] 65
      exact ⟨_, F', _, h1, h2, h3, h4 0, h4 1, h4 2, h5, .inl ⟨rfl, rfl⟩⟩
    | some r =>
      have hc0 : Chg (fun _ => False) w (w.alloc (.cells #[.int .u8 2, .string t, .int .u64 s] 65)) := chg_alloc _ _ _
      refine ⟨_, F, r, h.frame hc0 (fun x => x) (fun _ _ x => x), Stp.of_chg hc0, hc0.cell hmo (fun x => x), ?_, ?_, ?_, fun k hk => ?_, .inr ⟨r, rfl, rfl⟩⟩
      · rw [cell_new rfl]; rfl
      · rw [cell_new rfl]; rfl
      · rw [cell_new rfl]; rfl
      · have := (h.lts k hk).1; omega
  obtain ⟨w0, F0, r, h0, hst0, hc2, e0, e1, e2, hnF, hor⟩ := hW
  obtain ⟨w2, hup, h2, hst2⟩ := led_un_store (w := w0.drew) h0.drew r hc2 t s
  have g1 : w2.cell? ⟨w.heap.size, 1, none⟩ = some (.string t) := by
    refine hst2.1.cell (a := ⟨w.heap.size, 1, none⟩) e1 ?_
    rintro (x | x)
    · exact hnl' x
    · exact hnF _ x rfl
  rcases hor with ⟨rfl, hw0⟩ | ⟨r', rfl, hw0⟩
  · have hen := eqnil54'
    have hmm := @run_makeMap Try.prog
    go_enter Try.func21, Try.ntmps21
    go_wp2
    clear hw0
    go_region
    go_wp2
    go_region_with (go_at_call 31; refine (drop_led h2.drew t).mono ?_; rintro e w' ⟨rfl, F', q1, q2⟩)
    all_goals
      go_wp2
      go_end0
      exact ⟨rfl, F', q1, hst0.trans (Stp.drew.trans (hst2.trans (Stp.drew.trans q2)))⟩
  · have hen := eqnil54
    go_enter Try.func21, Try.ntmps21
    go_wp2
    clear hw0
    go_region
    go_wp2
    go_region_with (go_at_call 31; refine (drop_led h2.drew t).mono ?_; rintro e w' ⟨rfl, F', q1, q2⟩)
    all_goals
      go_wp2
      go_end0
      exact ⟨rfl, F', q1, hst0.trans (Stp.drew.trans (hst2.trans (Stp.drew.trans q2)))⟩

set_option maxRecDepth 100000 in
set_option maxHeartbeats 4000000 in
theorem apply_5 {w : World} {lb : Nat} {F : List Nat} {L : Led} (h : LedS w lb F L) (hc : L.cm.count < 1000000000) (ho : L.cm.order.length < 1000000000) (t : ByteArray) (s : Int) :
    Calls Try.prog 21 #[.pointer (some ⟨lb, 0, none⟩), .agg #[.int .u8 5, .string t, .int .u64 s]] w
      (ApplyPost w lb F { L with un := upd L.un t none, cm := addS L.cm 5 t s, fg := max L.fg (addT L.cm 5 t s).2.2, hs := dropF L.hs t }) := by
  have hlb := h.lb_lt
  have hnl : ¬ lb = w.heap.size := by omega
  have hnl' : ¬ w.heap.size = lb := by omega
  have hnF : ∀ k ∈ F, k ≠ w.heap.size := fun k hk => by have := (h.lts k hk).1; omega
  obtain ⟨w0, hw0⟩ : ∃ w0, w.alloc (.cells #[.int .u8 5, .string t, .int .u64 s] 65) = w0 := ⟨_, rfl⟩
  have hc0 : Chg (fun _ => False) w w0 := by rw [← hw0]; exact chg_alloc _ _ _
  have e0 : w0.cell? ⟨w.heap.size, 0, none⟩ = some (.int .u8 5) := by rw [← hw0, cell_new rfl]; rfl
  have e1 : w0.cell? ⟨w.heap.size, 1, none⟩ = some (.string t) := by rw [← hw0, cell_new rfl]; rfl
  have e2 : w0.cell? ⟨w.heap.size, 2, none⟩ = some (.int .u64 s) := by rw [← hw0, cell_new rfl]; rfl
  have h0 : LedS w0 lb F L := h.frame hc0 (fun x => x) (fun _ _ x => x)
  obtain ⟨mo, hmo, hfo⟩ := h0.uv
  obtain ⟨w2, hdel, h2, hst2⟩ := led_un_del (w := w0.drew) h0.drew mo hmo t
  have hin : ∀ (wx : World) (F1 : List Nat), Stp lb F w0.drew F1 wx → ∀ j v, w0.cell? ⟨w.heap.size, j, none⟩ = some v → wx.cell? ⟨w.heap.size, j, none⟩ = some v := by
    intro wx F1 r j v hv
    refine r.1.cell (a := ⟨w.heap.size, j, none⟩) hv ?_
    rintro (x | x)
    · exact hnl' x
    · exact hnF _ x rfl
  have g0 := hin w2 F hst2 0 _ e0
  have g1 := hin w2 F hst2 1 _ e1
  have g2 := hin w2 F hst2 2 _ e2
  obtain ⟨c9, f9⟩ := h2.c9
  obtain ⟨X, hX⟩ : ∃ X, X = (addT L.cm 5 t s).2.2 := ⟨_, rfl⟩
  have hadd := add_cm h2.drew hc ho t 5 s
  have HA : Hid (Calls Try.prog 30 #[.pointer (some ⟨lb, 6, none⟩), .agg #[.int .u8 5, .string t, .int .u64 s]] w2.drew fun e w' => e = .returned (.int .u64 X) ∧
      (∃ F', LedS w' lb F' { L with un := upd L.un t none, cm := addS L.cm 5 t s } ∧ Stp lb F w2.drew F' w') ∧ w'.cell? ⟨lb, 9, none⟩ = some (.int .u64 L.fg) ∧ w'.frozen? ⟨lb, 9, none⟩ = false) := by rw [hX]; exact hadd
  have HX : Hid (X = (addT L.cm 5 t s).2.2) := hX
  clear hadd hX
  have hnb : ∀ w1 F1, Stp lb F w2.drew F1 w1 → w1.cell? ⟨w.heap.size, 1, none⟩ = some (.string t) := fun w1 F1 r => hin w1 F1 (hst2.trans (Stp.drew.trans r)) 1 _ e1
  by_cases hm : L.fg < X
  · have HM : Hid (max L.fg X = X) := by show _ = _; rw [max_eq, if_pos hm]
    go_enter Try.func21, Try.ntmps21
    go_wp2
    clear hw0
    go_cut [5] (fun sv wx => sv = .int .u8 5 ∧ wx = w2)
    case first =>
      go_region_law (refine step_delete rfl (.tmp 40) (.tmp 42) 54 9 rfl (.map mo) (.string t) (by simp [Act.eval]) (by simp [Act.eval]) w2 hdel ?_)
      all_goals
        go_wp2
        go_meet
        exact ⟨rfl, rfl⟩
    case rest =>
      obtain ⟨rfl, rfl⟩ := hcut
      clear hdel hmo e0 e1 e2
      go_wp2
      go_region_with (go_at_call 30; refine (HA.out).mono ?_; rintro e w1 ⟨rfl, ⟨F1, r1, r2⟩, r3, r4⟩)
      all_goals
        have r5 := hnb _ _ r2
        go_wp2
        go_region_with (go_at_call 31; refine (drop_led ((r1.setFg X).1.drew) t).mono ?_; rintro e w' ⟨rfl, F', q1, q2⟩)
        all_goals
          go_wp2
          go_end0
          refine ⟨rfl, F', ?_, (Stp.of_chg hc0).trans (Stp.drew.trans (hst2.trans (Stp.drew.trans (r2.trans ((r1.setFg X).2.trans (Stp.drew.trans q2))))))⟩
          rw [← HX.out, HM.out]
          exact q1
  · have HM : Hid (max L.fg X = L.fg) := by show _ = _; rw [max_eq, if_neg hm]
    go_enter Try.func21, Try.ntmps21
    go_wp2
    clear hw0
    go_cut [5] (fun sv wx => sv = .int .u8 5 ∧ wx = w2)
    case first =>
      go_region_law (refine step_delete rfl (.tmp 40) (.tmp 42) 54 9 rfl (.map mo) (.string t) (by simp [Act.eval]) (by simp [Act.eval]) w2 hdel ?_)
      all_goals
        go_wp2
        go_meet
        exact ⟨rfl, rfl⟩
    case rest =>
      obtain ⟨rfl, rfl⟩ := hcut
      clear hdel hmo e0 e1 e2
      go_wp2
      go_region_with (go_at_call 30; refine (HA.out).mono ?_; rintro e w1 ⟨rfl, ⟨F1, r1, r2⟩, r3, r4⟩)
      all_goals
        have r5 := hnb _ _ r2
        go_wp2
        go_region_with (go_at_call 31; refine (drop_led ((r1.setFg L.fg).1.drew) t).mono ?_; rintro e w' ⟨rfl, F', q1, q2⟩)
        all_goals
          go_wp2
          go_end0
          refine ⟨rfl, F', ?_, (Stp.of_chg hc0).trans (Stp.drew.trans (hst2.trans (Stp.drew.trans (r2.trans ((r1.setFg L.fg).2.trans (Stp.drew.trans q2))))))⟩
          rw [← HX.out, HM.out]
          exact q1

/-- (*ledger).apply as a plain function -/
def applyF (L : Led) (kd : Int) (t : ByteArray) (s : Int) : Led :=
  if kd = 1 then { L with hs := holdF L.hs t s }
  else if kd = 2 then { L with un := upd L.un t (some s), hs := dropF L.hs t }
  else if kd = 5 then { L with un := upd L.un t none, cm := addS L.cm 5 t s, fg := max L.fg (addT L.cm 5 t s).2.2, hs := dropF L.hs t }
  else if kd = 3 ∨ kd = 4 then { L with ab := addS L.ab kd t s, fg := max L.fg (addT L.ab kd t s).2.2, hs := dropF L.hs t }
  else { L with hs := dropF L.hs t }

/-- no part is larger than n -/
structure Small (L : Led) (n : Nat) : Prop where
  h : L.hs.length ≤ n
  ac : L.ab.count ≤ n
  ao : L.ab.order.length ≤ n
  cc : L.cm.count ≤ n
  co : L.cm.order.length ≤ n

theorem apply_calls {w : World} {lb : Nat} {F : List Nat} {L : Led} (h : LedS w lb F L) {n : Nat} (hs : Small L n) (hn : n < 1000000000) (kd : Int) (t : ByteArray) (s : Int) :
    Calls Try.prog 21 #[.pointer (some ⟨lb, 0, none⟩), .agg #[.int .u8 kd, .string t, .int .u64 s]] w (ApplyPost w lb F (applyF L kd t s)) := by
  have h1 := hs.h
  have h2 := hs.ac
  have h3 := hs.ao
  have h4 := hs.cc
  have h5 := hs.co
  unfold applyF
  by_cases k1 : kd = 1
  · subst k1
    rw [if_pos rfl]
    exact apply_1 h (by omega) t s
  rw [if_neg k1]
  by_cases k2 : kd = 2
  · subst k2
    rw [if_pos rfl]
    exact apply_2 h t s
  rw [if_neg k2]
  by_cases k5 : kd = 5
  · subst k5
    rw [if_pos rfl]
    exact apply_5 h (by omega) (by omega) t s
  rw [if_neg k5]
  by_cases k34 : kd = 3 ∨ kd = 4
  · rw [if_pos k34]
    exact apply_34 h (by omega) (by omega) kd k34 t s
  rw [if_neg k34]
  exact apply_0 h kd k1 k2 (fun e => k34 (.inl e)) (fun e => k34 (.inr e)) k5 t s
end Go.Proofs.Qxb6616074a
