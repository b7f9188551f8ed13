/-
  OWN TEXT. (*ledger).apply, the other kinds.
-/
import Derived.Test.Qxb6616074aApply
import Derived.Test.Qxb6616074aAdd
namespace Go.Proofs.Qxb6616074a
open Go.RowKit Go.MapKept Go.ChangeMaps

theorem led_drop {w w' : World} {lb : Nat} {F : List Nat} {L : Led} (h : LedS w lb F L) {hs' : List Dbt}
    (hx : ∀ D, DoubtsAt w lb D L.hs → DoubtsAt w' lb D hs' ∧ Chg (fun k => k = lb ∨ k ∈ D) w w' ∧ KeepS lb (fun o => o = 0) w w') :
    ∃ F', LedS w' lb F' { L with hs := hs' } ∧ Stp lb F w F' w' := by
  obtain ⟨D, uv, nu, amv, aov, na, cmv, cov, nc, h, rfl⟩ := h
  obtain ⟨h1, h2, h3⟩ := hx D h.dbt
  exact led_hold h h1 (fun k hk => .inl hk) h2 (h3.mono (fun o e => .inl e))

/-- 'drop' over the whole ledger -/
theorem drop_led {w : World} {lb : Nat} {F : List Nat} {L : Led} (h : LedS w lb F L) (t : ByteArray) :
    Calls Try.prog 31 #[.pointer (some ⟨lb, 0, none⟩), .string t] w fun e w' => e = .returned (.tuple #[]) ∧ ∃ F', LedS w' lb F' { L with hs := dropF L.hs t } ∧ Stp lb F w F' w' := by
  obtain ⟨D, uv, nu, amv, aov, na, cmv, cov, nc, h, rfl⟩ := h
  refine (drop_calls h.dbt t).mono ?_
  rintro e w' ⟨rfl, h1, h2, h3⟩
  exact ⟨rfl, led_hold h h1 (fun k hk => .inl hk) h2 (h3.mono (fun o e => .inl e))⟩

theorem LedS.drew {w : World} {lb : Nat} {F : List Nat} {L : Led} (h : LedS w lb F L) : LedS w.drew lb F L := h.frame (G := fun _ => False) ((Chg.refl _ w).drew) (fun x => x) (fun _ _ x => x)
theorem Stp.drew {w : World} {lb : Nat} {F : List Nat} : Stp lb F w F w.drew := ⟨(Chg.refl _ w).drew, fun _ h => .inl h⟩

set_option maxRecDepth 100000 in
set_option maxHeartbeats 2000000 in
theorem apply_0 {w : World} {lb : Nat} {F : List Nat} {L : Led} (h : LedS w lb F L) (kd : Int) (n1 : kd ≠ 1) (n2 : kd ≠ 2) (n3 : kd ≠ 3) (n4 : kd ≠ 4) (n5 : kd ≠ 5) (t : ByteArray) (s : Int) :
    Calls Try.prog 21 #[.pointer (some ⟨lb, 0, none⟩), .agg #[.int .u8 kd, .string t, .int .u64 s]] w (ApplyPost w lb F { L with hs := dropF L.hs t }) := by
  have hlb := h.lb_lt
  have b1 : (kd == 1) = false := by simpa using n1
  have b2 : (kd == 2) = false := by simpa using n2
  have b3 : (kd == 3) = false := by simpa using n3
  have b4 : (kd == 4) = false := by simpa using n4
  have b5 : (kd == 5) = false := by simpa using n5
  obtain ⟨w0, hw0⟩ : ∃ w0, w.alloc (.cells #[.int .u8 kd, .string t, .int .u64 s] 65) = w0 := ⟨_, rfl⟩
  have hc0 : Chg (fun _ => False) w w0 := by rw [← hw0]; exact chg_alloc _ _ _
  have e0 : w0.cell? ⟨w.heap.size, 0, none⟩ = some (.int .u8 kd) := by rw [← hw0, cell_new rfl]; rfl
  have e1 : w0.cell? ⟨w.heap.size, 1, none⟩ = some (.string t) := by rw [← hw0, cell_new rfl]; rfl
  have h0 : LedS w0 lb F L := h.frame hc0 (fun x => x) (fun _ _ x => x)
  go_enter Try.func21, Try.ntmps21
  go_wp2
  clear hw0
  go_region_with (go_at_call 31; refine (drop_led h0.drew t).mono ?_; rintro e w' ⟨rfl, F', q1, q2⟩)
  all_goals
    go_wp2
    go_end0
    exact ⟨rfl, F', q1, (Stp.of_chg hc0).trans (Stp.drew.trans q2)⟩

/-- add onto the log of aborts, over the whole ledger -/
def addT (S : LogS) (kd : Int) (t : ByteArray) (s : Int) : List Dbt × Latest × Int := trimF (S.order ++ [(t, (S.count : Int) + 1)]) (upd S.latest t (some ((S.count : Int) + 1, kd, s))) 0
def addS (S : LogS) (kd : Int) (t : ByteArray) (s : Int) : LogS := ⟨(addT S kd t s).2.1, (addT S kd t s).1, S.count + 1⟩

theorem add_ab {w : World} {lb : Nat} {F : List Nat} {L : Led} (h : LedS w lb F L) (hc : L.ab.count < 1000000000) (ho : L.ab.order.length < 1000000000) (t : ByteArray) (kd s : Int) :
    Calls Try.prog 30 #[.pointer (some ⟨lb, 3, none⟩), .agg #[.int .u8 kd, .string t, .int .u64 s]] w fun e w' => e = .returned (.int .u64 (addT L.ab kd t s).2.2) ∧
      (∃ F', LedS w' lb F' { L with ab := addS L.ab kd t s } ∧ Stp lb F w F' w') ∧ w'.cell? ⟨lb, 9, none⟩ = some (.int .u64 L.fg) ∧ w'.frozen? ⟨lb, 9, none⟩ = false := by
  obtain ⟨D, uv, nu, amv, aov, na, cmv, cov, nc, h, rfl⟩ := h
  refine (add_calls h.abo hc ho t kd s).mono ?_
  rintro e w' ⟨rfl, mv', ov', nf', q1, q2, q3, q4⟩
  refine ⟨rfl, ⟨_, ⟨D, uv, nu, mv', ov', nf', cmv, cov, nc, h.setAb (S := addS L.ab kd t s) q1 q2 q3 q4, rfl⟩, ⟨q3.mono (fun k _ e => ?_), fun k hk => ?_⟩⟩, (q4.cell _ (by omega)).trans h.c9, (q4.frozen _).trans h.f9⟩
  · rcases e with e | e
    · exact .inl e
    · refine .inr ?_
      simp only [List.mem_append] at e ⊢
      exact .inl (.inr e)
  · simp only [List.mem_append] at hk ⊢
    rcases hk with ((hk | hk) | hk) | hk
    · exact .inl (.inl (.inl (.inl hk)))
    · exact .inl (.inl (.inl (.inr hk)))
    · rcases q2 k (List.mem_append.2 hk) with h' | h'
      · exact .inl (.inl (.inr (List.mem_append.1 h')))
      · exact .inr h'
    · exact .inl (.inr hk)

theorem add_cm {w : World} {lb : Nat} {F : List Nat} {L : Led} (h : LedS w lb F L) (hc : L.cm.count < 1000000000) (ho : L.cm.order.length < 1000000000) (t : ByteArray) (kd s : Int) :
    Calls Try.prog 30 #[.pointer (some ⟨lb, 6, none⟩), .agg #[.int .u8 kd, .string t, .int .u64 s]] w fun e w' => e = .returned (.int .u64 (addT L.cm kd t s).2.2) ∧
      (∃ F', LedS w' lb F' { L with cm := addS L.cm kd t s } ∧ Stp lb F w F' w') ∧ w'.cell? ⟨lb, 9, none⟩ = some (.int .u64 L.fg) ∧ w'.frozen? ⟨lb, 9, none⟩ = false := by
  obtain ⟨D, uv, nu, amv, aov, na, cmv, cov, nc, h, rfl⟩ := h
  refine (add_calls h.com hc ho t kd s).mono ?_
  rintro e w' ⟨rfl, mv', ov', nf', q1, q2, q3, q4⟩
  refine ⟨rfl, ⟨_, ⟨D, uv, nu, amv, aov, na, mv', ov', nf', h.setCm (S := addS L.cm kd t s) q1 q2 q3 q4, rfl⟩, ⟨q3.mono (fun k _ e => ?_), fun k hk => ?_⟩⟩, (q4.cell _ (by omega)).trans h.c9, (q4.frozen _).trans h.f9⟩
  · rcases e with e | e
    · exact .inl e
    · refine .inr ?_
      simp only [List.mem_append] at e ⊢
      exact .inr e
  · simp only [List.mem_append] at hk ⊢
    rcases hk with ((hk | hk) | hk) | hk
    · exact .inl (.inl (.inl (.inl hk)))
    · exact .inl (.inl (.inl (.inr hk)))
    · exact .inl (.inl (.inr hk))
    · rcases q2 k (List.mem_append.2 hk) with h' | h'
      · exact .inl (.inr (List.mem_append.1 h'))
      · exact .inr h'

theorem LedS.setFg {w : World} {lb : Nat} {F : List Nat} {L : Led} (h : LedS w lb F L) (g : Int) : LedS (w.setCell ⟨lb, 9, none⟩ (.int .u64 g)) lb F { L with fg := g } ∧ Stp lb F w F (w.setCell ⟨lb, 9, none⟩ (.int .u64 g)) := by
  obtain ⟨D, uv, nu, amv, aov, na, cmv, cov, nc, h, rfl⟩ := h
  exact ⟨⟨D, uv, nu, amv, aov, na, cmv, cov, nc, h.setFg g, rfl⟩, (Chg.refl (fun k => k = lb ∨ _) w).setCell (a := ⟨lb, 9, none⟩) (fun _ => .inl rfl) _, fun _ h => .inl h⟩
theorem LedS.c9 {w : World} {lb : Nat} {F : List Nat} {L : Led} (h : LedS w lb F L) : w.cell? ⟨lb, 9, none⟩ = some (.int .u64 L.fg) ∧ w.frozen? ⟨lb, 9, none⟩ = false := by
  obtain ⟨D, uv, nu, amv, aov, na, cmv, cov, nc, h, rfl⟩ := h
  exact ⟨h.c9, h.f9⟩
theorem max_eq (a b : Int) : max a b = if a < b then b else a := by rw [Int.max_def]; split <;> split <;> omega

set_option maxRecDepth 100000 in
set_option maxHeartbeats 4000000 in
theorem apply_34 {w : World} {lb : Nat} {F : List Nat} {L : Led} (h : LedS w lb F L) (hc : L.ab.count < 1000000000) (ho : L.ab.order.length < 1000000000) (kd : Int) (hkd : kd = 3 ∨ kd = 4) (t : ByteArray) (s : Int) :
    Calls Try.prog 21 #[.pointer (some ⟨lb, 0, none⟩), .agg #[.int .u8 kd, .string t, .int .u64 s]] w
      (ApplyPost w lb F { L with ab := addS L.ab kd t s, fg := max L.fg (addT L.ab kd t s).2.2, hs := dropF L.hs t }) := by
  have hlb := h.lb_lt
  have b1 : (kd == 1) = false := by rcases hkd with rfl | rfl <;> rfl
  have b2 : (kd == 2) = false := by rcases hkd with rfl | rfl <;> rfl
  have b5 : (kd == 5) = false := by rcases hkd with rfl | rfl <;> rfl
  obtain ⟨w0, hw0⟩ : ∃ w0, w.alloc (.cells #[.int .u8 kd, .string t, .int .u64 s] 65) = w0 := ⟨_, rfl⟩
  have hc0 : Chg (fun _ => False) w w0 := by rw [← hw0]; exact chg_alloc _ _ _
  have e0 : w0.cell? ⟨w.heap.size, 0, none⟩ = some (.int .u8 kd) := by rw [← hw0, cell_new rfl]; rfl
  have e1 : w0.cell? ⟨w.heap.size, 1, none⟩ = some (.string t) := by rw [← hw0, cell_new rfl]; rfl
  have e2 : w0.cell? ⟨w.heap.size, 2, none⟩ = some (.int .u64 s) := by rw [← hw0, cell_new rfl]; rfl
  have h0 : LedS w0 lb F L := h.frame hc0 (fun x => x) (fun _ _ x => x)
  obtain ⟨c9, f9⟩ := h0.c9
  have hnF : ∀ k ∈ F, k ≠ w.heap.size := fun k hk => by have := (h.lts k hk).1; omega
  have hX : ∃ X, X = (addT L.ab kd t s).2.2 := ⟨_, rfl⟩
  obtain ⟨X, hX⟩ := hX
  have hadd := add_ab h0.drew hc ho t kd s
  rw [← hX] at hadd
  have HA : Hid (Calls Try.prog 30 #[.pointer (some ⟨lb, 3, none⟩), .agg #[.int .u8 kd, .string t, .int .u64 s]] w0.drew fun e w' => e = .returned (.int .u64 X) ∧
      (∃ F', LedS w' lb F' { L with ab := addS L.ab kd t s } ∧ Stp lb F w0.drew F' w') ∧ w'.cell? ⟨lb, 9, none⟩ = some (.int .u64 L.fg) ∧ w'.frozen? ⟨lb, 9, none⟩ = false) := hadd
  have HX : Hid (X = (addT L.ab kd t s).2.2) := hX
  clear hadd hX
  have hnb : ∀ w1 F1, Stp lb F w0.drew F1 w1 → w1.cell? ⟨w.heap.size, 1, none⟩ = some (.string t) := by
    intro w1 F1 r
    refine r.1.cell (a := ⟨w.heap.size, 1, none⟩) e1 ?_
    rintro (x | x)
    · exact Nat.lt_irrefl lb (by simp at x; omega)
    · exact hnF _ x rfl
  have hnl : ¬ lb = w.heap.size := by omega
  have hnl' : ¬ w.heap.size = lb := by omega
  by_cases hm : L.fg < X
  · have hmx : max L.fg X = X := by rw [max_eq, if_pos hm]
    have HM : Hid (max L.fg X = X) := hmx
    clear hmx
    rcases hkd with rfl | rfl
    all_goals
      go_enter Try.func21, Try.ntmps21
      go_wp2
      clear hw0
      go_region_with (go_at_call 30; refine (HA.out).mono ?_; rintro e w1 ⟨rfl, ⟨F1, r1, r2⟩, r3, r4⟩)
      all_goals
        have r5 := hnb _ _ r2
        go_wp2
        go_region_with (go_at_call 31; refine (drop_led ((r1.setFg X).1.drew) t).mono ?_; rintro e w' ⟨rfl, F', q1, q2⟩)
        all_goals
          go_wp2
          go_end0
          refine ⟨rfl, F', ?_, (Stp.of_chg hc0).trans (Stp.drew.trans (r2.trans ((r1.setFg X).2.trans (Stp.drew.trans q2))))⟩
          rw [← HX.out, HM.out]
          exact q1
  · have hmx : max L.fg X = L.fg := by rw [max_eq, if_neg hm]
    have HM : Hid (max L.fg X = L.fg) := hmx
    clear hmx
    rcases hkd with rfl | rfl
    all_goals
      go_enter Try.func21, Try.ntmps21
      go_wp2
      clear hw0
      go_region_with (go_at_call 30; refine (HA.out).mono ?_; rintro e w1 ⟨rfl, ⟨F1, r1, r2⟩, r3, r4⟩)
      all_goals
        have r5 := hnb _ _ r2
        go_wp2
        go_region_with (go_at_call 31; refine (drop_led ((r1.setFg L.fg).1.drew) t).mono ?_; rintro e w' ⟨rfl, F', q1, q2⟩)
        all_goals
          go_wp2
          go_end0
          refine ⟨rfl, F', ?_, (Stp.of_chg hc0).trans (Stp.drew.trans (r2.trans ((r1.setFg L.fg).2.trans (Stp.drew.trans q2))))⟩
          rw [← HX.out, HM.out]
          exact q1
end Go.Proofs.Qxb6616074a
