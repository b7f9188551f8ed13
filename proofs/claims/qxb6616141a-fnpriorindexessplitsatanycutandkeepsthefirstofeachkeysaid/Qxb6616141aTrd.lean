/-
  OWN TEXT. zzEngTraces: the walk.
-/
import Derived.Test.Qxb6616141aTrc
namespace Go.Proofs.Qxb6616141a
open Go.RowKit
def TBs (w : World) (v : Value) (e : Ending) (w' : World) : Prop := e = .returned v ∧ Below w.heap.size w w' ∧ w.heap.size < w'.heap.size
theorem newTrace_strict (a b : Bool) (x : Option Addr) (n c : Nat) (w : World) : Calls Try.prog 32 #[.bool a, .bool b, .slice x n c] w (TBs w (trcV a b (.slice x n c))) := by
  go_enter Try.func32, Try.ntmps32
  go_wp2
  refine bodyPost_ret (v := trcV a b (.slice x n c)) (by simp [results, Try.results32, go_sem]) rfl ?_
  exact ⟨rfl, below_alloc _ _, by simp⟩
theorem PR.drw {w : World} {g n : Nat} {xs : Nat → E} (h : PR w g n xs) : PR w.drew g n xs := ⟨h.r, h.t⟩
section
variable {w0 wr w' : World} {g n k : Nat} {CH EN : Nat → Bool} {A : Nat → Option Addr} {L : Nat → Nat} {X : Nat → Nat → E} {EB : Nat → Nat}
theorem Trc.drew (h : Trc w0 wr g n k CH EN A L X EB) : Trc w0 wr.drew g n k CH EN A L X EB := ⟨h.m.drew, h.lo, h.hi, h.mono, fun i hi ha => (h.row i hi ha).drw⟩
end
/-- the state between two traces -/
def RelT (w : World) (n : Nat) (CH EN : Nat → Bool) (A : Nat → Option Addr) (L : Nat → Nat) (X : Nat → Nat → E) (iv : Value) (wr : World) : Prop :=
  ∃ (k : Nat) (EB : Nat → Nat), k ≤ n ∧ iv = .int .i64 k ∧ Trc w wr w.heap.size n k CH EN A L X EB
theorem relT_start (w : World) (n : Nat) (CH EN : Nat → Bool) (A : Nat → Option Addr) (L : Nat → Nat) (X : Nat → Nat → E) : RelT w n CH EN A L X (.int .i64 0) (w.alloc (.cells (madeCells #[.bool false, .bool false, .slice none 0 0] (n * 3)) 68)) :=
  ⟨0, fun _ => 0, Nat.zero_le _, rfl, ⟨mk_start w _ 3 n 68 _, fun i hi => by omega, fun i hi => by omega, fun i j h1 h2 => by omega, fun i hi => by omega⟩⟩
def RowE (wr : World) (l : Nat) (xs : Nat → E) (jv : Value) (wq : World) : Prop := ∃ j : Nat, j ≤ l ∧ jv = .int .i64 j ∧ Mk wr wq wr.heap.size 15 l j (fun j => encE (xs j))

set_option maxRecDepth 100000 in
set_option maxHeartbeats 8000000 in
theorem traces_calls (a : Option Addr) (tb to n cap : Nat) (CH EN : Nat → Bool) (A : Nat → Option Addr) (L C IB IQ : Nat → Nat) (X : Nat → Nat → E) (w : World) (h : TrsAt w a tb to n CH EN A L C IB IQ X) (hn : n ≤ 4096) (hL : ∀ i, i < n → L i ≤ 4096) :
    Calls Try.prog 17 #[.slice a n cap] w (TrcP w n CH EN A L X) := by
  have hmk := make68 n hn
  go_enter Try.func17, Try.ntmps17
  go_wp2
  clear hmk
  go_loopw [4, 5, 6, 7] (fun i _ _ _ wr => RelT w n CH EN A L X i wr) (fun i _ _ _ _ => n - (intOf i).toNat)
  case atStart => exact relT_start w n CH EN A L X
  case round =>
    obtain ⟨k, EB, hk, rfl, hT⟩ := hrel
    by_cases hlt : k < n
    · have ha := h.addr (by omega)
      subst ha
      have hb := h.below hT.m.bel
      have c0 := hb.c0 k hlt
      have c1 := hb.c1 k hlt
      have c2 := hb.c2 k hlt
      have hr := hb.r k hlt
      have hlt' : (k : Int) < (n : Int) := by omega
      have hLk := hL k hlt
      have hnil := h.nil k hlt
      have hT0 := hT.m.lt
      cases hA : A k with
      | none =>
        rw [hA] at c2 hr hnil
        rw [hnil rfl] at c2
        have hL0 : L k = 0 := by
          by_cases q : 0 < L k
          · have := hr.addr q
            cases this
          · omega
        rw [hL0] at c2
        have hneq := neq60n
        have HA := Lib.hid hA
        have HL := Lib.hid hL0
        clear hA hL0
        go_wp2
        clear hneq
        go_loopw [7] (fun jv wq => jv = .int .i64 0 ∧ wq = wr) (fun _ _ => 0)
        case atStart => exact ⟨rfl, rfl⟩
        case round =>
          obtain ⟨rfl, rfl⟩ := hrel
          have hTd := hT.drew
          have HH := Lib.hid hT.hi
          clear hT
          go_wp2_with fail
          go_region_with (go_at_call 32; refine (newTrace_strict (CH k) (EN k) none 0 0 _).mono ?_; rintro e w1 ⟨rfl, hB, hlt1⟩; have hT2 := hTd.below hB; obtain ⟨v0, hv0, hz0⟩ := hT2.m.cells hlt 0 (by omega); obtain ⟨v1, hv1, hz1⟩ := hT2.m.cells hlt 1 (by omega); obtain ⟨v2, hv2, hz2⟩ := hT2.m.cells hlt 2 (by omega); simp only [Nat.add_zero] at hv0 hz0)
          all_goals
            have hN := hT2.step hlt HH.out hT0 hlt1 (fun q => absurd HA.out q)
            rw [HA.out, HL.out, bO_none] at hN
            simp only [World.setCells] at hN
            go_wp2
            go_roundw
            case rel => exact ⟨k + 1, _, by omega, by go_num, hN⟩
            case measure => first | (simp [intOf]; done) | (simp [intOf]; omega)
      | some ad =>
        rw [hA] at c2 hr
        have hneq := neq60s ad (L k) (C k)
        have hmk := make96 (L k) hLk
        have HA := Lib.hid hA
        clear hA
        go_wp2
        clear hneq hmk
        go_loopw [7] (fun jv wq => RowE wr (L k) (X k) jv wq) (fun jv _ => L k - (intOf jv).toNat)
        case atStart => exact ⟨0, Nat.zero_le _, rfl, mk_start wr zer 15 (L k) 96 _⟩
        case round =>
          obtain ⟨j, hj, rfl, hM⟩ := hrel
          by_cases hjl : j < L k
          · have ha := hr.addr (by omega)
            injection ha with ha
            subst ha
            have hjl' : (j : Int) < (L k : Int) := by omega
            have r0 := below_cell hM.bel (hr.k j hjl)
            have r1 := below_cell hM.bel (hr.v j hjl)
            have r2 := below_cell hM.bel (hr.s j hjl)
            cases hst : (X k j).2.2 with
            | true => 
              rw [hst] at r2
              have HS := Lib.hid hst
              clear hst
              have fold : (X k j) = ((X k j).1, (X k j).2.1, true) := by rw [← HS.out]
              have hMd := hM.drew
              have le := encE_length ((X k j).1, (X k j).2.1, true)
              have HF := Lib.hid fold
              clear fold hM
              go_wp2_with fail
              go_region_with (go_at_call 30; refine (stood_calls (X k j).1 (X k j).2.1 _).mono ?_; rintro e w1 ⟨rfl, hB⟩; have hM2 := hMd.below hB; have hs1 := hM2.storeE hjl ((X k j).1, (X k j).2.1, true))
              all_goals
                have hN := hM2.step hjl (fun i => encE_length _)
                rw [HF.out] at hN
                go_wp2
                go_roundw
                case rel => exact ⟨j + 1, hjl, by go_num, hN⟩
                case measure => first | (simp [intOf]; done) | (simp [intOf]; omega)
            | false =>
              rw [hst] at r2
              have HS := Lib.hid hst
              clear hst
              go_wp2_with fail
              refine (none_calls (X k j).1 (X k j).2.1 _).mono ?_
              rintro e w1 ⟨rfl, hB⟩
              have fold : (X k j) = ((X k j).1, (X k j).2.1, false) := by rw [← HS.out]
              have hM2 := hM.below hB
              have hs1 := hM2.storeE hjl ((X k j).1, (X k j).2.1, false)
              have hN := hM2.step hjl (fun i => encE_length _)
              rw [fold] at hN
              have le := encE_length ((X k j).1, (X k j).2.1, false)
              clear fold
              go_wp2
              go_roundw
              case rel => exact ⟨j + 1, hjl, by go_num, hN⟩
              case measure => first | (simp [intOf]; done) | (simp [intOf]; omega)
          · have hjl' : ¬ (j : Int) < (L k : Int) := by omega
            (obtain rfl : j = L k := by omega)
            have c0' := below_cell hM.bel c0
            have c1' := below_cell hM.bel c1
            have hTd := (hT.below hM.bel).drew
            have hPd := hM.pr.drw
            have hlo := hM.lt
            have HH := Lib.hid hT.hi
            clear hT hM
            go_wp2_with fail
            go_region_with (go_at_call 32; refine (newTrace_strict (CH k) (EN k) _ _ _ _).mono ?_; rintro e w1 ⟨rfl, hB, hlt1⟩; have hT2 := hTd.below hB; obtain ⟨v0, hv0, hz0⟩ := hT2.m.cells hlt 0 (by omega); obtain ⟨v1, hv1, hz1⟩ := hT2.m.cells hlt 1 (by omega); obtain ⟨v2, hv2, hz2⟩ := hT2.m.cells hlt 2 (by omega); simp only [Nat.add_zero] at hv0 hz0)
            all_goals
              have hN := hT2.step hlt HH.out hT0 (Nat.lt_trans hlo hlt1) (fun q => hPd.keep (F := fun _ => False) (Chg.of_below hB) (fun x => x) hlo)
              rw [HA.out, bO_some] at hN
              simp only [World.setCells] at hN
              go_wp2
              go_roundw
              case rel => exact ⟨k + 1, _, by omega, by go_num, hN⟩
              case measure => first | (simp [intOf]; done) | (simp [intOf]; omega)
    · have hlt' : ¬ (k : Int) < (n : Int) := by omega
      (obtain rfl : k = n := by omega)
      go_wp2
      go_ret
      exact ⟨w.heap.size, EB, rfl, hT⟩
end Go.Proofs.Qxb6616141a
