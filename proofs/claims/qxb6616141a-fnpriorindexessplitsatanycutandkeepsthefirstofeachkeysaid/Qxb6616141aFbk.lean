/-
  OWN TEXT. zzFirstByKey.
-/
import Derived.Test.Qxb6616141aTrc
import Derived.Test.Qxb6616141aFst
import Derived.Test.Qxb6616141aApp
import Derived.BigQuiet
import Derived.Laws.AppendOwn
import Derived.Laws.OwnMore
import Derived.Great.BuildSlice
namespace Go.Proofs.Qxb6616141a
open Go.RowKit
theorem info3 : (Try.prog.info? 3).map (fun i => (i.zero, i.size, i.bytes)) = some (some (.int .i64 0), 1, 8) := by kernel_rfl
/-- the cells of positions -/
def idC (ids : List Nat) : List Value := ids.map fun (i : Nat) => .int .i64 i
/-- positions in a slice of the call's own, or nil -/
structure IdS (w0 w : World) (v : Value) (ids : List Nat) : Prop where
  own : w.ownsRow w0.heap.size 3 1 v ids.length (idC ids)
  bel : Below w0.heap.size w0 w
theorem app3 {w0 w : World} {v : Value} {ids : List Nat} (h : IdS w0 w v ids) (ad : Addr) (p : Nat) (hc : w.cell? ad = some (.int .i64 p)) (hn : ids.length ≤ 100000) :
    ∀ ty, ∃ v' w', (Builtin.append_ #[63, 63] ty #[v, .slice (some ad) 1 1]).run Try.prog w = .ok v' w' ∧ IdS w0 w' v' (ids ++ [p]) := by
  intro ty
  obtain ⟨i0, hi, hz0, hz1, hz2⟩ := info_parts info3
  obtain ⟨v', w', hr, ho, hg, _⟩ := run_append_own (P := Try.prog) w w0.heap.size 63 ty 3 i0 (.int .i64 0) 1 8 Try.underlying63 hi hz0 hz1 hz2 rfl (by omega) v ids.length (idC ids) h.own ad 1 1 [.int .i64 p] rfl
    (fun j u hu => by
      match j with
      | 0 => simp at hu; subst hu; rw [show ad.add 0 = ad by unfold Addr.add; simp]; exact hc
      | j + 1 => simp at hu)
    (fun u hu => by simp at hu; subst hu; rfl) (by simp only [maxLen]; omega) (by omega) h.bel.size
  refine ⟨v', w', hr, ⟨?_, ?_⟩⟩
  · have : idC (ids ++ [p]) = idC ids ++ [.int .i64 p] := by simp [idC]
    rw [this, List.length_append]
    exact ho
  · exact h.bel.grown hg h.bel.size (fun k hk => (h.own.lt k hk).1)
theorem IdS.below {w0 w w' : World} {v : Value} {ids : List Nat} (h : IdS w0 w v ids) (hb : Below w.heap.size w w') : IdS w0 w' v ids :=
  ⟨by
    have hlt := h.own.lt
    rcases hv : v.ownBlock with _ | b
    · exact h.own.kept (row := none) ⟨hb.os, hb.tape, hb.output, hb.size, fun k hk _ => hb.block k hk⟩ (.inl hv)
    · exact h.own.kept (row := none) ⟨hb.os, hb.tape, hb.output, hb.size, fun k hk _ => hb.block k hk⟩ (.inr (by rw [hv]; simp)), below_tr h.bel hb⟩
def FbP (w : World) (xs : Nat → E) (n : Nat) (e : Ending) (w' : World) : Prop := ∃ v ids, e = .returned v ∧ IdS w w' v ids ∧ FirstIds xs n ids ∧ ids.length ≤ n
theorem cg_n (xs : Nat → E) : ∀ n, cg xs false 0 n ≤ n
  | 0 => Nat.le_refl _
  | n + 1 => by have := cg_n xs n; simp only [cg]; split <;> omega
def RelFo (w : World) (xs : Nat → E) (n : Nat) (ov hv lv : Value) (wr : World) : Prop :=
  ∃ (ids : List Nat) (hb : Bool) (last : Int), hv = .bool hb ∧ lv = .int .i64 last ∧ IdS w wr ov ids ∧ Sel xs n hb last ids ∧ ids.length + cg xs hb last n ≤ n
def RelFb (w : World) (xs : Nat → E) (hb : Bool) (last : Int) (n : Nat) (ov : Value) (ids : List Nat) (bv iv : Value) (wr : World) : Prop :=
  ∃ (i : Nat) (b : Int), bv = .int .i64 b ∧ iv = .int .i64 i ∧ i ≤ n ∧ Best xs hb last i b ∧ IdS w wr ov ids
theorem IdS.drewN {w0 w : World} {v : Value} {ids : List Nat} (h : IdS w0 w v ids) (q : Nat) : IdS w0 (w.drewN q) v ids := ⟨h.own, ⟨h.bel.os, h.bel.tape, h.bel.output, h.bel.size, h.bel.block⟩⟩
def boolOf : Value → Bool | .bool b => b | _ => false
set_option maxRecDepth 100000 in
set_option maxHeartbeats 8000000 in
theorem first_calls (a : Option Addr) (sb so n cap : Nat) (xs : Nat → E) (w : World) (h : RecAt w a sb so n xs) (hn : n ≤ 4096) :
    Calls Try.prog 21 #[.slice a n cap] w (FbP w xs n) := by
  have hn0 : (0 : Int) ≤ (n : Int) := by omega
  go_enter Try.func21, Try.ntmps21
  go_wp2
  go_loopw [3, 4, 5, 6, 7] (fun ov hv lv _ _ wr => RelFo w xs n ov hv lv wr) (fun _ hv lv _ _ _ => cg xs (boolOf hv) (intOf lv) n)
  case atStart => exact ⟨[], false, 0, rfl, rfl, ⟨World.ownsRow_nil w _ _ _, Below.refl _ _⟩, Sel.start xs n 0, by simp; exact cg_n xs n⟩
  case round =>
    obtain ⟨ids, hb, last, rfl, rfl, hI, hSel, hlen⟩ := hrel
    have HSel := Lib.hid hSel
    clear hSel
    go_wp2
    go_loopw [6, 7] (fun bv iv wq => RelFb w xs hb last n u3 ids bv iv wq) (fun _ iv _ => n - (intOf iv).toNat)
    case atStart => exact ⟨0, -1, rfl, rfl, Nat.zero_le _, Best.start xs hb last, hI⟩
    case round =>
      clear hI
      obtain ⟨i, b, rfl, rfl, hin, hB, hI⟩ := hrel
      have hcs := hB.cases
      have HB := Lib.hid hB
      clear hB
      by_cases hlt : i < n
      · have hlt' : (i : Int) < (n : Int) := by omega
        have i0 : (0 : Int) ≤ (i : Int) := by omega
        have ha := h.addr (by omega)
        subst ha
        have ck := below_cell hI.bel (h.k i hlt)
        by_cases hsk : sk xs hb last i = true
        · have hbt : hb = true ∧ (xs i).1 ≤ last := by simpa [sk] using hsk
          obtain ⟨rfl, hle⟩ := hbt
          have hrel2 := HB.out.skip hsk
          clear hsk hcs
          go_wp2
          go_roundw
          case rel => exact ⟨i + 1, b, rfl, by go_num, hlt, hrel2, hI⟩
          case measure => first | (simp [intOf]; done) | (simp [intOf]; omega)
        · have hsf : sk xs hb last i = false := by simpa using hsk
          clear hsk
          rcases hcs with rfl | ⟨p, rfl, hp⟩
          · have hrel2 := HB.out.first hsf
            have hd : decide ((-1 : Int) < 0) = true := rfl
            cases hb with
            | true =>
              have hle : ¬ (xs i).1 ≤ last := fun q => by simp [sk, q] at hsf
              clear hsf
              go_wp2_with fail
              go_quiet (fail)
              go_wp2
              go_roundw
              case rel => exact ⟨i + 1, i, rfl, by go_num, hlt, hrel2, hI.drewN _⟩
              case measure => first | (simp [intOf]; done) | (simp [intOf]; omega)
            | false =>
              clear hsf
              go_wp2_with fail
              go_quiet (fail)
              go_wp2
              go_roundw
              case rel => exact ⟨i + 1, i, rfl, by go_num, hlt, hrel2, hI.drewN _⟩
              case measure => first | (simp [intOf]; done) | (simp [intOf]; omega)
          · have hpn : p < n := by omega
            have hpn' : (p : Int) < (n : Int) := by omega
            have p0 : (0 : Int) ≤ (p : Int) := by omega
            have pz : ¬ (p : Int) < 0 := by omega
            have hd : decide ((p : Int) < 0) = false := decide_eq_false pz
            have cp := below_cell hI.bel (h.k p hpn)
            by_cases hl : (xs i).1 < (xs p).1
            · have hrel2 := HB.out.less hsf hl
              cases hb with
              | true =>
                have hle : ¬ (xs i).1 ≤ last := fun q => by simp [sk, q] at hsf
                clear hsf
                go_wp2_with fail
                go_quiet (fail)
                go_wp2
                go_roundw
                case rel => exact ⟨i + 1, i, rfl, by go_num, hlt, hrel2, hI.drewN _⟩
                case measure => first | (simp [intOf]; done) | (simp [intOf]; omega)
              | false =>
                clear hsf
                go_wp2_with fail
                go_quiet (fail)
                go_wp2
                go_roundw
                case rel => exact ⟨i + 1, i, rfl, by go_num, hlt, hrel2, hI.drewN _⟩
                case measure => first | (simp [intOf]; done) | (simp [intOf]; omega)
            · have hrel2 := HB.out.more hl
              cases hb with
              | true =>
                have hle : ¬ (xs i).1 ≤ last := fun q => by simp [sk, q] at hsf
                clear hsf
                go_wp2_with fail
                go_quiet (fail)
                go_wp2
                go_roundw
                case rel => exact ⟨i + 1, p, rfl, by go_num, hlt, hrel2, hI.drewN _⟩
                case measure => first | (simp [intOf]; done) | (simp [intOf]; omega)
              | false =>
                clear hsf
                go_wp2_with fail
                go_quiet (fail)
                go_wp2
                go_roundw
                case rel => exact ⟨i + 1, p, rfl, by go_num, hlt, hrel2, hI.drewN _⟩
                case measure => first | (simp [intOf]; done) | (simp [intOf]; omega)
      · have hlt' : ¬ (i : Int) < (n : Int) := by omega
        (obtain rfl : i = n := by omega)
        rcases hcs with rfl | ⟨p, rfl, hp⟩
        · have hfin := HSel.out.fin HB.out
          go_wp2
          go_ret
          exact ⟨_, ids, rfl, hI, hfin, by omega⟩
        · have hstep := HSel.out.step HB.out
          have hah := HB.out.ahead
          have pz : ¬ (p : Int) < 0 := by omega
          have hpn' : (p : Int) < (i : Int) := by omega
          have p0 : (0 : Int) ≤ (p : Int) := by omega
          have HSt := Lib.hid hstep
          clear hstep
          have hb2 := below_alloc wr (.cells #[.int .i64 p] 3)
          have hI2 := hI.below hb2
          have hcl : (wr.alloc (.cells #[.int .i64 p] 3)).cell? ⟨wr.heap.size, 0, none⟩ = some (.int .i64 p) := (cell_new rfl _ _ _).trans rfl
          clear hI
          go_wp2_with (at_builtin; refine wpList_append_of rfl _ _ 63 63 rfl _ _ rfl rfl _ (app3 hI2 ⟨wr.heap.size, 0, none⟩ p hcl (by omega)) ?_)
          rintro v' w' hI3
          have ha := h.addr (by omega)
          subst ha
          have cp := below_cell hI3.bel (h.k p hp)
          clear hI2 hcl
          go_wp2
          go_roundw
          case rel => exact ⟨ids ++ [p], true, (xs p).1, rfl, rfl, hI3, HSt.out, by rw [List.length_append]; simp; omega⟩
          case measure => exact hah
end Go.Proofs.Qxb6616141a
