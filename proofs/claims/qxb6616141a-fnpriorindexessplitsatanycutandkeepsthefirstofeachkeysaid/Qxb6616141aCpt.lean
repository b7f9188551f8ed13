/-
  OWN TEXT. CompactFunc.
-/
import Derived.Test.Qxb6616141aSta
import Derived.Test.Qxb6616141aFst
import Derived.Lib.SliceRun
namespace Go.Proofs.Qxb6616141a
open Go.RowKit
abbrev eqV : Value := .func (.func 43) #[] #[]
def EqK (w0 : World) (g n : Nat) (xs : Nat → E) (a b : E) (e : Ending) (w' : World) : Prop := e = .returned (.bool (a.1 == b.1)) ∧ CK w0 g n xs w'
theorem eq_ck {w0 W : World} {g n : Nat} {xs : Nat → E} (h : CK w0 g n xs W) (a b : E) : Calls Try.prog 43 #[aggE a, aggE b] W (EqK w0 g n xs a b) := by
  refine (eqk_calls a b W).mono ?_
  rintro e w' ⟨he, hb⟩
  exact ⟨he, h.below hb⟩
theorem tail56 (g n k : Nat) (h0 : 0 < k) (hk : k < n) : ∀ W, (Instr.slice 56 (.slice (some ⟨g, 0, none⟩) n n) (some (.int .i64 k)) none none).run Try.prog W = .ok (.slice (some ⟨g, k * 15, none⟩) (n - k) (n - k)) W := fun W => by
  rw [run_slice_l W 56 _ n n (by kernel_rfl) .i64 k (by omega) (by omega)]
  have hsz : (sizeOf (Try.prog.elem 56)).run Try.prog W = .ok 15 W := by kernel_rfl
  rw [hsz]
  simp only [Result.andThen, sliced, Int.toNat_natCast, Option.map]
  rw [if_neg (by omega)]
  simp only [Addr.add, Nat.zero_add]
  rw [if_neg (by omega)]
theorem zero96 (w : World) : (zeroValue 96).run Try.prog w = .ok (.agg #[.int .i64 0, .int .i64 0, .int .i64 0, .bool false, .int .i64 0, .int .i64 0, .bool false, .int .i64 0, .int .i64 0, .bool false, .int .i64 0, .int .i64 0, .bool false, .int .i64 0, .bool false]) w := by kernel_rfl
theorem zeroCells_len (z : Array Value) (n : Nat) : (Builtin.zeroCells z n).toList.length = n * z.size := by rw [Array.length_toList]; exact size_zeroCells z n
theorem clear_run {w0 W : World} {g n k : Nat} {zs : Nat → E} (h : CK w0 g n zs W) (hk : k < n) : ∃ W', (∀ ty, (Builtin.clear_ #[56] ty #[.slice (some ⟨g, k * 15, none⟩) (n - k) (n - k)]).run Try.prog W = .ok (.tuple #[]) W') ∧ CK w0 g k zs W' := by
  obtain ⟨zl, hzl⟩ : ∃ zl, zl = (Builtin.zeroCells #[.int .i64 0, .int .i64 0, .int .i64 0, .bool false, .int .i64 0, .int .i64 0, .bool false, .int .i64 0, .int .i64 0, .bool false, .int .i64 0, .int .i64 0, .bool false, .int .i64 0, .bool false] (n - k)).toList := ⟨_, rfl⟩
  have hlen : zl.length = (n - k) * 15 := by rw [hzl, zeroCells_len]; rfl
  have hone : ∀ v ∈ zl, v.oneCell' = true := by
    intro v hv
    rw [hzl] at hv
    simp only [Builtin.zeroCells, Array.toList_map, List.mem_map] at hv
    obtain ⟨i, _, rfl⟩ := hv
    have hi : i % 15 < 15 := Nat.mod_lt _ (by omega)
    generalize i % 15 = r at hi
    show (#[Value.int .i64 0, .int .i64 0, .int .i64 0, .bool false, .int .i64 0, .int .i64 0, .bool false, .int .i64 0, .int .i64 0, .bool false, .int .i64 0, .int .i64 0, .bool false, .int .i64 0, .bool false][r]!).oneCell' = true
    match r, hi with
    | 0, _ => rfl
    | 1, _ => rfl
    | 2, _ => rfl
    | 3, _ => rfl
    | 4, _ => rfl
    | 5, _ => rfl
    | 6, _ => rfl
    | 7, _ => rfl
    | 8, _ => rfl
    | 9, _ => rfl
    | 10, _ => rfl
    | 11, _ => rfl
    | 12, _ => rfl
    | 13, _ => rfl
    | 14, _ => rfl
  have hth : ∀ j, j < zl.length → (W.cell? ⟨g, k * 15 + j, none⟩).isSome = true ∧ W.frozen? ⟨g, k * 15 + j, none⟩ = false := fun j hj => by
    have := h.pr.t (k + j / 15) (by omega) (j % 15) (Nat.mod_lt _ (by omega))
    rwa [show (k + j / 15) * 15 + j % 15 = k * 15 + j by omega] at this
  have hst := run_storeCells_cells (P := Try.prog) g (k * 15) zl 0 W (fun j hj => by simpa using (hth j hj).1) (fun j hj => by simpa using (hth j hj).2) hone
  simp only [Nat.add_zero] at hst
  refine ⟨W.setCells g (k * 15) zl, fun ty => ?_, ⟨⟨fun i hi => ?_, fun i hi => World.there_setCells (h.pr.t i (by omega)) _ _ _⟩, Nat.lt_of_lt_of_le h.lt (chg_setCells g zl _ _).size, h.chg.tr (chg_setCells g zl _ _)⟩⟩
  · obtain ⟨m, hm⟩ : ∃ m, n - k = m + 1 := ⟨n - k - 1, by omega⟩
    rw [hm] at hzl ⊢
    have hcs : (Value.agg #[Value.int .i64 0, .int .i64 0, .int .i64 0, .bool false, .int .i64 0, .int .i64 0, .bool false, .int .i64 0, .int .i64 0, .bool false, .int .i64 0, .int .i64 0, .bool false, .int .i64 0, .bool false]).cells = #[Value.int .i64 0, .int .i64 0, .int .i64 0, .bool false, .int .i64 0, .int .i64 0, .bool false, .int .i64 0, .int .i64 0, .bool false, .int .i64 0, .int .i64 0, .bool false, .int .i64 0, .bool false] := rfl
    have hz := zero96 W
    simp only [Builtin.clear_, run_underlying Try.underlying56, hz, hcs, ← hzl, hst, Sem.run_bind, Sem.run_pure, Result.andThen_ok, List.getElem?_toArray, List.getElem?_cons_zero]
  · refine World.rangeAt_setCells_apart (h.pr.r i (by omega)) g (k * 15) zl ?_
    rw [encE_length]
    omega
def CS2 (w0 : World) (g n : Nat) (xs : Nat → E) (o k i j : Nat) (W : World) : Prop :=
  (∀ q, q < 15 → W.cell? ⟨g, o + i * 15 + q, none⟩ = some (cE (xs (k + i)) q)) ∧ W.cell? ⟨g, o + i * 15, none⟩ = some (cE (xs (k + i)) 0) ∧ (∀ q, q < 15 → W.cell? ⟨g, o + j * 15 + q, none⟩ = some (cE (xs (k + j)) q)) ∧ W.cell? ⟨g, o + j * 15, none⟩ = some (cE (xs (k + j)) 0) ∧ CK w0 g n xs W
theorem CK.keep2 {w0 W : World} {g n : Nat} {xs : Nat → E} (h : CK w0 g n xs W) {o k i j : Nat} (ho : Hid (o = k * 15)) (hi : k + i < n) (hj : k + j < n) : CS2 w0 g n xs o k i j W := by
  have a := h.keep hi hj
  unfold CS at a
  unfold CS2
  rw [ho.out, ← Nat.add_mul, ← Nat.add_mul]
  exact a
def CptP (w : World) (g n : Nat) (ys : Nat → E) (e : Ending) (w' : World) : Prop :=
  ∃ (k : Nat) (zs : Nat → E), e = .returned (.slice (some ⟨g, 0, none⟩) k n) ∧ CK w g k zs w' ∧ k ≤ n ∧ seg zs 0 k = ddF ys n
theorem CK.less {w0 W : World} {g n m : Nat} {xs : Nat → E} (h : CK w0 g n xs W) (hm : m ≤ n) : CK w0 g m xs W := ⟨⟨fun i hi => h.pr.r i (by omega), fun i hi => h.pr.t i (by omega)⟩, h.lt, h.chg⟩
theorem ddF_new {ys : Nat → E} {p : Nat} (h : ¬ (ys p).1 = (ys (p - 1)).1) : ddF ys (p + 1) = ddF ys p ++ [ys p] := by
  show (if p = 0 ∨ (ys p).1 ≠ (ys (p - 1)).1 then ddF ys p ++ [ys p] else ddF ys p) = _
  rw [if_pos (.inr h)]
theorem ddF_old {ys : Nat → E} {p : Nat} (h0 : 0 < p) (h : (ys p).1 = (ys (p - 1)).1) : ddF ys (p + 1) = ddF ys p := by
  show (if p = 0 ∨ (ys p).1 ≠ (ys (p - 1)).1 then ddF ys p ++ [ys p] else ddF ys p) = _
  rw [if_neg (fun q => q.elim (fun q => by omega) (fun q => q h))]
theorem tail56' (g n k : Nat) (h0 : 0 < k) (hk : k < n) : ∃ o, Hid (o = k * 15) ∧ ∀ W, (Instr.slice 56 (.slice (some ⟨g, 0, none⟩) n n) (some (.int .i64 k)) none none).run Try.prog W = .ok (.slice (some ⟨g, o, none⟩) (n - k) (n - k)) W := ⟨_, Lib.hid rfl, tail56 g n k h0 hk⟩
def RelD1 (w : World) (g n : Nat) (ys : Nat → E) (kv : Value) (wr : World) : Prop := ∃ k : Nat, kv = .int .i64 k ∧ 1 ≤ k ∧ k ≤ n ∧ CK w g n ys wr ∧ ddF ys k = seg ys 0 k
def RelD2 (w : World) (g n : Nat) (ys : Nat → E) (k : Nat) (qv jv : Value) (wr : World) : Prop :=
  ∃ (q j : Nat) (zs : Nat → E), qv = .int .i64 q ∧ jv = .int .i64 j ∧ 1 ≤ j ∧ k + j ≤ n ∧ q < k + j ∧ 0 < q ∧ CK w g n zs wr ∧ (∀ t, k + j - 1 ≤ t → zs t = ys t) ∧ seg zs 0 q = ddF ys (k + j)

end Go.Proofs.Qxb6616141a
