/-
  OWN TEXT. What the law's makers leave, in one form; slices of slices.
-/
import Derived.Test.Qxb6616141aFin
import Derived.Test.Qxb6616141aPiy
import Derived.Test.Qxb6616141aGrd
namespace Go.Proofs.Qxb6616141a
open Go.RowKit
def DstV (w : World) (n : Nat) (e : Ending) (w' : World) : Prop :=
  ∃ (dv : Value) (ra : Option Addr) (rb rc : Nat) (RW : Nat → Nat) (ds : List Value), e = .returned (.tuple #[dv, .slice ra n rc]) ∧ w'.ownsRow w.heap.size 58 4 dv n ds ∧ Tell ds n (pixC RW) ∧ RtAt w' ra rb n RW ∧ Below w.heap.size w w' ∧
    (∀ k, dv.ownBlock = some k → w.heap.size ≤ k ∧ k < w'.heap.size) ∧ (0 < n → w.heap.size ≤ rb ∧ rb < w'.heap.size ∧ ∀ k, dv.ownBlock = some k → k ≠ rb)
theorem dstV_calls (a : Option Addr) (sb so n cap : Nat) (f : Nat → Int) (w : World) (h : KeyAt w a sb so n f) (hn : n ≤ 4096) (hnil : a = none → cap = 0) :
    Calls Try.prog 16 #[.slice a n cap] w (DstV w n) := by
  refine (dst_own a sb so n cap f w h hn hnil).mono ?_
  rintro e w' (⟨_, rfl, rfl, rfl⟩ | ⟨_, g1, g2, hne, rfl, ⟨R, hT, hR⟩, xs, hx⟩)
  · exact ⟨.slice none 0 0, none, 0, 0, fun _ => 0, [], rfl, World.ownsRow_nil _ _ _ _, ⟨rfl, fun i q hi => by omega⟩, ⟨fun h => by omega, fun i hi => by omega⟩, Below.refl _ _, fun k hk => by simp [Value.ownBlock] at hk, fun h => by omega⟩
  · refine ⟨_, _, g2, n, R, xs, rfl, hx, tell_own hx hT, hR.roots, hT.bel, fun k hk => ?_, fun _ => ⟨hR.ge, hR.lt, fun k hk => ?_⟩⟩
    · injection hk with hk
      subst hk
      exact ⟨hT.ge, hT.lt⟩
    · injection hk with hk
      subst hk
      exact hne
theorem RtAt.keep' {W W' : World} {a : Option Addr} {b n : Nat} {R : Nat → Nat} {F : Nat → Prop} (h : RtAt W a b n R) (hc : Chg F W W') (hF : 0 < n → ¬ F b) : RtAt W' a b n R := ⟨h.addr, fun i hi => hc.cell (h.c i hi) (hF (by omega))⟩
theorem Below.drewT (w : World) : Below w.heap.size w w.drew := ⟨rfl, rfl, rfl, Nat.le_refl _, fun _ _ => rfl⟩
theorem tail39 (g n c : Nat) (hc : c ≤ n) : ∃ A', (∀ W, (Instr.slice 39 (.slice (some ⟨g, 0, none⟩) n n) (some (.int .i64 c)) none none).run Try.prog W = .ok (.slice A' (n - c) (n - c)) W) ∧ (0 < n - c → A' = some ⟨g, c * 5, none⟩) := by
  refine ⟨if n = c then some ⟨g, 0, none⟩ else some ⟨g, c * 5, none⟩, fun W => ?_, fun h => by rw [if_neg (by omega)]⟩
  rw [run_slice_l W 39 _ n n (by kernel_rfl) .i64 c (by omega) (by omega)]
  have hsz : (sizeOf (Try.prog.elem 39)).run Try.prog W = .ok 5 W := by kernel_rfl
  rw [hsz]
  simp only [Result.andThen, sliced, Int.toNat_natCast, Option.map]
  by_cases hnc : n = c
  · simp [hnc]
  · simp only [hnc, if_false, Addr.add, Nat.zero_add]
    by_cases h0 : c * 5 = 0
    · rw [if_pos h0, h0]
    · rw [if_neg h0]
theorem tail46 (g n c : Nat) (hc : c ≤ n) : ∃ A', (∀ W, (Instr.slice 46 (.slice (some ⟨g, 0, none⟩) n n) (some (.int .i64 c)) none none).run Try.prog W = .ok (.slice A' (n - c) (n - c)) W) ∧ (0 < n - c → A' = some ⟨g, c * 3, none⟩) := by
  refine ⟨if n = c then some ⟨g, 0, none⟩ else some ⟨g, c * 3, none⟩, fun W => ?_, fun h => by rw [if_neg (by omega)]⟩
  rw [run_slice_l W 46 _ n n (by kernel_rfl) .i64 c (by omega) (by omega)]
  have hsz : (sizeOf (Try.prog.elem 46)).run Try.prog W = .ok 3 W := by kernel_rfl
  rw [hsz]
  simp only [Result.andThen, sliced, Int.toNat_natCast, Option.map]
  by_cases hnc : n = c
  · simp [hnc]
  · simp only [hnc, if_false, Addr.add, Nat.zero_add]
    by_cases h0 : c * 3 = 0
    · rw [if_pos h0, h0]
    · rw [if_neg h0]
theorem TabAt.below {w w' : World} {a : Option Addr} {tb o5 m : Nat} {R : Nat → Nat} (h : TabAt w a tb o5 m R) (hb : Below w.heap.size w w') : TabAt w' a tb o5 m R := h.keep (F := fun _ => False) (Chg.of_below hb) (fun x => x)
theorem TabAt.head {w : World} {a : Option Addr} {tb m k : Nat} {R : Nat → Nat} (h : TabAt w a tb 0 m R) (hk : k ≤ m) : TabAt w a tb 0 k (fun j => R (0 + j)) :=
  ⟨fun q => h.addr (by omega), fun i hi => by rw [Nat.zero_add i]; exact h.c0 i (by omega), fun i hi => h.c1 i (by omega), fun i hi => h.c2 i (by omega)⟩
theorem TabAt.tail {w : World} {a a' : Option Addr} {tb m k : Nat} {R : Nat → Nat} (h : TabAt w a tb 0 m R) (hk : k ≤ m) (ha : 0 < m - k → a' = some ⟨tb, k * 5, none⟩) : TabAt w a' tb (k * 5) (m - k) (fun j => R (k + j)) :=
  ⟨ha, fun i hi => by have := h.c0 (k + i) (by omega); rwa [show 0 + (k + i) * 5 = k * 5 + i * 5 by omega] at this, fun i hi => by have := h.c1 (k + i) (by omega); rwa [show 0 + (k + i) * 5 + 1 = k * 5 + i * 5 + 1 by omega] at this, fun i hi => by have := h.c2 (k + i) (by omega); rwa [show 0 + (k + i) * 5 + 2 = k * 5 + i * 5 + 2 by omega] at this⟩
theorem Pix.start {w : World} {base rb N : Nat} {CH EN : Nat → Bool} {A : Nat → Option Addr} {EB L R : Nat → Nat} {l0 : Nat → List E} {dv : Value} {n0 : Nat} {ds : List Value} (c : Nat) (ht : ∀ i, i < N → TrI w rb i (CH i) (EN i) (A i) (EB i) (L i) (l0 i)) (ho : w.ownsRow base 58 4 dv n0 ds) : Pix w base rb N CH EN A EB L R l0 dv n0 ds c 0 dv w :=
  ⟨fun i hi => by rw [lj_zero]; exact ht i hi, by show w.ownsRow base 58 4 dv n0 (ds ++ []); rw [List.append_nil]; exact ho, Chg.refl _ _, .inl rfl⟩
/-- all that stands when the loops begin -/
structure Fin8 (w W : World) (dn tn rn : Nat) (CH EN : Nat → Bool) (A : Nat → Option Addr) (L : Nat → Nat) (lX : Nat → List E) (wa pa rwa rpa : Option Addr) (wb pb rwb rpb rtb tw tp : Nat) (RW RP R EW EP : Nat → Nat) : Prop where
  wh : PxAt W wa wb (dn + tn) (clF RW R A EW L lX dn)
  pt : PxAt W pa pb (dn + tn) (clF RP R A EP L lX dn)
  rw' : RtAt W rwa rwb dn RW
  rp : RtAt W rpa rpb dn RP
  rt : RtAt W (some ⟨rtb, 0, none⟩) rtb tn R
  trw : ∀ i, i < rn → TrI W tw i (CH i) (EN i) (A i) (EW i) (L i) (lj lX 0 tn i)
  trp : ∀ i, i < rn → TrI W tp i (CH i) (EN i) (A i) (EP i) (L i) (lj lX 0 tn i)
  bel : Below w.heap.size w W
theorem Fin8.below {w W W' : World} {dn tn rn : Nat} {CH EN : Nat → Bool} {A : Nat → Option Addr} {L : Nat → Nat} {lX : Nat → List E} {wa pa rwa rpa : Option Addr} {wb pb rwb rpb rtb tw tp : Nat} {RW RP R EW EP : Nat → Nat} (h : Fin8 w W dn tn rn CH EN A L lX wa pa rwa rpa wb pb rwb rpb rtb tw tp RW RP R EW EP) (hb : Below W.heap.size W W') : Fin8 w W' dn tn rn CH EN A L lX wa pa rwa rpa wb pb rwb rpb rtb tw tp RW RP R EW EP :=
  ⟨h.wh.below hb, h.pt.below hb, h.rw'.below hb, h.rp.below hb, h.rt.below hb, fun i hi => (h.trw i hi).below hb, fun i hi => (h.trp i hi).below hb, below_tr h.bel hb⟩
/-- the traces, the first m of them led through -/
structure Whole (w W : World) (dn tn rn : Nat) (CH EN : Nat → Bool) (A : Nat → Option Addr) (L : Nat → Nat) (lX : Nat → List E) (wa rwa : Option Addr) (wb rwb rtb tw tg : Nat) (RW R EW : Nat → Nat) : Prop where
  wh : PxAt W wa wb (dn + tn) (clF RW R A EW L lX dn)
  rw' : RtAt W rwa rwb dn RW
  rt : RtAt W (some ⟨rtb, 0, none⟩) rtb tn R
  tab : TabAt W (some ⟨tg, 0, none⟩) tg 0 tn R
  trw : ∀ i, i < rn → TrI W tw i (CH i) (EN i) (A i) (EW i) (L i) (lj lX 0 tn i)
  bel : Below w.heap.size w W
  tl : tg < W.heap.size
theorem Whole.below {w W W' : World} {dn tn rn : Nat} {CH EN : Nat → Bool} {A : Nat → Option Addr} {L : Nat → Nat} {lX : Nat → List E} {wa rwa : Option Addr} {wb rwb rtb tw tg : Nat} {RW R EW : Nat → Nat} (h : Whole w W dn tn rn CH EN A L lX wa rwa wb rwb rtb tw tg RW R EW) (hb : Below W.heap.size W W') : Whole w W' dn tn rn CH EN A L lX wa rwa wb rwb rtb tw tg RW R EW :=
  ⟨h.wh.below hb, h.rw'.below hb, h.rt.below hb, h.tab.below hb, fun i hi => (h.trw i hi).below hb, below_tr h.bel hb, Nat.lt_of_lt_of_le h.tl hb.size⟩
theorem Below.of_chg {F : Nat → Prop} {w w' : World} {B : Nat} (h : Chg F w w') (hB : B ≤ w.heap.size) (hF : ∀ k, F k → B ≤ k) : Below B w w' := ⟨h.os, h.tape, h.output, h.size, fun k hk => h.block k (Nat.lt_of_lt_of_le hk hB) (fun q => by have := hF k q; omega)⟩
end Go.Proofs.Qxb6616141a
