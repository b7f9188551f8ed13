/-
  OWN TEXT. From what the calls leave to what the loops want.
-/
import Derived.Test.Qxb6616141aFiv
namespace Go.Proofs.Qxb6616141a
open Go.RowKit
section
variable {w w1 w2 w3 w4 w5 w6 w7 w8 : World} {dn tn rn k : Nat} {CH EN : Nat → Bool} {A : Nat → Option Addr} {L : Nat → Nat} {X : Nat → Nat → E} {lX : Nat → List E} {wa rwa rpa : Option Addr} {wb rwb rpb rtb tw tp tg : Nat} {RW RP R EW EP : Nat → Nat} {dv dvP v v7 v8 : Value} {ds dsP : List Value}
/-- ahead of the first call -/
theorem pre1 (hTb : Mk w w1 tg 5 tn tn (tabC R)) (ho : w2.ownsRow w1.heap.size 58 4 dv dn ds) (hb2 : Below w1.heap.size w1 w2) (hblk : ∀ k, dv.ownBlock = some k → w1.heap.size ≤ k ∧ k < w2.heap.size) (hTr : Trc w2 w3 tw rn rn CH EN A L X EW) (hnil : ∀ i, i < rn → A i = none → L i = 0) (hlX : ∀ i, lX i = seg (X i) 0 (L i)) :
    TabAt w3 (some ⟨tg, 0, none⟩) tg 0 tn (fun j => R (0 + j)) ∧ Dis w3 tw tg rn EW dv ∧ Pix w3 w1.heap.size tw rn CH EN A EW L R lX dv dn ds 0 0 dv w3 := by
  have h1 := hTb.lt
  have h2 := hb2.size
  refine ⟨((hTb.tabs.below hb2).below hTr.m.bel).head (Nat.le_refl _), hTr.dis (by omega) (fun k hk => ⟨(hblk k hk).2, by have := (hblk k hk).1; omega⟩), Pix.start 0 (fun i hi => by rw [hlX]; exact hTr.tri hnil hi) ?_⟩
  exact ownsRow_chg (F := fun _ => False) ho (Chg.of_below hTr.m.bel) (fun _ _ x => x)
theorem whole_of (hTb : Mk w w1 tg 5 tn tn (tabC R)) (hRt : Mk w w1 rtb 1 tn tn (rootC R)) (hT : Tell ds dn (pixC RW)) (hrw : RtAt w2 rwa rwb dn RW) (hb2 : Below w1.heap.size w1 w2) (hblk : ∀ k, dv.ownBlock = some k → w1.heap.size ≤ k ∧ k < w2.heap.size) (hrb : 0 < dn → w1.heap.size ≤ rwb ∧ rwb < w2.heap.size ∧ ∀ k, dv.ownBlock = some k → k ≠ rwb)
    (hTr : Trc w2 w3 tw rn rn CH EN A L X EW) (hX : Pix w3 w1.heap.size tw rn CH EN A EW L R lX dv dn ds 0 tn v w4) :
    ∃ wa wb wc, v = .slice wa (dn + tn) wc ∧ Whole w w4 dn tn rn CH EN A L lX wa rwa wb rwb rtb tw tg RW R EW := by
  have h1 := hTb.lt
  have h1' := hRt.lt
  have h2 := hb2.size
  have h3 := hTr.m.bel.size
  have hge := hTr.m.ge
  have hb1 := hTb.bel
  have hs1 := hTb.bel.size
  have hF : ∀ b, PixCh tw rn EW dv b → w1.heap.size ≤ b := fun b q => by
    rcases q with q | ⟨i, hi, q⟩ | q
    · omega
    · have := hTr.lo i hi; omega
    · exact (hblk b q).1
  have hT4 : Tell (ds ++ newR R A EW L lX 0 tn) (dn + tn) (clF RW R A EW L lX dn) := hT.app (fun i hi => by unfold clF; rw [if_pos hi]) (fun i hi => by unfold clF; rw [if_neg (by omega), Nat.zero_add]; congr 1; omega)
  obtain ⟨wa, wb, wc, hv, hpx⟩ := px_of_own hX.own hT4 (clF_length _ _ _ _ _ _ _)
  refine ⟨wa, wb, wc, hv, ⟨hpx, ?_, ?_, ?_, hX.tr, ?_, ?_⟩⟩
  · refine (hrw.below hTr.m.bel).keep' hX.chg fun h0 q => ?_
    obtain ⟨r1, r2, r3⟩ := hrb h0
    rcases q with q | ⟨i, hi, q⟩ | q
    · omega
    · have := hTr.lo i hi; omega
    · exact r3 _ q rfl
  · exact ((hRt.roots.below hb2).below hTr.m.bel).keep hX.chg (fun q => by have := hF _ q; omega)
  · exact ((hTb.tabs.below hb2).below hTr.m.bel).keep hX.chg (fun q => by have := hF _ q; omega)
  · have hb4 : Below w.heap.size w3 w4 := Below.of_chg hX.chg (by omega) (fun b q => by have := hF b q; omega)
    have hb3 : Below w.heap.size w w3 := below_tr hb1 (below_tr hb2 hTr.m.bel)
    exact ⟨hb4.os.trans hb3.os, hb4.tape.trans hb3.tape, hb4.output.trans hb3.output, Nat.le_trans hb3.size hb4.size, fun b hb => (hb4.block b hb).trans (hb3.block b hb)⟩
  · have := hX.chg.size; omega
/-- ahead of the second call -/
theorem pre2 (hW : Whole w w4 dn tn rn CH EN A L lX wa rwa wb rwb rtb tw tg RW R EW) (ho : w5.ownsRow w4.heap.size 58 4 dvP dn dsP) (hb5 : Below w4.heap.size w4 w5) (hblk : ∀ k, dvP.ownBlock = some k → w4.heap.size ≤ k ∧ k < w5.heap.size) (hTr : Trc w5 w6 tp rn rn CH EN A L X EP) (hnil : ∀ i, i < rn → A i = none → L i = 0) (hlX : ∀ i, lX i = seg (X i) 0 (L i)) (hk : k ≤ tn) :
    TabAt w6.drew (some ⟨tg, 0, none⟩) tg 0 k (fun j => R (0 + j)) ∧ Dis w6.drew tp tg rn EP dvP ∧ Pix w6.drew w4.heap.size tp rn CH EN A EP L R lX dvP dn dsP 0 0 dvP w6.drew := by
  have h1 := hW.tl
  have h2 := hb5.size
  have hb6 := below_tr hTr.m.bel (Below.drewT w6)
  have hd : Dis w6 tp tg rn EP dvP := hTr.dis (by omega) (fun k hk => ⟨(hblk k hk).2, by have := (hblk k hk).1; omega⟩)
  refine ⟨((hW.tab.below hb5).below hb6).head hk, ⟨hd.inj, hd.er, hd.et, hd.rt, hd.rl, hd.tl, hd.el, hd.d⟩, Pix.start 0 (fun i hi => by rw [hlX]; exact (hTr.tri hnil hi).below (Below.drewT w6)) ?_⟩
  exact ownsRow_chg (F := fun _ => False) ho (Chg.of_below hb6) (fun _ _ x => x)
/-- ahead of the third -/
theorem pre3 (hW : Whole w w4 dn tn rn CH EN A L lX wa rwa wb rwb rtb tw tg RW R EW) (hb5 : Below w4.heap.size w4 w5) (hblk : ∀ k, dvP.ownBlock = some k → w4.heap.size ≤ k ∧ k < w5.heap.size) (hTr : Trc w5 w6 tp rn rn CH EN A L X EP) (hk : k ≤ tn) (ta : Option Addr) (hta : 0 < tn - k → ta = some ⟨tg, k * 5, none⟩)
    (hX : Pix w6.drew w4.heap.size tp rn CH EN A EP L R lX dvP dn dsP 0 k v7 w7) :
    TabAt w7.drew ta tg (k * 5) (tn - k) (fun j => R (k + j)) ∧ Dis w7.drew tp tg rn EP v7 ∧ Pix w7.drew w4.heap.size tp rn CH EN A EP L R (lj lX 0 k) v7 (dn + k) (dsP ++ newR R A EP L lX 0 k) k 0 v7 w7.drew := by
  have h1 := hW.tl
  have h2 := hb5.size
  have hb6 := below_tr hTr.m.bel (Below.drewT w6)
  have hd : Dis w6 tp tg rn EP dvP := hTr.dis (by omega) (fun k hk => ⟨(hblk k hk).2, by have := (hblk k hk).1; omega⟩)
  have hd' : Dis w6.drew tp tg rn EP dvP := ⟨hd.inj, hd.er, hd.et, hd.rt, hd.rl, hd.tl, hd.el, hd.d⟩
  have hs7 := hX.chg.size
  have htn : ¬ PixCh tp rn EP dvP tg := fun q => by
    rcases q with q | ⟨i, hi, q⟩ | q
    · exact hd.rt q.symm
    · exact hd.et i hi q.symm
    · exact (hd.d tg q).2.1 rfl
  have hsz : w6.heap.size ≤ w7.heap.size := hs7
  refine ⟨((((hW.tab.below hb5).below hb6).keep hX.chg htn).below (Below.drewT w7)).tail hk hta, ⟨hd.inj, hd.er, hd.et, hd.rt, Nat.lt_of_lt_of_le hd.rl hsz, Nat.lt_of_lt_of_le hd.tl hsz, fun i hi => Nat.lt_of_lt_of_le (hd.el i hi) hsz, hX.vne hd'⟩, Pix.start k (fun i hi => (hX.tr i hi).below (Below.drewT w7)) ?_⟩
  exact ownsRow_chg (F := fun _ => False) hX.own (Chg.of_below (Below.drewT w7)) (fun _ _ x => x)
theorem fin8_of (hW : Whole w w4 dn tn rn CH EN A L lX wa rwa wb rwb rtb tw tg RW R EW) (hT : Tell dsP dn (pixC RP)) (hrp : RtAt w5 rpa rpb dn RP) (hb5 : Below w4.heap.size w4 w5) (hblk : ∀ k, dvP.ownBlock = some k → w4.heap.size ≤ k ∧ k < w5.heap.size) (hrb : 0 < dn → w4.heap.size ≤ rpb ∧ rpb < w5.heap.size ∧ ∀ k, dvP.ownBlock = some k → k ≠ rpb)
    (hTr : Trc w5 w6 tp rn rn CH EN A L X EP) (hk : k ≤ tn)
    (hX : Pix w6.drew w4.heap.size tp rn CH EN A EP L R lX dvP dn dsP 0 k v7 w7)
    (hY : Pix w7.drew w4.heap.size tp rn CH EN A EP L R (lj lX 0 k) v7 (dn + k) (dsP ++ newR R A EP L lX 0 k) k (tn - k) v8 w8) :
    ∃ pa pb pc, v8 = .slice pa (dn + tn) pc ∧ Fin8 w w8 dn tn rn CH EN A L lX wa pa rwa rpa wb pb rwb rpb rtb tw tp RW RP R EW EP := by
  have h2 := hb5.size
  have hge := hTr.m.ge
  have hb6 := below_tr hTr.m.bel (Below.drewT w6)
  have hs6 : w5.heap.size ≤ w6.heap.size := hTr.m.bel.size
  have hs7 : w6.heap.size ≤ w7.heap.size := hX.chg.size
  have hs8 : w7.heap.size ≤ w8.heap.size := hY.chg.size
  have hF1 : ∀ b, PixCh tp rn EP dvP b → w4.heap.size ≤ b := fun b q => by
    rcases q with q | ⟨i, hi, q⟩ | q
    · omega
    · have := hTr.lo i hi; omega
    · exact (hblk b q).1
  have hF2 : ∀ b, PixCh tp rn EP v7 b → w4.heap.size ≤ b := fun b q => by
    rcases q with q | ⟨i, hi, q⟩ | q
    · omega
    · have := hTr.lo i hi; omega
    · rcases hX.blk with r | ⟨k', r1, r2⟩
      · exact (hblk b (by rw [← r]; exact q)).1
      · rw [r1] at q; injection q with q
        have : w6.heap.size ≤ k' := r2
        omega
  have c1 : Below w4.heap.size w6.drew w7 := Below.of_chg hX.chg (by show w4.heap.size ≤ w6.heap.size; omega) hF1
  have c2 : Below w4.heap.size w7.drew w8 := Below.of_chg hY.chg (by show w4.heap.size ≤ w7.heap.size; omega) hF2
  have b6 : Below w4.heap.size w4 w6.drew := below_tr hb5 hb6
  have b8 : Below w4.heap.size w4 w8 := ⟨c2.os.trans (c1.os.trans b6.os), c2.tape.trans (c1.tape.trans b6.tape), c2.output.trans (c1.output.trans b6.output), by omega, fun b hb => (c2.block b hb).trans ((c1.block b hb).trans (b6.block b hb))⟩
  have hW8 := hW.below b8
  have hTa : Tell (dsP ++ newR R A EP L lX 0 k) (dn + k) (clF RP R A EP L lX dn) := hT.app (fun i hi => by unfold clF; rw [if_pos hi]) (fun i hi => by unfold clF; rw [if_neg (by omega), Nat.zero_add]; congr 1; omega)
  have hT8 : Tell (dsP ++ newR R A EP L lX 0 k ++ newR R A EP L (lj lX 0 k) k (tn - k)) (dn + k + (tn - k)) (clF RP R A EP L lX dn) := hTa.app (fun i hi => rfl) (fun i hi => by
    unfold clF
    rw [if_neg (by omega), show dn + k + i - dn = k + i by omega]
    unfold pixF
    rw [show lj lX 0 k (k + i) = lX (k + i) by unfold lj; rw [if_neg (by omega)]])
  obtain ⟨pa, pb, pc, hv, hpx⟩ := px_of_own hY.own hT8 (clF_length _ _ _ _ _ _ _)
  rw [show dn + k + (tn - k) = dn + tn by omega] at hv hpx
  refine ⟨pa, pb, pc, hv, ⟨hW8.wh, hpx, hW8.rw', ?_, hW8.rt, hW8.trw, fun i hi => ?_, hW8.bel⟩⟩
  · refine (((hrp.below hb6).keep' hX.chg fun h0 q => ?_).below (Below.drewT w7)).keep' hY.chg fun h0 q => ?_
    · obtain ⟨r1, r2, r3⟩ := hrb h0
      rcases q with q | ⟨i, hi, q⟩ | q
      · omega
      · have := hTr.lo i hi; omega
      · exact r3 _ q rfl
    · obtain ⟨r1, r2, r3⟩ := hrb h0
      rcases q with q | ⟨i, hi, q⟩ | q
      · omega
      · have := hTr.lo i hi; omega
      · rcases hX.blk with r | ⟨k', s1, s2⟩
        · exact r3 _ (by rw [← r]; exact q) rfl
        · rw [s1] at q; injection q with q
          have : w6.heap.size ≤ k' := s2
          omega
  · have := hY.tr i hi
    rwa [lj_join lX k tn i hk] at this
end
end Go.Proofs.Qxb6616141a
