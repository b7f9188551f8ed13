/-
  OWN TEXT. container/heap.Push, Remove; (*doubts).drop, hold.
-/
import Derived.Test.Qxb6616074aPushC
import Derived.Test.Qxb6616074aPop
import Derived.Test.Qxb6616074aDown
namespace Go.Proofs.Qxb6616074a
open Go.RowKit Go.MapKept Go.ChangeMaps

theorem up_at {lb hb cap pb : Nat} (w : World) (hs : List Dbt) (h : DL w lb hb cap pb hs) (jj : Int) (j : Nat) (hj : j < hs.length) (F : Nat) (hF : j < F) (ej : jj = j) :
    Calls Try.prog 38 #[.iface 80 (.pointer (some ⟨lb, 0, none⟩)), .int .i64 jj] w fun e w' => e = .returned (.tuple #[]) ∧ DL w' lb hb cap pb (upF F hs j) ∧ Chg (fun k => k = hb ∨ k = pb) w w' := by
  subst ej; exact up_calls w hs h j hj F hF

set_option maxHeartbeats 1000000 in
theorem hpush_calls {w : World} {lb : Nat} {D : List Nat} {hs : List Dbt} (h : DoubtsAt w lb D hs) (d : Dbt) (hn : ∀ x ∈ hs, x.1 ≠ d.1) (hl : hs.length < 1000000000) :
    Calls Try.prog 35 #[.iface 80 (.pointer (some ⟨lb, 0, none⟩)), .iface 68 (.agg #[.string d.1, .int .u64 d.2])] w fun e w' => e = .returned (.tuple #[]) ∧
      ∃ hb cap pb, DL w' lb hb cap pb (pushF hs d) ∧ (∀ k, k = hb ∨ k = pb → k ∈ D ∨ w.heap.size ≤ k) ∧ Chg (fun k => k = lb ∨ k ∈ D) w w' ∧ KeepS lb (fun o => o = 0 ∨ o = 1) w w' := by
  have hmp := meth_push
  have hml := meth_len
  go_enter Try.func35, Try.ntmps35
  go_wp2_with fail
  refine (push_calls h d hn hl).mono ?_
  rintro e w1 ⟨rfl, hb, cap, pb, hD, hblk, hc, hk⟩
  have hlen : (hs ++ [d]).length = hs.length + 1 := by simp
  have hc0 := hD.c0
  rw [hlen] at hc0
  go_wp2_with fail
  refine (len_any lb 0 (hs.length + 1) cap _ w1 hc0).mono ?_
  rintro e w2 ⟨rfl, hw⟩; obtain rfl := hw.symm; clear hw
  go_wp2_with fail
  refine (up_at _ _ hD _ hs.length (by omega) (hs.length + 1) (by omega) (by omega)).mono ?_
  rintro e w2 ⟨rfl, hD2, hc2⟩
  go_wp2_with fail
  go_end0
  have hlb1 : lb < w1.heap.size := World.block_lt_of_cell? w1 _ hD.c0
  refine ⟨rfl, hb, cap, pb, hD2, hblk, ?_, ?_⟩
  · refine hc.trans hc2 (fun k hk e => ?_)
    rcases hblk k e with h | h
    · exact .inr h
    · omega
  · exact hk.chg hc2 hlb1 (by have := hD.ne; have := hD.nelb; omega)

set_option maxHeartbeats 2000000 in
theorem hremove_calls {w : World} {lb hb cap pb : Nat} {hs : List Dbt} (h : DL w lb hb cap pb hs) (i : Nat) (hi : i < hs.length) :
    Calls Try.prog 36 #[.iface 80 (.pointer (some ⟨lb, 0, none⟩)), .int .i64 i] w fun e w' => (∃ v, e = .returned v) ∧
      DL w' lb hb cap pb (removeF hs i) ∧ Chg (fun k => k = lb ∨ k = hb ∨ k = pb) w w' ∧ KeepS lb (fun o => o = 0) w w' := by
  have hmp := meth_pop
  have hml := meth_len
  have hms := meth_swap
  have hsm := h.small
  obtain ⟨m, hm⟩ : ∃ m, hs.length = m + 1 := ⟨hs.length - 1, by omega⟩
  have hc0 := h.c0
  rw [hm] at hc0
  have hlbs : lb < w.heap.size := World.block_lt_of_cell? w _ h.c0
  by_cases him : i = m
  · subst him
    have hR : removeF hs i = hs.take i := by unfold removeF; rw [hm]; simp
    have b1 : ((i : Int) != (i : Int)) = false := by simp
    go_enter Try.func36, Try.ntmps36
    go_wp2_with fail
    refine (len_any lb 0 (i + 1) cap _ w hc0).mono ?_
    rintro e w2 ⟨rfl, hw⟩; obtain rfl := hw.symm; clear hw
    go_wp2_with fail
    refine (pop_calls h hm (List.getElem?_eq_getElem hi)).mono ?_
    rintro e w3 ⟨rfl, hD3, hc3, hk3⟩
    go_wp2_with fail
    go_ret
    exact ⟨⟨_, rfl⟩, by rw [hR]; exact hD3, hc3, hk3⟩
  · have b1 : ((m : Int) != (i : Int)) = true := by simp; omega
    go_enter Try.func36, Try.ntmps36
    go_wp2_with fail
    refine (len_any lb 0 (m + 1) cap _ w hc0).mono ?_
    rintro e w2 ⟨rfl, hw⟩; obtain rfl := hw.symm; clear hw
    go_wp2_with fail
    refine (swap_at h _ _ i m (by omega) (by omega) (by omega) (by omega) (by omega)).mono ?_
    rintro e w1 ⟨rfl, hD1, hc1⟩
    go_wp2_with fail
    have hl1 : (swp hs i m).length = m + 1 := by rw [swp_length, hm]
    refine (down_calls w1 _ hD1 i m (by omega) (by omega) (m + 1) (by omega)).mono ?_
    rintro e w2 ⟨rfl, hD2, hc2⟩
    generalize hr : downF (m + 1) (swp hs i m) m i = r at *
    have hl2 : r.1.length = m + 1 := by rw [← hr, downF_length, hl1]
    have hlb1 : lb < w1.heap.size := Nat.lt_of_lt_of_le hlbs hc1.size
    have hlb2 : lb < w2.heap.size := Nat.lt_of_lt_of_le hlb1 hc2.size
    have hne := h.ne
    have hnelb := h.nelb
    by_cases hmv : i < r.2
    · have b2 : decide (i < r.2) = true := by simpa using hmv
      rw [b2]
      go_wp2_with fail
      refine (pop_calls hD2 hl2 (List.getElem?_eq_getElem (by omega))).mono ?_
      rintro e w3 ⟨rfl, hD3, hc3, hk3⟩
      go_wp2_with fail
      go_ret
      have hR : removeF hs i = r.1.take m := by
        unfold removeF
        rw [hm, if_neg (by simp; omega)]
        simp only [Nat.add_sub_cancel, hr, if_pos hmv]
      refine ⟨⟨_, rfl⟩, by rw [hR]; exact hD3, ?_, ?_⟩
      · exact (((hc1.trans hc2 (fun k _ e => e)).mono (G := fun k => k = lb ∨ k = hb ∨ k = pb) (fun k _ e => .inr e)).trans hc3 (fun k _ e => e))
      · exact (((KeepS.refl lb _ w).chg hc1 hlbs (by omega)).chg hc2 hlb1 (by omega)).trans hk3
    · have b2 : decide (i < r.2) = false := by simpa using hmv
      rw [b2]
      go_wp2_with fail
      refine (up_at w2 _ hD2 _ i (by omega) (m + 1) (by omega) rfl).mono ?_
      rintro e w3 ⟨rfl, hD3, hc3⟩
      go_wp2_with fail
      have hl3 : (upF (m + 1) r.1 i).length = m + 1 := by rw [upF_length, hl2]
      refine (pop_calls hD3 hl3 (List.getElem?_eq_getElem (by omega))).mono ?_
      rintro e w4 ⟨rfl, hD4, hc4, hk4⟩
      go_wp2_with fail
      go_ret
      have hR : removeF hs i = (upF (m + 1) r.1 i).take m := by
        unfold removeF
        rw [hm, if_neg (by simp; omega)]
        simp only [Nat.add_sub_cancel, hr, if_neg hmv]
      have hlb3 : lb < w3.heap.size := Nat.lt_of_lt_of_le hlb2 hc3.size
      refine ⟨⟨_, rfl⟩, by rw [hR]; exact hD4, ?_, ?_⟩
      · exact ((((hc1.trans hc2 (fun k _ e => e)).trans hc3 (fun k _ e => e)).mono (G := fun k => k = lb ∨ k = hb ∨ k = pb) (fun k _ e => .inr e)).trans hc4 (fun k _ e => e))
      · exact ((((KeepS.refl lb _ w).chg hc1 hlbs (by omega)).chg hc2 hlb1 (by omega)).chg hc3 hlb2 (by omega)).trans hk4
end Go.Proofs.Qxb6616074a
