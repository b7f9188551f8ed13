/-
  OWN TEXT. (*doubts).drop, hold: contracts.
-/
import Derived.Test.Qxb6616074aHold
import Derived.Test.Qxb6616074aPlain
namespace Go.Proofs.Qxb6616074a
open Go.RowKit Go.MapKept Go.ChangeMaps

theorem zero3 (w : World) : (zeroValue 3).run Try.prog w = .ok (.int .i64 0) w := by kernel_rfl

theorem good_nd {hs : List Dbt} {pl : ByteArray → Option Nat} (h : Good hs pl) : KeysND hs := by
  unfold KeysND List.Nodup
  rw [List.pairwise_iff_getElem]
  intro i j hi hj hij e
  have hil : i < hs.length := by simpa using hi
  have hjl : j < hs.length := by simpa using hj
  rw [List.getElem_map, List.getElem_map] at e
  have := h.inj (List.getElem?_eq_getElem hil) (List.getElem?_eq_getElem hjl) e
  omega

theorem DoubtsAt.nd {w : World} {lb : Nat} {D : List Nat} {hs : List Dbt} (h : DoubtsAt w lb D hs) : KeysND hs := by
  rcases h with ⟨_, rfl, _⟩ | ⟨hb, cap, pb, rfl, h⟩
  · simp [KeysND]
  · obtain ⟨pl, _, hg⟩ := h.map
    exact good_nd hg

set_option maxHeartbeats 1000000 in
theorem drop_calls {w : World} {lb : Nat} {D : List Nat} {hs : List Dbt} (h : DoubtsAt w lb D hs) (t : ByteArray) :
    Calls Try.prog 31 #[.pointer (some ⟨lb, 0, none⟩), .string t] w fun e w' => e = .returned (.tuple #[]) ∧
      DoubtsAt w' lb D (dropF hs t) ∧ Chg (fun k => k = lb ∨ k ∈ D) w w' ∧ KeepS lb (fun o => o = 0) w w' := by
  rcases h with ⟨rfl, rfl, c0, c1, f0, f1⟩ | ⟨hb, cap, pb, rfl, h⟩
  · have hlk := look_nil (P := Try.prog) (w := w) (t := 42) (kt := 9) (et := 3) Try.underlying42 Try.underlying9 (zero3 w) t
    go_enter Try.func31, Try.ntmps31
    go_wp2_with fail
    go_end0
    exact ⟨rfl, .inl ⟨rfl, rfl, c0, c1, f0, f1⟩, Chg.refl _ _, KeepS.refl _ _ _⟩
  · obtain ⟨pl, hM, hgood⟩ := h.map
    have hlk := hM.look (P := Try.prog) (t := 42) (kt := 9) (et := 3) Try.underlying42 Try.underlying9 (zero3 w) t
    have hfi := good_findIdx hgood t
    have hc1 := h.c1
    cases hp : pl t with
    | none =>
      rw [hp] at hlk hfi
      simp only [Option.map_none, Option.getD_none, Option.isSome_none] at hlk
      have hd : dropF hs t = hs := by unfold dropF; rw [hfi]
      go_enter Try.func31, Try.ntmps31
      go_wp2_with fail
      go_end0
      exact ⟨rfl, by rw [hd]; exact .inr ⟨hb, cap, pb, rfl, h⟩, Chg.refl _ _, KeepS.refl _ _ _⟩
    | some i =>
      rw [hp] at hlk hfi
      simp only [Option.map_some, Option.getD_some, Option.isSome_some, natV] at hlk
      have hil : i < hs.length := (List.findIdx?_eq_some_iff_getElem.1 hfi).1
      have hd : dropF hs t = removeF hs i := by unfold dropF; rw [hfi]
      go_enter Try.func31, Try.ntmps31
      go_wp2_with fail
      refine (hremove_calls h i hil).mono ?_
      rintro e w1 ⟨⟨v, rfl⟩, hD1, hc1, hk1⟩
      go_wp2_with fail
      go_end0
      exact ⟨rfl, by rw [hd]; exact .inr ⟨hb, cap, pb, rfl, hD1⟩, hc1.mono (fun k _ e => by simpa using e), hk1⟩

set_option maxHeartbeats 1000000 in
theorem hold_calls {w : World} {lb : Nat} {D : List Nat} {hs : List Dbt} (h : DoubtsAt w lb D hs) (t : ByteArray) (s : Int) (hl : hs.length < 1000000000) :
    Calls Try.prog 29 #[.pointer (some ⟨lb, 0, none⟩), .string t, .int .u64 s] w fun e w' => e = .returned (.tuple #[]) ∧
      ∃ D', DoubtsAt w' lb D' (holdF hs t s) ∧ (∀ k ∈ D', k ∈ D ∨ w.heap.size ≤ k) ∧ Chg (fun k => k = lb ∨ k ∈ D) w w' ∧ KeepS lb (fun o => o = 0 ∨ o = 1) w w' := by
  have hnd := h.nd
  have hlen : (dropF hs t).length < 1000000000 := by
    rw [dropF_length]; split <;> omega
  go_enter Try.func29, Try.ntmps29
  go_wp2_with fail
  refine (drop_calls h t).mono ?_
  rintro e w1 ⟨rfl, hD1, hc1, hk1⟩
  go_wp2_with fail
  refine (hpush_calls hD1 (t, s) (fun x hx => ((mem_dropF hnd t x).1 hx).2) hlen).mono ?_
  rintro e w2 ⟨rfl, hb, cap, pb, hD2, hblk, hc2, hk2⟩
  go_wp2_with fail
  go_end0
  refine ⟨rfl, [hb, pb], .inr ⟨hb, cap, pb, rfl, hD2⟩, ?_, hc1.trans hc2 (fun k _ e => e), (hk1.mono (fun o e => .inl e)).trans hk2⟩
  intro k hk
  rcases hblk k (by simpa using hk) with h | h
  · exact .inl h
  · exact .inr (Nat.le_trans hc1.size h)
end Go.Proofs.Qxb6616074a
