/-
  OWN TEXT. txnAgrees: its contract.
-/
import Derived.Test.Qxb6616074aAgrNN
import Derived.Test.Qxb6616074aAgrNS
import Derived.Test.Qxb6616074aAgrSN
import Derived.Test.Qxb6616074aAgrSS
namespace Go.Proofs.Qxb6616074a
open Go.RowKit Go.MapKept Go.ChangeMaps

theorem RS.at {w : World} {b : Nat} {G : List Nat} {R : Resn} {N : Nat} (h : RS w b G R N) (hN : N < 2000000) {i : Nat} (hi : i < N) :
    ∃ N g1 o1 c1 g2 o2 c2, N < 2000000 ∧ i < N ∧ ∀ wq, Chg (fun _ => False) w wq → wq.cell? ⟨b, 1, none⟩ = some (.slice (some ⟨g1, o1, none⟩) N c1) ∧ wq.cell? ⟨b, 2, none⟩ = some (.slice (some ⟨g2, o2, none⟩) N c2) ∧ wq.cell? ⟨g1, o1 + i, none⟩ = some (.int .u64 (R i).2.2) ∧ wq.cell? ⟨g2, o2 + i, none⟩ = some (.int .u8 (R i).1) := by
  obtain ⟨g0, o0, c0, g1, o1, c1, g2, o2, c2, hv⟩ := h.view (by omega)
  exact ⟨N, g1, o1, c1, g2, o2, c2, hN, hi, fun wq hq => ⟨(hv.chg hq).c1, (hv.chg hq).c2, (hv.chg hq).s i hi, (hv.chg hq).k i hi⟩⟩

theorem agrees_calls {w : World} {lb db ub ab cb : Nat} {F : List Nat} {L : Led} {f : ByteArray → Option Int} {nd : Nat} {u : ByteArray → Option Int} {nu : Nat} {Ga : List Nat} {Ra : Resn} {Na : Nat} {Gc : List Nat} {Rc : Resn} {Nc : Nat}
    (h : AG w lb db ub ab cb F L f nd u nu Ga Ra Na Gc Rc Nc) (t : ByteArray) (hd : ∀ s, f t = some s ↔ (t, s) ∈ L.hs) (hu : u t = L.un t) (ha : L.ab.latest t = remF Ra Na t) (hc : L.cm.latest t = remF Rc Nc t) (hNa : Na < 2000000) (hNc : Nc < 2000000) :
    Calls Try.prog 20 #[.pointer (some ⟨lb, 0, none⟩), .string t, .map (some db), .map (some ub), .pointer (some ⟨ab, 0, none⟩), .pointer (some ⟨cb, 0, none⟩)] w (LkP w (.bool true)) := by
  have hA := h.ans t hd hu ha hc hNa hNc
  have hdl := fun wq (hq : Chg (fun _ => False) w wq) => look64 (h.chg hq).dm t
  have hul := fun wq (hq : Chg (fun _ => False) w wq) => look64 (h.chg hq).um t
  unfold avF at hA
  cases hra : remI Ra Na t with
  | none =>
    cases hrc : remI Rc Nc t with
    | none =>
      rw [hra, hrc] at hA
      exact agrees_nn hA hdl hul
    | some ci =>
      rw [hra, hrc] at hA
      exact agrees_ns hA hdl hul (h.rcm.at hNc (remI_lt hrc))
  | some ai =>
    cases hrc : remI Rc Nc t with
    | none =>
      rw [hra, hrc] at hA
      exact agrees_sn hA hdl hul (h.rab.at hNa (remI_lt hra))
    | some ci =>
      rw [hra, hrc] at hA
      exact agrees_ss hA hdl hul (h.rab.at hNa (remI_lt hra)) (h.rcm.at hNc (remI_lt hrc))
end Go.Proofs.Qxb6616074a
