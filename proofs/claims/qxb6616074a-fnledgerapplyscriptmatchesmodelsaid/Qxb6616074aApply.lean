/-
  OWN TEXT. (*ledger).apply: its contract.
-/
import Derived.Test.Qxb6616074aLed2
import Derived.Deep.RegionWith
namespace Go.Proofs.Qxb6616074a
open Go.RowKit Go.MapKept Go.ChangeMaps

def ApplyPost (w : World) (lb : Nat) (F : List Nat) (L' : Led) (e : Ending) (w' : World) : Prop :=
  e = .returned (.tuple #[]) ∧ ∃ F', LedS w' lb F' L' ∧ Stp lb F w F' w'

theorem mem_D {D a b c : List Nat} {k : Nat} (h : k ∈ D) : k ∈ D ++ a ++ b ++ c := by simp [h]

/-- the doubts turn by 'hold' -/
theorem led_hold {w w' : World} {lb : Nat} {D : List Nat} {uv : Value} {nu : Nat} {amv aov : Value} {na : Nat} {cmv cov : Value} {nc : Nat} {L : Led} (h : LedgerAt w lb D uv nu amv aov na cmv cov nc L) {D' : List Nat} {hs' : List Dbt}
    (hD : DoubtsAt w' lb D' hs') (hn : ∀ k ∈ D', k ∈ D ∨ w.heap.size ≤ k) (hc : Chg (fun k => k = lb ∨ k ∈ D) w w') (hk : KeepS lb (fun o => o = 0 ∨ o = 1) w w') :
    ∃ F', LedS w' lb F' { L with hs := hs' } ∧ Stp lb (D ++ vblk uv ++ (vblk amv ++ vblk aov) ++ (vblk cmv ++ vblk cov)) w F' w' := by
  refine ⟨_, ⟨D', uv, nu, amv, aov, na, cmv, cov, nc, h.setDoubts hD hn hc hk, rfl⟩, ⟨hc.mono (fun k _ e => ?_), fun k hk => ?_⟩⟩
  · rcases e with e | e
    · exact .inl e
    · exact .inr (mem_D e)
  · simp only [List.mem_append] at hk ⊢
    rcases hk with ((hk | hk) | hk) | hk
    · rcases hn k hk with h' | h'
      · exact .inl (.inl (.inl (.inl h')))
      · exact .inr h'
    · exact .inl (.inl (.inl (.inr hk)))
    · exact .inl (.inl (.inr hk))
    · exact .inl (.inr hk)

set_option maxRecDepth 100000 in
set_option maxHeartbeats 2000000 in
theorem apply_1 {w : World} {lb : Nat} {F : List Nat} {L : Led} (h : LedS w lb F L) (hl : L.hs.length < 1000000000) (t : ByteArray) (s : Int) :
    Calls Try.prog 21 #[.pointer (some ⟨lb, 0, none⟩), .agg #[.int .u8 1, .string t, .int .u64 s]] w (ApplyPost w lb F { L with hs := holdF L.hs t s }) := by
  have hlb := h.lb_lt
  obtain ⟨w0, hw0⟩ : ∃ w0, w.alloc (.cells #[.int .u8 1, .string t, .int .u64 s] 65) = w0 := ⟨_, rfl⟩
  have hc0 : Chg (fun _ => False) w w0 := by rw [← hw0]; exact chg_alloc _ _ _
  have e1 : w0.cell? ⟨w.heap.size, 1, none⟩ = some (.string t) := by rw [← hw0, cell_new rfl]; rfl
  have e2 : w0.cell? ⟨w.heap.size, 2, none⟩ = some (.int .u64 s) := by rw [← hw0, cell_new rfl]; rfl
  have h0 : LedS w0 lb F L := h.frame hc0 (fun x => x) (fun _ _ x => x)
  have e0 : w0.cell? ⟨w.heap.size, 0, none⟩ = some (.int .u8 1) := by rw [← hw0, cell_new rfl]; rfl
  obtain ⟨D, uv, nu, amv, aov, na, cmv, cov, nc, hL, rfl⟩ := h0
  have hdb : DoubtsAt w0.drew lb D L.hs := hL.dbt.frameS (F := fun _ => False) (O := fun _ => False) ((Chg.refl _ w0).drew) (KeepS.refl _ _ _).drew (fun x => x) (fun x => x) (fun _ _ x => x)
  go_enter Try.func21, Try.ntmps21
  go_wp2
  clear hw0
  go_region_with (go_at_call 29; refine (hold_calls hdb t s hl).mono ?_; rintro e w' ⟨rfl, D', q1, q2, q3, q4⟩)
  all_goals
    go_wp2
    go_end0
    obtain ⟨F', hF1, hF2⟩ := led_hold hL q1 q2 (((Chg.refl _ w0).drew).tr q3) (((KeepS.refl _ _ w0).drew).trans q4)
    exact ⟨rfl, F', hF1, (Stp.of_chg hc0).trans hF2⟩
end Go.Proofs.Qxb6616074a
