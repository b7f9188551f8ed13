/-
  OWN TEXT. The ledger: one part of it turns, the others stand.
-/
import Derived.Test.Qxb6616074aLed
namespace Go.Proofs.Qxb6616074a
open Go.RowKit Go.MapKept Go.ChangeMaps

section
variable {w w' : World} {lb : Nat} {D : List Nat} {uv : Value} {nu : Nat} {amv aov : Value} {na : Nat} {cmv cov : Value} {nc : Nat} {L : Led}

theorem apart_new {a b a' : List Nat} {n : Nat} (h : Apart a b) (hb : ∀ k ∈ b, k < n) (hn : ∀ k ∈ a', k ∈ a ∨ n ≤ k) : Apart a' b := by
  intro k hk hkb
  rcases hn k hk with h' | h'
  · exact h k h' hkb
  · have := hb k hkb; omega

theorem LedgerAt.setDoubts (h : LedgerAt w lb D uv nu amv aov na cmv cov nc L) {D' : List Nat} {hs' : List Dbt} (hD : DoubtsAt w' lb D' hs') (hn : ∀ k ∈ D', k ∈ D ∨ w.heap.size ≤ k)
    (hc : Chg (fun k => k = lb ∨ k ∈ D) w w') (hk : KeepS lb (fun o => o = 0 ∨ o = 1) w w') : LedgerAt w' lb D' uv nu amv aov na cmv cov nc { L with hs := hs' } := by
  have hs := hc.size
  have nU : ∀ k ∈ vblk uv, ¬ (k = lb ∨ k ∈ D) := fun k hk e => by rcases e with e | e; exact (h.ul k hk).2 e; exact h.du k e hk
  have nA : ∀ k ∈ vblk amv ++ vblk aov, ¬ (k = lb ∨ k ∈ D) := fun k hk e => by rcases e with e | e; exact h.abo.nel k hk e; exact h.da k e hk
  have nC : ∀ k ∈ vblk cmv ++ vblk cov, ¬ (k = lb ∨ k ∈ D) := fun k hk e => by rcases e with e | e; exact h.com.nel k hk e; exact h.dc k e hk
  exact ⟨hD, h.una.frameS hc hk (by omega) nU, h.abo.frameS hc hk (by omega) (by omega) (by omega) (fun k hk => nA k (List.mem_append.2 (.inl hk))) (fun k hk => nA k (List.mem_append.2 (.inr hk))),
    h.com.frameS hc hk (by omega) (by omega) (by omega) (fun k hk => nC k (List.mem_append.2 (.inl hk))) (fun k hk => nC k (List.mem_append.2 (.inr hk))), (hk.cell _ (by omega)).trans h.c9, (hk.frozen _).trans h.f9,
    hD.lts, fun k hk => ⟨by have := (h.ul k hk).1; omega, (h.ul k hk).2⟩, fun k hk => by have := h.al k hk; omega, fun k hk => by have := h.cl k hk; omega,
    apart_new h.du (fun k hk => (h.ul k hk).1) hn, apart_new h.da h.al hn, apart_new h.dc h.cl hn, h.ua, h.uc, h.ac⟩

theorem LedgerAt.setAb (h : LedgerAt w lb D uv nu amv aov na cmv cov nc L) {amv' aov' : Value} {na' : Nat} {S : LogS} (hA : LogAt w' lb 3 amv' aov' S.latest na' S.order S.count)
    (hn : ∀ k ∈ vblk amv' ++ vblk aov', k ∈ vblk amv ++ vblk aov ∨ w.heap.size ≤ k) (hc : Chg (fun k => k = lb ∨ k ∈ vblk amv ++ vblk aov) w w') (hk : KeepS lb (fun x => x = 3 ∨ x = 3 + 1 ∨ x = 3 + 2) w w') :
    LedgerAt w' lb D uv nu amv' aov' na' cmv cov nc { L with ab := S } := by
  have hs := hc.size
  have nD : ∀ k ∈ D, ¬ (k = lb ∨ k ∈ vblk amv ++ vblk aov) := fun k hk e => by rcases e with e | e; exact (h.dl k hk).2 e; exact h.da k hk e
  have nU : ∀ k ∈ vblk uv, ¬ (k = lb ∨ k ∈ vblk amv ++ vblk aov) := fun k hk e => by rcases e with e | e; exact (h.ul k hk).2 e; exact h.ua k hk e
  have nC : ∀ k ∈ vblk cmv ++ vblk cov, ¬ (k = lb ∨ k ∈ vblk amv ++ vblk aov) := fun k hk e => by rcases e with e | e; exact h.com.nel k hk e; exact h.ac k e hk
  exact ⟨h.dbt.frameS hc hk (by omega) (by omega) nD, h.una.frameS hc hk (by omega) nU, hA,
    h.com.frameS hc hk (by omega) (by omega) (by omega) (fun k hk => nC k (List.mem_append.2 (.inl hk))) (fun k hk => nC k (List.mem_append.2 (.inr hk))), (hk.cell _ (by omega)).trans h.c9, (hk.frozen _).trans h.f9,
    fun k hk => ⟨by have := (h.dl k hk).1; omega, (h.dl k hk).2⟩, fun k hk => ⟨by have := (h.ul k hk).1; omega, (h.ul k hk).2⟩, hA.lts, fun k hk => by have := h.cl k hk; omega,
    h.du, (apart_new h.da.symm (fun k hk => (h.dl k hk).1) hn).symm, h.dc, (apart_new h.ua.symm (fun k hk => (h.ul k hk).1) hn).symm, h.uc, apart_new h.ac h.cl hn⟩

theorem LedgerAt.setCm (h : LedgerAt w lb D uv nu amv aov na cmv cov nc L) {cmv' cov' : Value} {nc' : Nat} {S : LogS} (hA : LogAt w' lb 6 cmv' cov' S.latest nc' S.order S.count)
    (hn : ∀ k ∈ vblk cmv' ++ vblk cov', k ∈ vblk cmv ++ vblk cov ∨ w.heap.size ≤ k) (hc : Chg (fun k => k = lb ∨ k ∈ vblk cmv ++ vblk cov) w w') (hk : KeepS lb (fun x => x = 6 ∨ x = 6 + 1 ∨ x = 6 + 2) w w') :
    LedgerAt w' lb D uv nu amv aov na cmv' cov' nc' { L with cm := S } := by
  have hs := hc.size
  have nD : ∀ k ∈ D, ¬ (k = lb ∨ k ∈ vblk cmv ++ vblk cov) := fun k hk e => by rcases e with e | e; exact (h.dl k hk).2 e; exact h.dc k hk e
  have nU : ∀ k ∈ vblk uv, ¬ (k = lb ∨ k ∈ vblk cmv ++ vblk cov) := fun k hk e => by rcases e with e | e; exact (h.ul k hk).2 e; exact h.uc k hk e
  have nA : ∀ k ∈ vblk amv ++ vblk aov, ¬ (k = lb ∨ k ∈ vblk cmv ++ vblk cov) := fun k hk e => by rcases e with e | e; exact h.abo.nel k hk e; exact h.ac k hk e
  exact ⟨h.dbt.frameS hc hk (by omega) (by omega) nD, h.una.frameS hc hk (by omega) nU, h.abo.frameS hc hk (by omega) (by omega) (by omega) (fun k hk => nA k (List.mem_append.2 (.inl hk))) (fun k hk => nA k (List.mem_append.2 (.inr hk))), hA,
    (hk.cell _ (by omega)).trans h.c9, (hk.frozen _).trans h.f9,
    fun k hk => ⟨by have := (h.dl k hk).1; omega, (h.dl k hk).2⟩, fun k hk => ⟨by have := (h.ul k hk).1; omega, (h.ul k hk).2⟩, fun k hk => by have := h.al k hk; omega, hA.lts,
    h.du, h.da, (apart_new h.dc.symm (fun k hk => (h.dl k hk).1) hn).symm, h.ua, (apart_new h.uc.symm (fun k hk => (h.ul k hk).1) hn).symm, (apart_new h.ac.symm h.al hn).symm⟩

theorem LedgerAt.setUn (h : LedgerAt w lb D uv nu amv aov na cmv cov nc L) {uv' : Value} {nu' : Nat} {un' : ByteArray → Option Int} (hU : UnAt w' lb uv' un' nu')
    (hul : ∀ k ∈ vblk uv', k < w'.heap.size ∧ k ≠ lb) (hn : ∀ k ∈ vblk uv', k ∈ vblk uv ∨ w.heap.size ≤ k) (hc : Chg (fun k => k = lb ∨ k ∈ vblk uv) w w') (hk : KeepS lb (fun x => x = 2) w w') :
    LedgerAt w' lb D uv' nu' amv aov na cmv cov nc { L with un := un' } := by
  have hs := hc.size
  have nD : ∀ k ∈ D, ¬ (k = lb ∨ k ∈ vblk uv) := fun k hk e => by rcases e with e | e; exact (h.dl k hk).2 e; exact h.du k hk e
  have nA : ∀ k ∈ vblk amv ++ vblk aov, ¬ (k = lb ∨ k ∈ vblk uv) := fun k hk e => by rcases e with e | e; exact h.abo.nel k hk e; exact h.ua k e hk
  have nC : ∀ k ∈ vblk cmv ++ vblk cov, ¬ (k = lb ∨ k ∈ vblk uv) := fun k hk e => by rcases e with e | e; exact h.com.nel k hk e; exact h.uc k e hk
  exact ⟨h.dbt.frameS hc hk (by omega) (by omega) nD, hU, h.abo.frameS hc hk (by omega) (by omega) (by omega) (fun k hk => nA k (List.mem_append.2 (.inl hk))) (fun k hk => nA k (List.mem_append.2 (.inr hk))),
    h.com.frameS hc hk (by omega) (by omega) (by omega) (fun k hk => nC k (List.mem_append.2 (.inl hk))) (fun k hk => nC k (List.mem_append.2 (.inr hk))), (hk.cell _ (by omega)).trans h.c9, (hk.frozen _).trans h.f9,
    fun k hk => ⟨by have := (h.dl k hk).1; omega, (h.dl k hk).2⟩, hul, fun k hk => by have := h.al k hk; omega, fun k hk => by have := h.cl k hk; omega,
    (apart_new h.du.symm (fun k hk => (h.dl k hk).1) hn).symm, h.da, h.dc, apart_new h.ua h.al hn, apart_new h.uc h.cl hn, h.ac⟩

theorem LedgerAt.setFg (h : LedgerAt w lb D uv nu amv aov na cmv cov nc L) (g : Int) : LedgerAt (w.setCell ⟨lb, 9, none⟩ (.int .u64 g)) lb D uv nu amv aov na cmv cov nc { L with fg := g } := by
  have hc : Chg (fun k => k = lb) w (w.setCell ⟨lb, 9, none⟩ (.int .u64 g)) := (Chg.refl (fun k => k = lb) w).setCell (a := ⟨lb, 9, none⟩) (fun _ => rfl) _
  have hk : KeepS lb (fun x => x = 9) w (w.setCell ⟨lb, 9, none⟩ (.int .u64 g)) := (KeepS.refl lb (fun x => x = 9) w).setCell (a := ⟨lb, 9, none⟩) (fun _ _ => rfl) _
  have hs := hc.size
  exact ⟨h.dbt.frameS hc hk (by omega) (by omega) (fun k hk => (h.dl k hk).2), h.una.frameS hc hk (by omega) (fun k hk => (h.ul k hk).2),
    h.abo.frameS hc hk (by omega) (by omega) (by omega) (fun k hk => h.abo.nel k (List.mem_append.2 (.inl hk))) (fun k hk => h.abo.nel k (List.mem_append.2 (.inr hk))),
    h.com.frameS hc hk (by omega) (by omega) (by omega) (fun k hk => h.com.nel k (List.mem_append.2 (.inl hk))) (fun k hk => h.com.nel k (List.mem_append.2 (.inr hk))),
    World.cell?_setCell_same _ _ _ h.c9, (hk.frozen _).trans h.f9,
    fun k hk => ⟨by have := (h.dl k hk).1; omega, (h.dl k hk).2⟩, fun k hk => ⟨by have := (h.ul k hk).1; omega, (h.ul k hk).2⟩, fun k hk => by have := h.al k hk; omega, fun k hk => by have := h.cl k hk; omega, h.du, h.da, h.dc, h.ua, h.uc, h.ac⟩
end
end Go.Proofs.Qxb6616074a
