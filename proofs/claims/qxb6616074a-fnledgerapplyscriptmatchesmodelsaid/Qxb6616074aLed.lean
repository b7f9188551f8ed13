/-
  OWN TEXT. The ledger: its plain form, where it lies in memory, and how each part of it may turn.
-/
import Derived.Test.Qxb6616074aDrop
import Derived.Test.Qxb6616074aLog
namespace Go.Proofs.Qxb6616074a
open Go.RowKit Go.MapKept Go.ChangeMaps

structure LogS where
  latest : Latest
  order : List Dbt
  count : Nat

structure Led where
  hs : List Dbt
  un : ByteArray → Option Int
  ab : LogS
  cm : LogS
  fg : Int

def u64V (x : Int) : Value := .int .u64 x

def UnAt (w : World) (lb : Nat) (uv : Value) (un : ByteArray → Option Int) (nu : Nat) : Prop :=
  w.cell? ⟨lb, 2, none⟩ = some uv ∧ w.frozen? ⟨lb, 2, none⟩ = false ∧ ((uv = .map none ∧ un = (fun _ => none) ∧ nu = 0) ∨ ∃ r, uv = .map (some r) ∧ MapAt w r u64V un nu)

def Apart (a b : List Nat) : Prop := ∀ k ∈ a, k ∉ b
theorem Apart.symm {a b : List Nat} (h : Apart a b) : Apart b a := fun k hb ha => h k ha hb

structure LedgerAt (w : World) (lb : Nat) (D : List Nat) (uv : Value) (nu : Nat) (amv aov : Value) (na : Nat) (cmv cov : Value) (nc : Nat) (L : Led) : Prop where
  dbt : DoubtsAt w lb D L.hs
  una : UnAt w lb uv L.un nu
  abo : LogAt w lb 3 amv aov L.ab.latest na L.ab.order L.ab.count
  com : LogAt w lb 6 cmv cov L.cm.latest nc L.cm.order L.cm.count
  c9 : w.cell? ⟨lb, 9, none⟩ = some (.int .u64 L.fg)
  f9 : w.frozen? ⟨lb, 9, none⟩ = false
  dl : ∀ k ∈ D, k < w.heap.size ∧ k ≠ lb
  ul : ∀ k ∈ vblk uv, k < w.heap.size ∧ k ≠ lb
  al : ∀ k ∈ vblk amv ++ vblk aov, k < w.heap.size
  cl : ∀ k ∈ vblk cmv ++ vblk cov, k < w.heap.size
  du : Apart D (vblk uv)
  da : Apart D (vblk amv ++ vblk aov)
  dc : Apart D (vblk cmv ++ vblk cov)
  ua : Apart (vblk uv) (vblk amv ++ vblk aov)
  uc : Apart (vblk uv) (vblk cmv ++ vblk cov)
  ac : Apart (vblk amv ++ vblk aov) (vblk cmv ++ vblk cov)

/-- The ledger L lies at block lb; F: all blocks besides that it owns. -/
def LedS (w : World) (lb : Nat) (F : List Nat) (L : Led) : Prop :=
  ∃ D uv nu amv aov na cmv cov nc, LedgerAt w lb D uv nu amv aov na cmv cov nc L ∧ F = D ++ vblk uv ++ (vblk amv ++ vblk aov) ++ (vblk cmv ++ vblk cov)

/-- From w to w' only the ledger's own blocks have turned, and F' adds none but new ones to F. -/
def Stp (lb : Nat) (F : List Nat) (w : World) (F' : List Nat) (w' : World) : Prop :=
  Chg (fun k => k = lb ∨ k ∈ F) w w' ∧ ∀ k ∈ F', k ∈ F ∨ w.heap.size ≤ k

theorem Stp.refl (lb : Nat) (F : List Nat) (w : World) : Stp lb F w F w := ⟨Chg.refl _ _, fun _ h => .inl h⟩
theorem Stp.trans {lb : Nat} {F F' F'' : List Nat} {w w' w'' : World} (h : Stp lb F w F' w') (k : Stp lb F' w' F'' w'') : Stp lb F w F'' w'' := by
  refine ⟨h.1.trans k.1 ?_, ?_⟩
  · intro x hx e
    rcases e with e | e
    · exact .inl e
    · rcases h.2 x e with h' | h'
      · exact .inr h'
      · omega
  · intro x hx
    rcases k.2 x hx with h' | h'
    · exact h.2 x h'
    · exact .inr (Nat.le_trans h.1.size h')
theorem Stp.of_chg {lb : Nat} {F : List Nat} {w w' : World} (h : Chg (fun _ => False) w w') : Stp lb F w F w' := ⟨h.mono (fun _ _ x => x.elim), fun _ h => .inl h⟩

section
variable {w w' : World} {lb : Nat} {F : Nat → Prop} {D : List Nat} {hs : List Dbt} {uv : Value} {un : ByteArray → Option Int} {nu : Nat}

theorem DL.frameS {hb cap pb : Nat} {O : Nat → Prop} (h : DL w lb hb cap pb hs) (hc : Chg F w w') (hk : KeepS lb O w w') (h0 : ¬ O 0) (h1 : ¬ O 1) (hb' : ¬ F hb) (hp : ¬ F pb) : DL w' lb hb cap pb hs := by
  obtain ⟨pl, hM, hg⟩ := h.map
  exact ⟨(hk.cell _ h0).trans h.c0, (hk.cell _ h1).trans h.c1, (hk.frozen _).trans h.f0, (hk.frozen _).trans h.f1, h.ne, h.nep, Nat.lt_of_lt_of_le h.lt hc.size, h.capm, h.row.kept hc h.lt hb', h.small, pl, hM.kept hc hp, hg⟩
theorem DoubtsAt.frameS {O : Nat → Prop} (h : DoubtsAt w lb D hs) (hc : Chg F w w') (hk : KeepS lb O w w') (h0 : ¬ O 0) (h1 : ¬ O 1) (hD : ∀ k ∈ D, ¬ F k) : DoubtsAt w' lb D hs := by
  rcases h with ⟨rfl, rfl, c0, c1, f0, f1⟩ | ⟨hb, cap, pb, rfl, h⟩
  · exact .inl ⟨rfl, rfl, (hk.cell _ h0).trans c0, (hk.cell _ h1).trans c1, (hk.frozen _).trans f0, (hk.frozen _).trans f1⟩
  · exact .inr ⟨hb, cap, pb, rfl, h.frameS hc hk h0 h1 (hD hb (by simp)) (hD pb (by simp))⟩
theorem DoubtsAt.lts (h : DoubtsAt w lb D hs) : ∀ k ∈ D, k < w.heap.size ∧ k ≠ lb := by
  rcases h with ⟨rfl, _⟩ | ⟨hb, cap, pb, rfl, h⟩
  · intro k hk; simp at hk
  · intro k hk
    have := h.lt
    have := h.ne
    have := h.nelb
    obtain ⟨pl, hM, _⟩ := h.map
    have := hM.lt
    simp at hk
    rcases hk with rfl | rfl
    · exact ⟨by omega, by omega⟩
    · exact ⟨by omega, by omega⟩
theorem UnAt.frameS {O : Nat → Prop} (h : UnAt w lb uv un nu) (hc : Chg F w w') (hk : KeepS lb O w w') (h2 : ¬ O 2) (hU : ∀ k ∈ vblk uv, ¬ F k) : UnAt w' lb uv un nu := by
  refine ⟨(hk.cell _ h2).trans h.1, (hk.frozen _).trans h.2.1, ?_⟩
  rcases h.2.2 with h' | ⟨r, rfl, hM⟩
  · exact .inl h'
  · exact .inr ⟨r, rfl, hM.kept hc (hU r (by simp [vblk]))⟩
theorem LogAt.lts {o : Nat} {mv ov : Value} {f : Latest} {nf : Nat} {ord : List Dbt} {cnt : Nat} (h : LogAt w lb o mv ov f nf ord cnt) : ∀ k ∈ vblk mv ++ vblk ov, k < w.heap.size := by
  intro k hk
  rcases List.mem_append.1 hk with hk | hk
  · rcases h.map with ⟨rfl, _⟩ | ⟨r, rfl, hM⟩
    · simp [vblk] at hk
    · simp [vblk] at hk; subst hk; exact hM.lt
  · exact slice_lt h.row k hk
end

section
variable {w w' : World} {lb : Nat} {L : Led} {F : List Nat}

/-- nothing of the ledger has turned -/
theorem LedS.frame (h : LedS w lb F L) {G : Nat → Prop} (hc : Chg G w w') (hlb : ¬ G lb) (hF : ∀ k ∈ F, ¬ G k) : LedS w' lb F L := by
  obtain ⟨D, uv, nu, amv, aov, na, cmv, cov, nc, h, rfl⟩ := h
  have hl : lb < w.heap.size := h.abo.lb_lt
  have hk : KeepS lb (fun _ => False) w w' := (KeepS.refl _ _ _).chg hc hl hlb
  have hs := hc.size
  refine ⟨D, uv, nu, amv, aov, na, cmv, cov, nc, ⟨h.dbt.frameS hc hk (fun x => x) (fun x => x) (fun k hk => hF k (by simp [hk])), h.una.frameS hc hk (fun x => x) (fun k hk => hF k (by simp [hk])),
    h.abo.frame hc hlb (fun k hk => hF k (by simp [hk])) (fun k hk => hF k (by simp [hk])), h.com.frame hc hlb (fun k hk => hF k (by simp [hk])) (fun k hk => hF k (by simp [hk])),
    (hk.cell _ (fun x => x)).trans h.c9, (hk.frozen _).trans h.f9, fun k hk => ⟨by have := (h.dl k hk).1; omega, (h.dl k hk).2⟩, fun k hk => ⟨by have := (h.ul k hk).1; omega, (h.ul k hk).2⟩, fun k hk => by have := h.al k hk; omega, fun k hk => by have := h.cl k hk; omega,
    h.du, h.da, h.dc, h.ua, h.uc, h.ac⟩, rfl⟩

theorem LedS.lb_lt (h : LedS w lb F L) : lb < w.heap.size := by
  obtain ⟨D, uv, nu, amv, aov, na, cmv, cov, nc, h, rfl⟩ := h
  exact h.abo.lb_lt
theorem LedS.lts (h : LedS w lb F L) : ∀ k ∈ F, k < w.heap.size ∧ k ≠ lb := by
  obtain ⟨D, uv, nu, amv, aov, na, cmv, cov, nc, h, rfl⟩ := h
  intro k hk
  simp only [List.mem_append] at hk
  rcases hk with ((hk | hk) | hk) | hk
  · exact h.dl k hk
  · exact h.ul k hk
  · exact ⟨h.al k (List.mem_append.2 hk), h.abo.nel k (List.mem_append.2 hk)⟩
  · exact ⟨h.cl k (List.mem_append.2 hk), h.com.nel k (List.mem_append.2 hk)⟩
end
end Go.Proofs.Qxb6616074a
