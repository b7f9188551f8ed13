/-
  OWN TEXT. zzPriorMatches.
-/
import Derived.Test.Qxb6616141aTrc
import Derived.BigQuiet
import Derived.Deep.RegionHeld3
namespace Go.Proofs.Qxb6616141a
open Go.RowKit
/-- positions at a slice's address -/
structure IxAt (w : World) (a : Option Addr) (b n : Nat) (f : Nat → Nat) : Prop where
  addr : 0 < n → a = some ⟨b, 0, none⟩
  c : ∀ j, j < n → w.cell? ⟨b, j, none⟩ = some (.int .i64 (f j))
theorem IxAt.below {w w' : World} {a : Option Addr} {b n : Nat} {f : Nat → Nat} (h : IxAt w a b n f) (hb : Below w.heap.size w w') : IxAt w' a b n f := ⟨h.addr, fun j hj => below_cell hb (h.c j hj)⟩
/-- entries at a slice's address -/
structure GotAt (w : World) (a : Option Addr) (g n : Nat) (zs : Nat → E) : Prop where
  addr : 0 < n → a = some ⟨g, 0, none⟩
  c : ∀ i, i < n → ∀ q, q < 15 → w.cell? ⟨g, i * 15 + q, none⟩ = some (cE (zs i) q)
theorem GotAt.below {w w' : World} {a : Option Addr} {g n : Nat} {zs : Nat → E} (h : GotAt w a g n zs) (hb : Below w.heap.size w w') : GotAt w' a g n zs := ⟨h.addr, fun i hi q hq => below_cell hb (h.c i hi q hq)⟩
theorem setRow_alloc (W : World) (cur arr : Array Value) (t : TypeId) : (W.alloc (.cells cur t)).setRow W.heap.size arr = W.alloc (.cells arr t) := by
  unfold World.setRow World.alloc
  congr 1
  apply Array.ext
  · simp
  · intro i h1 h2
    simp only [Array.getElem_modify, Array.getElem_push]
    by_cases q : i < W.heap.size
    · simp [q, Nat.ne_of_gt q]
    · have : W.heap.size = i := by simp at h2; omega
      subst this
      simp
theorem box_store (W : World) (b : Nat) (hb : b = W.heap.size) (e : E) : (storeCells ⟨b, 0, none⟩ (encE e)).run Try.prog (W.alloc (.cells #[.int .i64 0, .int .i64 0, .int .i64 0, .bool false, .int .i64 0, .int .i64 0, .bool false, .int .i64 0, .int .i64 0, .bool false, .int .i64 0, .int .i64 0, .bool false, .int .i64 0, .bool false] 96)) = .ok () (W.alloc (.cells (encE e).toArray 96)) := by
  subst hb
  have := run_storeCells_at Try.prog W.heap.size 0 96 (encE e) 0 #[.int .i64 0, .int .i64 0, .int .i64 0, .bool false, .int .i64 0, .int .i64 0, .bool false, .int .i64 0, .int .i64 0, .bool false, .int .i64 0, .int .i64 0, .bool false, .int .i64 0, .bool false] (W.alloc (.cells #[.int .i64 0, .int .i64 0, .int .i64 0, .bool false, .int .i64 0, .int .i64 0, .bool false, .int .i64 0, .int .i64 0, .bool false, .int .i64 0, .int .i64 0, .bool false, .int .i64 0, .bool false] 96)) (heap_alloc_new W _) (by rw [encE_length]; simp) (encE_one e)
  rw [encE_length, setRow_alloc] at this
  rw [this]
  simp
/-- a record and an entry in blocks of their own -/
structure PG (w : World) (pb gb : Nat) (ek ev : Int) (es : Bool) (W : World) : Prop where
  p0 : W.cell? ⟨pb, 0, none⟩ = some (.int .i64 ek)
  p1 : W.cell? ⟨pb, 1, none⟩ = some (.int .i64 ev)
  p2 : W.cell? ⟨pb, 2, none⟩ = some (.bool es)
  g : ∀ q, q < 15 → W.cell? ⟨gb, q, none⟩ = some (cE (ek, ev, es) q)
  bel : Below w.heap.size w W
section
variable {w W W' : World} {pb gb : Nat} {ek ev : Int} {es : Bool}
theorem PG.below (h : PG w pb gb ek ev es W) (hb : Below W.heap.size W W') : PG w pb gb ek ev es W' := ⟨below_cell hb h.p0, below_cell hb h.p1, below_cell hb h.p2, fun q hq => below_cell hb (h.g q hq), below_tr h.bel hb⟩
theorem PG.drew (h : PG w pb gb ek ev es W) : PG w pb gb ek ev es W.drew := ⟨h.p0, h.p1, h.p2, h.g, ⟨h.bel.os, h.bel.tape, h.bel.output, h.bel.size, h.bel.block⟩⟩
def PGS (w : World) (pb gb : Nat) (ek ev : Int) (es : Bool) (W : World) : Prop :=
  W.cell? ⟨pb, 0, none⟩ = some (.int .i64 ek) ∧ W.cell? ⟨pb, 1, none⟩ = some (.int .i64 ev) ∧ W.cell? ⟨pb, 2, none⟩ = some (.bool es) ∧ (∀ q, q < 15 → W.cell? ⟨gb, q, none⟩ = some (cE (ek, ev, es) q)) ∧ PG w pb gb ek ev es W
theorem PG.keep (h : PG w pb gb ek ev es W) : PGS w pb gb ek ev es W := ⟨h.p0, h.p1, h.p2, h.g, h⟩
def PGP (w : World) (pb gb : Nat) (ek ev : Int) (es : Bool) (v : Value) (e : Ending) (w' : World) : Prop := e = .returned v ∧ PG w pb gb ek ev es w'
theorem key_pg (h : PG w pb gb ek ev es W) : Calls Try.prog 34 #[aggE (ek, ev, es)] W (PGP w pb gb ek ev es (.int .i64 ek)) := (key_calls _ W).mono fun _ _ q => ⟨q.1, h.below q.2⟩
theorem stood_pg (h : PG w pb gb ek ev es W) : Calls Try.prog 35 #[aggE (ek, ev, es)] W (PGP w pb gb ek ev es (.bool es)) := (stoodOf_calls _ W).mono fun _ _ q => ⟨q.1, h.below q.2⟩
theorem value_pg (h : PG w pb gb ek ev es W) : Calls Try.prog 36 #[aggE (ek, ev, es)] W (PGP w pb gb ek ev es (.int .i64 (if es then ev else 0))) := (value_calls _ W).mono fun _ _ q => ⟨q.1, h.below q.2⟩
theorem pg_start {w wr : World} (hB : Below w.heap.size w wr) (ek ev : Int) (es : Bool) : PG w wr.heap.size (wr.heap.size + 1) ek ev es ((wr.alloc (.cells #[.int .i64 ek, .int .i64 ev, .bool es] 84)).alloc (.cells (encE (ek, ev, es)).toArray 96)) := by
  have hb := below_alloc (wr.alloc (.cells #[.int .i64 ek, .int .i64 ev, .bool es] 84)) (.cells (encE (ek, ev, es)).toArray 96)
  refine ⟨below_cell hb ((cell_new rfl _ _ _).trans rfl), below_cell hb ((cell_new rfl _ _ _).trans rfl), below_cell hb ((cell_new rfl _ _ _).trans rfl), fun q hq => ?_, below_tr hB (below_tr (below_alloc _ _) hb)⟩
  rw [cell_new (by simp)]
  have hl : q < (encE (ek, ev, es)).length := by rw [encE_length]; exact hq
  unfold cE
  rw [List.getD_eq_getElem?_getD, List.getElem?_eq_getElem hl]
  simp [hl]
end
def RelP (w : World) (m : Nat) (kv : Value) (wr : World) : Prop := ∃ k : Nat, k ≤ m ∧ kv = .int .i64 k ∧ Below w.heap.size w wr
set_option maxRecDepth 100000 in
set_option maxHeartbeats 8000000 in
theorem match_calls (ga ra ia : Option Addr) (g gc rb ro n rc ib ic m : Nat) (zs xs : Nat → E) (f : Nat → Nat) (w : World) (hG : GotAt w ga g m zs) (hR : RecAt w ra rb ro n xs) (hI : IxAt w ia ib m f) (hf : ∀ k, k < m → f k < n ∧ zs k = xs (f k)) (hm : m ≤ 4096) (hn : n ≤ 4096) :
    Calls Try.prog 22 #[.slice ga m gc, .slice ra n rc, .slice ia m ic] w (TB w (.bool true)) := by
  have hm0 : (0 : Int) ≤ (m : Int) := by omega
  go_enter Try.func22, Try.ntmps22
  go_wp2
  go_loopw [7, 8, 9] (fun kv _ _ wr => RelP w m kv wr) (fun kv _ _ _ => m - (intOf kv).toNat)
  case atStart => exact ⟨0, Nat.zero_le _, rfl, Below.refl _ _⟩
  case round =>
    obtain ⟨k, hk, rfl, hB⟩ := hrel
    by_cases hlt : k < m
    · have hlt' : (k : Int) < (m : Int) := by omega
      have ha1 := hG.addr (by omega)
      have ha2 := hI.addr (by omega)
      subst ha1 ha2
      obtain ⟨hfn, hz⟩ := hf k hlt
      have ha3 := hR.addr (by omega)
      subst ha3
      have hG1 := (hG.below hB).c k hlt
      have hG0 := hG1 0 (by omega)
      have ci := (hI.below hB).c k hlt
      have r0 := (hR.below hB).k (f k) hfn
      have r1 := (hR.below hB).v (f k) hfn
      have r2 := (hR.below hB).s (f k) hfn
      rw [← hz] at r0 r1 r2
      generalize zs k = e at hG1 hG0 r0 r1 r2
      obtain ⟨ek, ev, es⟩ := e
      dsimp only at r0 r1 r2
      have f0 : (0 : Int) ≤ (f k : Int) := by omega
      have f1 : (f k : Int) < (n : Int) := by omega
      rw [Nat.add_zero] at hG0
      have hfo := foldE (ek, ev, es)
      have le := encE_length (ek, ev, es)
      generalize f k = p at ci r0 r1 r2 f0 f1 hfn
      clear hf hz
      have hb1 := below_alloc wr (.cells #[.int .i64 ek, .int .i64 ev, .bool es] 84)
      have hG2 : ∀ q, q < 15 → (wr.alloc (.cells #[.int .i64 ek, .int .i64 ev, .bool es] 84)).cell? ⟨g, k * 15 + q, none⟩ = some (cE (ek, ev, es) q) := fun q hq => below_cell hb1 (hG1 q hq)
      have hG3 := below_cell hb1 hG0
      clear hG1 hG0 hb1
      have hbs := box_store (wr.alloc (.cells #[.int .i64 ek, .int .i64 ev, .bool es] 84)) (wr.heap.size + 1) (by simp) (ek, ev, es)
      have hPG := pg_start hB ek ev es
      go_wp2_with fail
      clear hbs hG2 hG3 ci r0 r1 r2 hB hG hI hR
      generalize ((wr.alloc (.cells #[.int .i64 ek, .int .i64 ev, .bool es] 84)).alloc (.cells (encE (ek, ev, es)).toArray 96)) = W2 at hPG ⊢
      generalize wr.heap.size + 1 = gb at hPG ⊢
      generalize wr.heap.size = pb at hPG ⊢
      have hPd := hPG.drew
      clear hPG
      go_region_held3 (fun W => W.cell? ⟨pb, 0, none⟩ = some (.int .i64 ek) ∧ W.cell? ⟨pb, 1, none⟩ = some (.int .i64 ev) ∧ W.cell? ⟨pb, 2, none⟩ = some (.bool es) ∧ (∀ q, q < 15 → W.cell? ⟨gb, q, none⟩ = some (cE (ek, ev, es) q)) ∧ PG w pb gb ek ev es W) ((refine PG.keep ?_; assumption))
        (first | (go_at_call 34; refine (key_pg (by assumption)).mono ?_; rintro e w' ⟨rfl, hS'⟩) | (go_at_call 35; refine (stood_pg (by assumption)).mono ?_; rintro e w' ⟨rfl, hS'⟩))
      rename_i hHeld
      obtain ⟨p0, p1, p2, hg, hPw⟩ := hHeld
      clear hS' hPd
      cases es with
      | true =>
        have hPd := hPw.drew
        go_wp2_with fail
        go_region_held3 (fun W => W.cell? ⟨pb, 0, none⟩ = some (.int .i64 ek) ∧ W.cell? ⟨pb, 1, none⟩ = some (.int .i64 ev) ∧ W.cell? ⟨pb, 2, none⟩ = some (.bool true) ∧ (∀ q, q < 15 → W.cell? ⟨gb, q, none⟩ = some (cE (ek, ev, true) q)) ∧ PG w pb gb ek ev true W) ((refine PG.keep ?_; assumption))
          (first | (go_at_call 36; refine (value_pg (by assumption)).mono ?_; rintro e w' ⟨rfl, hS'⟩))
        rename_i hHeld
        obtain ⟨_, _, _, _, hPw⟩ := hHeld
        go_wp2
        go_roundw
        case rel => exact ⟨k + 1, hlt, by go_num, hPw.bel⟩
        case measure => first | (simp [intOf]; done) | (simp [intOf]; omega)
      | false =>
        go_wp2_with fail
        refine (value_pg hPw).mono ?_
        rintro e w3 ⟨rfl, hP3⟩
        go_wp2
        go_roundw
        case rel => exact ⟨k + 1, hlt, by go_num, hP3.bel⟩
        case measure => first | (simp [intOf]; done) | (simp [intOf]; omega)
    · have hlt' : ¬ (k : Int) < (m : Int) := by omega
      go_wp2
      go_ret
      exact ⟨rfl, hB⟩
end Go.Proofs.Qxb6616141a
