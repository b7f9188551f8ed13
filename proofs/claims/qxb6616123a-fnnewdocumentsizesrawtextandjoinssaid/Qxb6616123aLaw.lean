/-
  OWN TEXT. The walk of FnNewDocumentSizesRawTextAndJoins.
-/
import Derived.Test.Qxb6616123aDoc
import Derived.Deep.RegionHeld3
import Derived.Deep.DeepCutAuto
import Derived.Deep.Cut
import Derived.Lib.Hide
namespace Go.Proofs.Qxb6616123a
open Go.RowKit

theorem below_tr {w w1 w2 : World} (h : Below w.heap.size w w1) (k : Below w1.heap.size w1 w2) : Below w.heap.size w w2 :=
  h.trans ⟨k.os, k.tape, k.output, k.size, fun i hi => k.block i (Nat.lt_of_lt_of_le hi h.size)⟩
theorem below_cell {w w' : World} {a : Addr} {v : Value} (hb : Below w.heap.size w w') (h : w.cell? a = some v) : w'.cell? a = some v := (hb.cell (World.block_lt_of_cell? w _ h)).trans h
theorem below_alloc (w : World) (o : Obj) : Below w.heap.size w (w.alloc o) := (Below.refl _ w).alloc (Nat.le_refl _) _

/-- a document in a variable: the variable's block, the string's box -/
structure DocAt (W : World) (k b : Nat) (z : Int) (s : ByteArray) : Prop where
  f : W.cell? ⟨k, 0, none⟩ = some (wr b)
  n : W.cell? ⟨k, 1, none⟩ = some (.int .i64 z)
  s : W.cell? ⟨b, 0, none⟩ = some (.string s)
theorem DocAt.below {W W' : World} {k b : Nat} {z : Int} {s : ByteArray} (h : DocAt W k b z s) (hb : Below W.heap.size W W') : DocAt W' k b z s := ⟨below_cell hb h.f, below_cell hb h.n, below_cell hb h.s⟩
theorem docAt_new {w : World} {b : Nat} {s : ByteArray} (z : Int) (h : w.cell? ⟨b, 0, none⟩ = some (.string s)) : DocAt (w.alloc (.cells #[wr b, .int .i64 z] 30)) w.heap.size b z s :=
  ⟨cell_new rfl _ _ _, cell_new rfl _ _ _, below_cell (below_alloc _ _) h⟩

def GuardP (s t : ByteArray) (w : World) (e : Ending) (w' : World) : Prop := (∃ b, e = .returned (.bool b) ∧ (b = true → (s.size : Int) + (t.size : Int) ≤ 1048576)) ∧ w' = w

set_option maxRecDepth 100000 in
theorem guard (s t : ByteArray) (w : World) : Calls Try.prog 13 #[.string s, .string t] w (GuardP s t w) := by
  by_cases h1 : (1048576 : Int) < (s.size : Int)
  · go_enter Try.func13, Try.ntmps13
    go_wp2
    go_ret
    exact ⟨⟨false, rfl, by simp⟩, rfl⟩
  · have h1' : (s.size : Int) ≤ 1048576 := by omega
    by_cases h2 : (1048576 : Int) < (t.size : Int)
    · go_enter Try.func13, Try.ntmps13
      go_wp2
      go_ret
      exact ⟨⟨false, rfl, by simp⟩, rfl⟩
    · have h2' : (t.size : Int) ≤ 1048576 := by omega
      by_cases h3 : (1048576 : Int) < (s.size : Int) + (t.size : Int)
      · go_enter Try.func13, Try.ntmps13
        go_wp2
        go_ret
        exact ⟨⟨false, rfl, by simp⟩, rfl⟩
      · go_enter Try.func13, Try.ntmps13
        go_wp2
        go_ret
        exact ⟨⟨true, rfl, fun _ => by omega⟩, rfl⟩

def TB (w : World) (v : Value) (e : Ending) (w' : World) : Prop := e = .returned v ∧ Below w.heap.size w w'
theorem has_at (b : Nat) (n : Int) (w : World) : Calls Try.prog 15 #[doc b n] w (TB w (.bool true)) := by
  refine (docHas b n w).mono ?_
  rintro e w' ⟨rfl, rfl⟩
  exact ⟨rfl, below_alloc _ _⟩
theorem len_at (b : Nat) (n : Int) (w : World) : Calls Try.prog 16 #[doc b n] w (TB w (.int .i64 n)) := by
  refine (docLen b n w).mono ?_
  rintro e w' ⟨rfl, rfl⟩
  exact ⟨rfl, below_alloc _ _⟩

/-- all three -/
structure St (w0 : World) (k1 k2 k3 b1 b2 b3 : Nat) (z1 z2 z3 : Int) (s t u : ByteArray) (W : World) : Prop where
  d1 : DocAt W k1 b1 z1 s
  d2 : DocAt W k2 b2 z2 t
  d3 : DocAt W k3 b3 z3 u
  bel : Below w0.heap.size w0 W
theorem St.below {w0 W W' : World} {k1 k2 k3 b1 b2 b3 : Nat} {z1 z2 z3 : Int} {s t u : ByteArray} (h : St w0 k1 k2 k3 b1 b2 b3 z1 z2 z3 s t u W) (hb : Below W.heap.size W W') : St w0 k1 k2 k3 b1 b2 b3 z1 z2 z3 s t u W' :=
  ⟨h.d1.below hb, h.d2.below hb, h.d3.below hb, below_tr h.bel hb⟩

theorem St.drew {w W : World} {k1 k2 k3 b1 b2 b3 : Nat} {z1 z2 z3 : Int} {s t u : ByteArray} (h : St w k1 k2 k3 b1 b2 b3 z1 z2 z3 s t u W) : St w k1 k2 k3 b1 b2 b3 z1 z2 z3 s t u W.drew :=
  h.below ⟨rfl, rfl, rfl, Nat.le_refl _, fun _ _ => rfl⟩

/-- the six cells, and all -/
def cells6 (k1 k2 k3 b1 b2 b3 : Nat) (z1 z2 z3 : Int) (W : World) : Prop :=
  W.cell? ⟨k1, 0, none⟩ = some (wr b1) ∧ W.cell? ⟨k1, 1, none⟩ = some (.int .i64 z1) ∧ W.cell? ⟨k2, 0, none⟩ = some (wr b2) ∧ W.cell? ⟨k2, 1, none⟩ = some (.int .i64 z2) ∧ W.cell? ⟨k3, 0, none⟩ = some (wr b3) ∧ W.cell? ⟨k3, 1, none⟩ = some (.int .i64 z3)
theorem St.cells {w W : World} {k1 k2 k3 b1 b2 b3 : Nat} {z1 z2 z3 : Int} {s t u : ByteArray} (h : St w k1 k2 k3 b1 b2 b3 z1 z2 z3 s t u W) : cells6 k1 k2 k3 b1 b2 b3 z1 z2 z3 W := ⟨h.d1.f, h.d1.n, h.d2.f, h.d2.n, h.d3.f, h.d3.n⟩
theorem St.keep {w W : World} {k1 k2 k3 b1 b2 b3 : Nat} {z1 z2 z3 : Int} {s t u : ByteArray} (h : St w k1 k2 k3 b1 b2 b3 z1 z2 z3 s t u W) :
    W.cell? ⟨k1, 0, none⟩ = some (wr b1) ∧ W.cell? ⟨k1, 1, none⟩ = some (.int .i64 z1) ∧ W.cell? ⟨k2, 0, none⟩ = some (wr b2) ∧ W.cell? ⟨k2, 1, none⟩ = some (.int .i64 z2) ∧ W.cell? ⟨k3, 0, none⟩ = some (wr b3) ∧ W.cell? ⟨k3, 1, none⟩ = some (.int .i64 z3) ∧ St w k1 k2 k3 b1 b2 b3 z1 z2 z3 s t u W := ⟨h.d1.f, h.d1.n, h.d2.f, h.d2.n, h.d3.f, h.d3.n, h⟩

def StP (w : World) (k1 k2 k3 b1 b2 b3 : Nat) (z1 z2 z3 : Int) (s t u : ByteArray) (v : Value) (e : Ending) (w' : World) : Prop := e = .returned v ∧ St w k1 k2 k3 b1 b2 b3 z1 z2 z3 s t u w'
theorem len_st {w W : World} {k1 k2 k3 b1 b2 b3 : Nat} {z1 z2 z3 : Int} {s t u : ByteArray} (h : St w k1 k2 k3 b1 b2 b3 z1 z2 z3 s t u W) (b : Nat) (z : Int) :
    Calls Try.prog 16 #[doc b z] W (StP w k1 k2 k3 b1 b2 b3 z1 z2 z3 s t u (.int .i64 z)) := by
  refine (len_at b z W).mono ?_
  rintro e w' ⟨rfl, hb⟩
  exact ⟨rfl, h.below hb⟩
theorem has_st {w W : World} {k1 k2 k3 b1 b2 b3 : Nat} {z1 z2 z3 : Int} {s t u : ByteArray} (h : St w k1 k2 k3 b1 b2 b3 z1 z2 z3 s t u W) (b : Nat) (z : Int) :
    Calls Try.prog 15 #[doc b z] W (StP w k1 k2 k3 b1 b2 b3 z1 z2 z3 s t u (.bool true)) := by
  refine (has_at b z W).mono ?_
  rintro e w' ⟨rfl, hb⟩
  exact ⟨rfl, h.below hb⟩

/-- a row of str's bytes -/
structure Rw (W : World) (g : Nat) (str : ByteArray) : Prop where
  row : W.heap[g]? = some (.cells (Lib.strCells str).toArray 5)
theorem Rw.lt {W : World} {g : Nat} {str : ByteArray} (h : Rw W g str) : g < W.heap.size := (Array.getElem?_eq_some_iff.1 h.row).1
theorem Rw.below {W W' : World} {g : Nat} {str : ByteArray} (h : Rw W g str) (hb : Below W.heap.size W W') : Rw W' g str := ⟨(hb.block g h.lt).trans h.row⟩
theorem Rw.cell {W : World} {g : Nat} {str : ByteArray} (h : Rw W g str) (i : Nat) (hi : i < str.data.toList.length) : W.cell? ⟨g, i, none⟩ = some (.int .u8 ((str.data.toList[i]).toNat : Int)) := by
  have hi' : i < str.data.size := by simpa using hi
  rw [cell_of_row W g i _ 5 (0, 0) h.row]
  simp [Lib.strCells]
  exact ⟨_, Array.getElem?_eq_getElem hi', rfl⟩
theorem Rw.free {W : World} {g : Nat} {str : ByteArray} (h : Rw W g str) (i : Nat) : W.frozen? ⟨g, i, none⟩ = false := by
  unfold World.frozen?
  rw [h.row]
  simp
theorem Rw.conv {W : World} {g : Nat} {str : ByteArray} (h : Rw W g str) (n c : Nat) (hn : n = str.size) : (convert 34 9 (.slice (some ⟨g, 0, none⟩) n c)).run Try.prog W = .ok (.string str) W := by
  have hl : str.data.toList.length = str.size := by rw [Array.length_toList]; rfl
  have := run_convert_bytes_back (P := Try.prog) W 34 9 5 ⟨g, 0, none⟩ c str.data.toList Try.underlying34 Try.underlying5 Try.underlying9 (fun j hj => by
    rw [Addr.add_lit, Nat.zero_add]
    exact h.cell j hj)
  rw [hl, ← hn] at this
  exact this

def BP (w : World) (k1 k2 k3 b1 b2 b3 : Nat) (z1 z2 z3 : Int) (s t u : ByteArray) (W : World) (n : Nat) (str : ByteArray) (e : Ending) (w' : World) : Prop :=
  ∃ g, e = .returned (.slice (some ⟨g, 0, none⟩) n n) ∧ W.heap.size ≤ g ∧ Rw w' g str ∧ St w k1 k2 k3 b1 b2 b3 z1 z2 z3 s t u w' ∧ Below W.heap.size W w'

theorem bytes_st {w W : World} {k1 k2 k3 b1 b2 b3 : Nat} {z1 z2 z3 : Int} {s t u : ByteArray} (h : St w k1 k2 k3 b1 b2 b3 z1 z2 z3 s t u W) (b n : Nat) (z : Int) (str : ByteArray) (hb : W.cell? ⟨b, 0, none⟩ = some (.string str)) (hn : n = str.size) (hz : z = (str.size : Int)) (hs : (str.size : Int) ≤ 1048576) :
    Calls Try.prog 17 #[doc b z] W (BP w k1 k2 k3 b1 b2 b3 z1 z2 z3 s t u W n str) := by
  subst hn
  subst hz
  refine (docBytes b str hs W hb).mono ?_
  rintro e w' ⟨g, rfl, hg, hr, hB⟩
  exact ⟨g, rfl, hg, ⟨hr⟩, h.below hB, hB⟩

theorem bytes_1 {w W : World} {k1 k2 k3 b1 b2 b3 : Nat} {z2 z3 : Int} {s t u : ByteArray} (h : St w k1 k2 k3 b1 b2 b3 s.size z2 z3 s t u W) (hs : (s.size : Int) ≤ 1048576) :
    Calls Try.prog 17 #[doc b1 s.size] W (BP w k1 k2 k3 b1 b2 b3 s.size z2 z3 s t u W s.size s) := bytes_st h b1 s.size _ s h.d1.s rfl rfl hs
theorem bytes_2 {w W : World} {k1 k2 k3 b1 b2 b3 : Nat} {z1 z3 : Int} {s t u : ByteArray} (h : St w k1 k2 k3 b1 b2 b3 z1 t.size z3 s t u W) (hs : (t.size : Int) ≤ 1048576) :
    Calls Try.prog 17 #[doc b2 t.size] W (BP w k1 k2 k3 b1 b2 b3 z1 t.size z3 s t u W t.size t) := bytes_st h b2 t.size _ t h.d2.s rfl rfl hs
theorem bytes_3 {w W : World} {k1 k2 k3 b1 b2 b3 : Nat} {z1 z2 z : Int} {n : Nat} {s t u : ByteArray} (h : St w k1 k2 k3 b1 b2 b3 z1 z2 z s t u W) (hs : (u.size : Int) ≤ 1048576) (hz : z = (u.size : Int)) (hn : n = u.size) :
    Calls Try.prog 17 #[doc b3 z] W (BP w k1 k2 k3 b1 b2 b3 z1 z2 z s t u W n u) := bytes_st h b3 n _ u h.d3.s hn hz hs

set_option maxRecDepth 100000 in
set_option maxHeartbeats 4000000 in
theorem law5 (s t : ByteArray) (w : World) : Calls Try.prog 5 #[.string s, .string t] w (TB w (.bool true)) := by
  go_enter Try.func5, Try.ntmps5
  go_wp2_with fail
  refine (guard _ _ _).mono ?_
  rintro e w1 ⟨⟨b, rfl, hb⟩, hw⟩
  obtain rfl := hw.symm
  clear hw
  cases b with
  | false =>
    go_wp2
    go_ret
    exact ⟨rfl, Below.refl _ _⟩
  | true =>
    have hst := hb rfl
    clear hb
    have h1 : (s.size : Int) ≤ 1048576 := by omega
    have h2 : (t.size : Int) ≤ 1048576 := by omega
    have n1 : ¬ (1048576 : Int) < (s.size : Int) := by omega
    have n2 : ¬ (1048576 : Int) < (t.size : Int) := by omega
    have n3 : ¬ (1048576 : Int) < (s.size : Int) + (t.size : Int) := by omega
    have hwr : IntKind.i64.wrap ((s.size : Int) + (t.size : Int)) = (s.size : Int) + (t.size : Int) := by rw [IntKind.wrap_i64]; omega
    have hu : ((s ++ t).size : Int) ≤ 1048576 := by rw [ByteArray.size_append]; omega
    go_wp2_with fail
    refine (newRaw s h1 w).mono ?_
    rintro e w1 ⟨b1, rfl, c1, hB1⟩
    have d1 := docAt_new (s.size : Int) c1
    go_wp2_with fail
    refine (newRaw t h2 _).mono ?_
    rintro e w2 ⟨b2, rfl, c2, hB2⟩
    have d1 := d1.below hB2
    have d2 := docAt_new (t.size : Int) c2
    have d1 := d1.below (below_alloc w2 (.cells #[wr b2, .int .i64 t.size] 30))
    have hB2 := below_tr (below_tr hB1 (below_alloc _ _)) hB2
    go_wp2_with fail
    refine (newRaw (s ++ t) hu _).mono ?_
    rintro e w3 ⟨b3, rfl, c3, hB3⟩
    have d1 := d1.below hB3
    have d2 := d2.below hB3
    have d3 := docAt_new ((s.size : Int) + (t.size : Int)) c3
    have hB3 := below_tr (below_tr hB2 (below_alloc _ _)) hB3
    have d1 := d1.below (below_alloc w3 (.cells #[wr b3, .int .i64 ((s.size : Int) + (t.size : Int))] 30))
    have d2 := d2.below (below_alloc w3 (.cells #[wr b3, .int .i64 ((s.size : Int) + (t.size : Int))] 30))
    have hB3 := below_tr hB3 (below_alloc w3 (.cells #[wr b3, .int .i64 ((s.size : Int) + (t.size : Int))] 30))
    have hS : St w w1.heap.size w2.heap.size w3.heap.size b1 b2 b3 s.size t.size ((s.size : Int) + (t.size : Int)) s t (s ++ t) _ := ⟨d1, d2, d3, hB3⟩
    clear d1 d2 d3 hB3 hB2 hB1 c1 c2 c3
    generalize w1.heap.size = k1 at hS ⊢
    generalize w2.heap.size = k2 at hS ⊢
    go_upto_region 10 with fail
    generalize w3.heap.size = k3 at hS ⊢
    generalize w3.alloc (.cells #[wr b3, .int .i64 ((s.size : Int) + (t.size : Int))] 30) = W at hS ⊢
    obtain ⟨f1, f2, f3, f4, f5, f6⟩ := hS.cells
    go_wp2_with fail
    refine (has_st hS _ _).mono ?_
    clear f1 f2 f3 f4 f5 f6 hS
    rintro e W0 ⟨rfl, hS⟩
    obtain ⟨f1, f2, f3, f4, f5, f6⟩ := hS.cells
    go_wp2_with fail
    refine (has_st hS _ _).mono ?_
    clear f1 f2 f3 f4 f5 f6 hS
    rintro e W1 ⟨rfl, hS⟩
    obtain ⟨f1, f2, f3, f4, f5, f6⟩ := hS.cells
    go_wp2_with fail
    refine (has_st hS _ _).mono ?_
    clear f1 f2 f3 f4 f5 f6 hS
    rintro e W2 ⟨rfl, hS⟩
    obtain ⟨f1, f2, f3, f4, f5, f6⟩ := hS.cells
    go_wp2_with fail
    refine (len_st hS _ _).mono ?_
    clear f1 f2 f3 f4 f5 f6 hS
    rintro e W3 ⟨rfl, hS⟩
    obtain ⟨f1, f2, f3, f4, f5, f6⟩ := hS.cells
    go_wp2_with fail
    refine (len_st hS _ _).mono ?_
    clear f1 f2 f3 f4 f5 f6 hS
    rintro e W4 ⟨rfl, hS⟩
    obtain ⟨f1, f2, f3, f4, f5, f6⟩ := hS.cells
    go_upto_region 14 with fail
    go_cut [68] (fun sv wx => sv = .bool false ∧ St w k1 k2 k3 b1 b2 b3 s.size t.size ((s.size : Int) + (t.size : Int)) s t (s ++ t) wx)
    case first =>
      have hSd := hS.drew
      go_region_held3 (fun w' => w'.cell? ⟨k1, 0, none⟩ = some (wr b1) ∧ w'.cell? ⟨k1, 1, none⟩ = some (.int .i64 s.size) ∧ w'.cell? ⟨k2, 0, none⟩ = some (wr b2) ∧ w'.cell? ⟨k2, 1, none⟩ = some (.int .i64 t.size) ∧ w'.cell? ⟨k3, 0, none⟩ = some (wr b3) ∧ w'.cell? ⟨k3, 1, none⟩ = some (.int .i64 ((s.size : Int) + (t.size : Int))) ∧ St w k1 k2 k3 b1 b2 b3 s.size t.size ((s.size : Int) + (t.size : Int)) s t (s ++ t) w') ((refine St.keep ?_; assumption))
        (first | (go_at_call 16; refine (len_st (by assumption) _ _).mono ?_; rintro e w' ⟨rfl, hS'⟩))
      all_goals go_wp2
      all_goals
        go_meet
        refine ⟨?_, by assumption⟩
        first | rfl | (rw [hwr]; simp)
    case rest =>
      obtain ⟨rfl, hS⟩ := hcut
      clear f1 f2 f3 f4 f5 f6
      obtain ⟨f1, f2, f3, f4, f5, f6⟩ := hS.cells
      go_wp2_with fail
      refine (bytes_st hS _ s.size _ s hS.d1.s rfl rfl h1).mono ?_
      rintro e W5 ⟨g1, rfl, hg1, hr1, hS5, hB5⟩
      clear f1 f2 f3 f4 f5 f6
      obtain ⟨f1, f2, f3, f4, f5, f6⟩ := hS5.cells
      go_wp2_with fail
      refine (bytes_st hS5 _ s.size _ s hS5.d1.s rfl rfl h1).mono ?_
      rintro e W6 ⟨g2, rfl, hg2, hr2, hS6, hB6⟩
      clear f1 f2 f3 f4 f5 f6
      have hlt1 := hr1.lt
      have hr1 := hr1.below hB6
      have cv1 := hr1.conv s.size s.size rfl
      have cv2 := hr2.conv s.size s.size rfl
      have hne : g2 ≠ g1 := by omega
      have hBv : ∀ v, Below wc.heap.size wc (W6.setCell ⟨g1, 0, none⟩ v) := fun v => (below_tr hB5 hB6).trans ⟨rfl, rfl, rfl, by simp [World.setCell], fun k hk => Below.heap_setCell _ _ _ _ (by show k ≠ g1; omega)⟩
      have hr2v : ∀ v, Rw (W6.setCell ⟨g1, 0, none⟩ v) g2 s := fun v => ⟨(Below.heap_setCell _ _ _ _ hne).trans hr2.row⟩
      have cv3 : ∀ v, (convert 34 9 (.slice (some ⟨g2, 0, none⟩) s.size s.size)).run Try.prog (W6.setCell ⟨g1, 0, none⟩ v) = .ok (.string s) (W6.setCell ⟨g1, 0, none⟩ v) := fun v => (hr2v v).conv s.size s.size rfl
      go_upto_if 85 with fail
      go_cut [92] (fun _ wx => St w k1 k2 k3 b1 b2 b3 s.size t.size ((s.size : Int) + (t.size : Int)) s t (s ++ t) wx)
      case first =>
        by_cases hs0 : 0 < s.size
        · have hs0' : (0 : Int) < (s.size : Int) := by omega
          have hc0 := hr1.cell 0 (by rw [Array.length_toList]; exact hs0)
          have hz0 := hr1.free 0
          go_wp2
          all_goals
            go_meet
            exact hS.below (hBv _)
        · have hs0' : ¬ (0 : Int) < (s.size : Int) := by omega
          go_wp2
          all_goals
            go_meet
            exact hS6
      case rest =>
        have hS7 := hcut
        clear hcut hBv hr2v cv3 cv1 cv2 hr1 hr2 hS6 hS5 hS hB5 hB6 hg1 hg2 hlt1 hne
        have hSd := hS7.drew
        have hu2 : ((s.size : Int) + (t.size : Int)) = ((s ++ t).size : Int) := by rw [ByteArray.size_append]; omega
        have hu3 : s.size + t.size = (s ++ t).size := by rw [ByteArray.size_append]
        have Hu2 := Lib.hid hu2
        have Hu3 := Lib.hid hu3
        clear hu2 hu3
        go_upto_region 24 with fail
        go_region_held (fun w' => w'.cell? ⟨k1, 0, none⟩ = some (wr b1) ∧ w'.cell? ⟨k1, 1, none⟩ = some (.int .i64 s.size) ∧ w'.cell? ⟨k2, 0, none⟩ = some (wr b2) ∧ w'.cell? ⟨k2, 1, none⟩ = some (.int .i64 t.size) ∧ w'.cell? ⟨k3, 0, none⟩ = some (wr b3) ∧ w'.cell? ⟨k3, 1, none⟩ = some (.int .i64 ((s.size : Int) + (t.size : Int))) ∧ St w k1 k2 k3 b1 b2 b3 s.size t.size ((s.size : Int) + (t.size : Int)) s t (s ++ t) w') ((refine St.keep ?_; assumption))
          (first
            | ((first | go_at_call_of 17 (Value.agg #[wr b1, Value.int IntKind.i64 (s.size : Int)]) | go_at_call_of 17 (Value.agg #[Value.func (Fn.func 20) #[] #[Value.pointer (some ⟨b1, 0, none⟩)], Value.int IntKind.i64 (s.size : Int)])); refine (bytes_1 (by assumption) h1).mono ?_; rintro e w' ⟨g, rfl, _, hR, hS', hB⟩; have cv := hR.conv s.size s.size rfl; (try have q2 := Rw.below (str := t) (by assumption) hB; have cv2 := q2.conv t.size t.size rfl); (try have q3 := Rw.below (str := s ++ t) (by assumption) hB; have cv3 := q3.conv (s.size + t.size) (s.size + t.size) Hu3.out))
            | ((first | go_at_call_of 17 (Value.agg #[wr b2, Value.int IntKind.i64 (t.size : Int)]) | go_at_call_of 17 (Value.agg #[Value.func (Fn.func 20) #[] #[Value.pointer (some ⟨b2, 0, none⟩)], Value.int IntKind.i64 (t.size : Int)])); refine (bytes_2 (by assumption) h2).mono ?_; rintro e w' ⟨g, rfl, _, hR, hS', hB⟩; have cv := hR.conv t.size t.size rfl; (try have q2 := Rw.below (str := s) (by assumption) hB; have cv2 := q2.conv s.size s.size rfl); (try have q3 := Rw.below (str := s ++ t) (by assumption) hB; have cv3 := q3.conv (s.size + t.size) (s.size + t.size) Hu3.out))
            | ((first | go_at_call_of 17 (Value.agg #[wr b3, Value.int IntKind.i64 ((s.size : Int) + (t.size : Int))]) | go_at_call_of 17 (Value.agg #[Value.func (Fn.func 20) #[] #[Value.pointer (some ⟨b3, 0, none⟩)], Value.int IntKind.i64 ((s.size : Int) + (t.size : Int))])); refine (bytes_3 (by assumption) hu Hu2.out Hu3.out).mono ?_; rintro e w' ⟨g, rfl, _, hR, hS', hB⟩; have cv := hR.conv (s.size + t.size) (s.size + t.size) Hu3.out; (try have q2 := Rw.below (str := s) (by assumption) hB; have cv2 := q2.conv s.size s.size rfl); (try have q3 := Rw.below (str := t) (by assumption) hB; have cv3 := q3.conv t.size t.size rfl)))
        all_goals go_wp2
        all_goals
          go_ret
          refine ⟨?_, (by assumption : St w k1 k2 k3 b1 b2 b3 s.size t.size ((s.size : Int) + (t.size : Int)) s t (s ++ t) _).bel⟩
          first | rfl | simp
end Go.Proofs.Qxb6616123a
