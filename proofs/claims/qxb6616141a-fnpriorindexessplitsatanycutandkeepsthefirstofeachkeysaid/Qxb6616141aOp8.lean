/-
  OWN TEXT. Keys and traces that came in, opened: their cells.
-/
import Derived.Test.Qxb6616141aOpen
import Derived.Test.Qxb6616141aTrc
namespace Go.Proofs.Qxb6616141a
open Go.ChangeShapes Go.WideShapes Go.ChangeAt Go.RowKit Go.Deep
theorem cells2 : Try.prog.cellsOf 2 = 1 := by kernel_rfl
theorem cells4 : Try.prog.cellsOf 4 = 1 := by kernel_rfl
theorem cells60 : Try.prog.cellsOf 60 = 1 := by kernel_rfl
theorem cells62 : Try.prog.cellsOf 62 = 3 := by kernel_rfl
theorem cells84 : Try.prog.cellsOf 84 = 3 := by kernel_rfl
theorem struct84 : ∃ f0 f1 f2 : Field, Try.prog.underlying 84 = some (.struct #[f0, f1, f2]) ∧ f0.type = 2 ∧ f0.offset = 0 ∧ f1.type = 2 ∧ f1.offset = 1 ∧ f2.type = 4 ∧ f2.offset = 2 :=
  ⟨_, _, _, Try.underlying84, rfl, rfl, rfl, rfl, rfl, rfl⟩
theorem struct62 : ∃ f0 f1 f2 : Field, Try.prog.underlying 62 = some (.struct #[f0, f1, f2]) ∧ f0.type = 4 ∧ f0.offset = 0 ∧ f1.type = 4 ∧ f1.offset = 1 ∧ f2.type = 60 ∧ f2.offset = 2 :=
  ⟨_, _, _, Try.underlying62, rfl, rfl, rfl, rfl, rfl, rfl⟩
/-- a slice of keys -/
theorem keys_of_trod {H : Type} {enc : TypeId × Value → H} {W : World} {a : Option Addr} {len cap : Nat} {d : DataW H} {ps : List MemPlace} (h : DataW.Trod enc Try.prog W 0 (fun _ => true) true 35 (.slice a len cap) d ps) :
    ∃ (sb so : Nat) (f : Nat → Int), KeyAt W a sb so len f ∧ (a = none → cap = 0) := by
  obtain ⟨fuel, hf⟩ := h
  rcases open_slice1 Try.underlying35 cells2 hf with ⟨hcs, _⟩ | ⟨x, l, c, m, nn, V, D, Pl, hcs, _, hl, hm, hmm, _, hel⟩
  · simp [Value.cells] at hcs
    obtain ⟨rfl, rfl, rfl⟩ := hcs
    exact ⟨0, 0, fun _ => 0, ⟨fun h => by omega, fun i hi => by omega⟩, fun _ => rfl⟩
  · simp [Value.cells] at hcs
    obtain ⟨rfl, rfl, rfl⟩ := hcs
    simp only [if_true] at hmm
    have each : ∀ i, i < len → ∃ q : Int, W.cell? (x.add i) = some (.int .i64 q) := fun i hi => by
      obtain ⟨hc, ht⟩ := hel i (by omega)
      obtain ⟨q, e0, _, _⟩ := DataW.trod_int Try.underlying2 ht
      exact ⟨q, by rw [hc]; simpa using e0⟩
    obtain ⟨Q, hQ⟩ := choose_lt each
    obtain ⟨b, off, spot⟩ := x
    by_cases h0 : 0 < len
    · have hspot : spot = none := by
        have := hQ 0 h0
        simpa [Addr.add] using World.cell?_spot this
      subst hspot
      refine ⟨b, off, Q, ⟨fun _ => rfl, fun i hi => ?_⟩, by simp⟩
      have := hQ i hi
      rwa [Addr.add_lit] at this
    · exact ⟨0, 0, fun _ => 0, ⟨fun h => by omega, fun i hi => by omega⟩, by simp⟩
/-- a slice of records -/
theorem recs_of_trod {H : Type} {enc : TypeId × Value → H} {W : World} {cs : List Value} {x : DataW H × List MemPlace} {fuel : Nat} (h : DataW.trod enc Try.prog W 0 (fun _ => true) true fuel 60 cs = some x) :
    ∃ (a : Option Addr) (len cap sb so : Nat) (xs : Nat → E), cs = [.slice a len cap] ∧ RecAt W a sb so len xs ∧ (a = none → cap = 0) := by
  rcases open_slice Try.underlying60 h with ⟨hcs, _⟩ | ⟨x, len, cap, m, nn, D, Pl, hcs, _, hl, hm, hmm, _, hel⟩
  · exact ⟨none, 0, 0, 0, 0, fun _ => (0, 0, false), hcs, ⟨fun h => by omega, fun i hi => by omega, fun i hi => by omega, fun i hi => by omega⟩, fun _ => rfl⟩
  · simp only [if_true] at hmm
    have hch : ∀ i, i < len → ∃ e : E, W.cell? (x.add (i * 3)) = some (.int .i64 e.1) ∧ W.cell? ((x.add (i * 3)).add 1) = some (.int .i64 e.2.1) ∧ W.cell? ((x.add (i * 3)).add 2) = some (.bool e.2.2) := by
      intro i hi
      obtain ⟨cs', hc', ht'⟩ := hel i (by omega)
      rw [cells84] at hc'
      obtain ⟨_, hlen, hcell⟩ := World.cells?_some hc'
      obtain ⟨f0, f1, f2, hu, t0, o0, t1, o1, t2, o2⟩ := struct84
      obtain ⟨y0, y1, y2, n', _, _, g0, g1, g2⟩ := trod_struct3 hu ht'
      rw [t0, o0, cells2] at g0
      rw [t1, o1, cells2] at g1
      rw [t2, o2, cells4] at g2
      obtain ⟨kd, e0, _, _⟩ := DataW.trod_int Try.underlying2 g0
      obtain ⟨vd, e1, _, _⟩ := DataW.trod_int Try.underlying2 g1
      obtain ⟨s, e2, _⟩ := DataW.trod_bool Try.underlying4 g2
      match cs', hlen with
      | [c0, c1, c2], _ =>
        simp at e0 e1 e2
        subst e0 e1 e2
        exact ⟨(kd, vd, s), by have := hcell 0 (by omega); simpa [Addr.add] using this, by simpa using hcell 1 (by omega), by simpa using hcell 2 (by omega)⟩
    obtain ⟨es, hes⟩ := choose_lt hch
    obtain ⟨b, off, spot⟩ := x
    by_cases h0 : 0 < len
    · have hspot : spot = none := by
        have := (hes 0 h0).1
        simpa [Addr.add] using World.cell?_spot this
      subst hspot
      refine ⟨some ⟨b, off, none⟩, len, cap, b, off, es, hcs, ⟨fun _ => rfl, fun i hi => ?_, fun i hi => ?_, fun i hi => ?_⟩, by simp⟩
      · have := (hes i hi).1; rwa [Addr.add_lit] at this
      · have := (hes i hi).2.1; rwa [Addr.add_lit, Addr.add_lit] at this
      · have := (hes i hi).2.2; rwa [Addr.add_lit, Addr.add_lit] at this
    · exact ⟨_, len, cap, 0, 0, es, hcs, ⟨fun h => by omega, fun i hi => by omega, fun i hi => by omega, fun i hi => by omega⟩, by simp⟩
/-- a slice of traces -/
theorem trcs_of_trod {H : Type} {enc : TypeId × Value → H} {W : World} {a : Option Addr} {len cap : Nat} {d : DataW H} {ps : List MemPlace} (h : DataW.Trod enc Try.prog W 0 (fun _ => true) true 36 (.slice a len cap) d ps) :
    ∃ (tb o3 : Nat) (CH EN : Nat → Bool) (A : Nat → Option Addr) (L C IB IQ : Nat → Nat) (X : Nat → Nat → E), TrsAt W a tb o3 len CH EN A L C IB IQ X := by
  obtain ⟨fuel, hf⟩ := h
  rcases open_slice Try.underlying36 hf with ⟨hcs, _⟩ | ⟨x, l, c, m, nn, D, Pl, hcs, _, hl, hm, hmm, _, hel⟩
  · simp [Value.cells] at hcs
    obtain ⟨rfl, rfl, rfl⟩ := hcs
    exact ⟨0, 0, fun _ => false, fun _ => false, fun _ => none, fun _ => 0, fun _ => 0, fun _ => 0, fun _ => 0, fun _ _ => (0, 0, false), ⟨fun h => by omega, fun i hi => by omega, fun i hi => by omega, fun i hi => by omega, fun i hi => by omega, fun i hi => by omega⟩⟩
  · simp [Value.cells] at hcs
    obtain ⟨rfl, rfl, rfl⟩ := hcs
    simp only [if_true] at hmm
    have hch : ∀ i, i < len → ∃ q : Bool × Bool × Option Addr × Nat × Nat × Nat × Nat × (Nat → E), W.cell? (x.add (i * 3)) = some (.bool q.1) ∧ W.cell? ((x.add (i * 3)).add 1) = some (.bool q.2.1) ∧ W.cell? ((x.add (i * 3)).add 2) = some (.slice q.2.2.1 q.2.2.2.1 q.2.2.2.2.1) ∧ RecAt W q.2.2.1 q.2.2.2.2.2.1 q.2.2.2.2.2.2.1 q.2.2.2.1 q.2.2.2.2.2.2.2 ∧ (q.2.2.1 = none → q.2.2.2.2.1 = 0) := by
      intro i hi
      obtain ⟨cs', hc', ht'⟩ := hel i (by omega)
      rw [cells62] at hc'
      obtain ⟨_, hlen, hcell⟩ := World.cells?_some hc'
      obtain ⟨f0, f1, f2, hu, t0, o0, t1, o1, t2, o2⟩ := struct62
      obtain ⟨y0, y1, y2, n', _, _, g0, g1, g2⟩ := trod_struct3 hu ht'
      rw [t0, o0, cells4] at g0
      rw [t1, o1, cells4] at g1
      rw [t2, o2, cells60] at g2
      obtain ⟨b0, e0, _⟩ := DataW.trod_bool Try.underlying4 g0
      obtain ⟨b1, e1, _⟩ := DataW.trod_bool Try.underlying4 g1
      obtain ⟨ra, rl, rc, sb, so, xs, e2, hr, hnil⟩ := recs_of_trod g2
      match cs', hlen with
      | [c0, c1, c2], _ =>
        simp at e0 e1 e2
        subst e0 e1 e2
        exact ⟨(b0, b1, ra, rl, rc, sb, so, xs), by have := hcell 0 (by omega); simpa [Addr.add] using this, by simpa using hcell 1 (by omega), by simpa using hcell 2 (by omega), hr, hnil⟩
    obtain ⟨es, hes⟩ := choose_lt hch
    obtain ⟨b, off, spot⟩ := x
    by_cases h0 : 0 < len
    · have hspot : spot = none := by
        have := (hes 0 h0).1
        simpa [Addr.add] using World.cell?_spot this
      subst hspot
      refine ⟨b, off, fun i => (es i).1, fun i => (es i).2.1, fun i => (es i).2.2.1, fun i => (es i).2.2.2.1, fun i => (es i).2.2.2.2.1, fun i => (es i).2.2.2.2.2.1, fun i => (es i).2.2.2.2.2.2.1, fun i => (es i).2.2.2.2.2.2.2, ⟨fun _ => rfl, fun i hi => ?_, fun i hi => ?_, fun i hi => ?_, fun i hi => (hes i hi).2.2.2.1, fun i hi => (hes i hi).2.2.2.2⟩⟩
      · have := (hes i hi).1; rwa [Addr.add_lit] at this
      · have := (hes i hi).2.1; rwa [Addr.add_lit, Addr.add_lit] at this
      · have := (hes i hi).2.2.1; rwa [Addr.add_lit, Addr.add_lit] at this
    · exact ⟨0, 0, fun _ => false, fun _ => false, fun _ => none, fun _ => 0, fun _ => 0, fun _ => 0, fun _ => 0, fun _ _ => (0, 0, false), ⟨fun h => by omega, fun i hi => by omega, fun i hi => by omega, fun i hi => by omega, fun i hi => by omega, fun i hi => by omega⟩⟩
end Go.Proofs.Qxb6616141a
