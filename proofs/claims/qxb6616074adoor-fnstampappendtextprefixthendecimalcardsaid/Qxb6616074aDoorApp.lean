/-
  OWN TEXT. strconv.AppendUint at base 10 onto a slice with no spare room (nil, or len = cap): what comes back lies in a new block; every old block stands as it stood. (The shelf's contract says nothing of the old row's block and of like blocks beside it: that is why it is walked again here.)
-/
import Derived.Test.Qxb6616074aDoorShelf
import Derived.Test.Qxb6616074aDoorRows
import Derived.Test.Qxb6616074aDoorBytes
import Derived.ArgAppend
import Derived.Lib.AppendStr
import Derived.Lib.Walk
import Derived.Lib.ItoaWalk
import Derived.Lib.ItoaMem
import Derived.Lib.AppendIntMem
import Derived.Lib.Slices
import Derived.Lib.Hide
import Derived.OwnWalk
import Derived.BigCall
import Derived.BigGuard
import Derived.CellFam
namespace Go.Proofs.Qxb6616074aDoor
open Go.RowKit Go.Sort

theorem wpList_append_of {P : Program} {w : World} {ops : Array Oper} {rest : List Oper} {o : Oper} {a : Act} {Q : Exit → Act → World → Prop} (hgd : o.guard = none) (s x : Operand) (t u : TypeId)
    (ho : o.op = .call { callee := .builtin .append, args := #[s, x], argTypes := #[t, u] }) (v1 v2 : Value) (hs : a.eval s = v1) (hx : a.eval x = v2)
    (R : Value → World → Prop) (hr : ∀ ty, ∃ v' w', (Builtin.append_ #[t, u] ty #[v1, v2]).run P w = .ok v' w' ∧ R v' w')
    (h : ∀ v' w', R v' w' → wpList P ops Q rest (a.put o.dst v') w') : wpList P ops Q (o :: rest) a w := by
  refine wpList_plain hgd fun K hK => ?_
  obtain ⟨v', w', hr, h2⟩ := hr o.type
  unfold Oper.wp execOp
  simp only [ho, resolve, invoke, builtin, Sem.run_bind, Sem.run_pure, Result.andThen_ok, List.map_toArray, List.map_cons, List.map_nil, hs, hx, hr]
  exact hK _ _ (h v' w' h2)

/-- the name of the table of powers of ten: the first that the row names -/
abbrev powName : String := Rows.fnStampAppendTextPrefixThenDecimalRow.named.headD ""
abbrev Tab (w : World) : Prop := Lib.TabIs Tryd.prog w powName .u64 Lib.pow10Tab

/-- a slice with no spare room -/
def Full (w : World) (a : Option Addr) (n : Nat) (f : Nat → Int) : Prop := (a = none ∧ n = 0) ∨ ∃ sb so, a = some ⟨sb, so, none⟩ ∧ By w a sb so n f

theorem Full.by {w : World} {a : Option Addr} {n : Nat} {f : Nat → Int} (h : Full w a n f) : ∃ sb so, By w a sb so n f := by
  rcases h with ⟨rfl, rfl⟩ | ⟨sb, so, _, h⟩
  · exact ⟨0, 0, fun h => by omega, fun i hi => by omega⟩
  · exact ⟨sb, so, h⟩

theorem By.below {w w' : World} {a : Option Addr} {sb so n : Nat} {f : Nat → Int} (h : By w a sb so n f) (hb : Below w.heap.size w w') : By w' a sb so n f :=
  ⟨h.addr, fun i hi => (hb.cell (World.block_lt_of_cell? w _ (h.c i hi))).trans (h.c i hi)⟩
theorem Full.below {w w' : World} {a : Option Addr} {n : Nat} {f : Nat → Int} (h : Full w a n f) (hb : Below w.heap.size w w') : Full w' a n f := by
  rcases h with h | ⟨sb, so, e, h⟩
  · exact .inl h
  · exact .inr ⟨sb, so, e, h.below hb⟩

def cellsF (n : Nat) (f : Nat → Int) : List Value := (List.range n).map fun i => Value.int .u8 (f i)
theorem cellsF_length (n : Nat) (f : Nat → Int) : (cellsF n f).length = n := by simp [cellsF]
theorem cellsF_get {n : Nat} {f : Nat → Int} {j : Nat} (h : j < n) : (cellsF n f)[j]? = some (Value.int .u8 (f j)) := by simp [cellsF, h]
theorem By.cells {w : World} {sb so n : Nat} {f : Nat → Int} {a : Option Addr} (h : By w a sb so n f) : ∀ j u, (cellsF n f)[j]? = some u → w.cell? ((⟨sb, so, none⟩ : Addr).add j) = some u := by
  intro j u hu
  have hj : j < n := by have := (List.getElem?_eq_some_iff.1 hu).1; rwa [cellsF_length] at this
  rw [cellsF_get hj] at hu
  cases hu
  rw [Addr.add_lit]
  exact h.c j hj

/-- the digits of u -/
def dgF (u : Nat) (i : Nat) : Int := (((Lib.decDigits u).getD i 0).toNat : Int)
def catF (n : Nat) (f g : Nat → Int) (i : Nat) : Int := if i < n then f i else g (i - n)

/-- what comes back from an append -/
def AppR (w : World) (n u : Nat) (f : Nat → Int) (v' : Value) (w' : World) : Prop :=
  ∃ g cap, v' = .slice (some ⟨g, 0, none⟩) (n + Lib.nDigits u) cap ∧ n + Lib.nDigits u ≤ cap ∧ cap ≤ maxLen ∧ w.heap.size ≤ g ∧ By w' (some ⟨g, 0, none⟩) g 0 (n + Lib.nDigits u) (catF n f (dgF u)) ∧ Below w.heap.size w w'

theorem appR_of_own {w w' : World} {n u : Nat} {f : Nat → Int} {v' : Value} (h : w'.ownsRow w.heap.size 5 1 v' (n + Lib.nDigits u) (cellsF n f ++ Lib.byteCells (Lib.decDigits u))) (hb : Below w.heap.size w w') : AppR w n u f v' w' := by
  have hp := Lib.nDigits_pos u
  rcases h.2 with ⟨rfl, h0⟩ | ⟨g, cap, cur, rfl, hbg, hgg, hnc, hcm, hcs, htake⟩
  · omega
  · refine ⟨g, cap, rfl, hnc, hcm, hbg, ⟨fun _ => rfl, fun i hi => ?_⟩, hb⟩
    have := h.cells (g := g) rfl i (.int .u8 (catF n f (dgF u) i)) ?_
    · rw [Addr.add_lit] at this
      exact this
    · unfold catF
      split
      · rename_i hin
        rw [List.getElem?_append_left (by rw [cellsF_length]; exact hin)]
        exact cellsF_get hin
      · rename_i hin
        rw [List.getElem?_append_right (by rw [cellsF_length]; omega), cellsF_length]
        have hl : i - n < (Lib.decDigits u).length := by rw [Lib.decDigits_length]; omega
        simp [Lib.byteCells, dgF, hl, List.getD]

theorem run_full_slice {w : World} {a : Option Addr} {n : Nat} {f : Nat → Int} (h : Full w a n f) (u : Nat) (b : Addr) (c : Nat) (hn : n + 20 ≤ 140737488355328) (hd20 : Lib.nDigits u ≤ 20)
    (hcells : ∀ j u', (Lib.byteCells (Lib.decDigits u))[j]? = some u' → w.cell? (b.add j) = some u') (ty : TypeId) :
    ∃ v' w', (Builtin.append_ #[23, 23] ty #[.slice a n n, .slice (some b) (Lib.nDigits u) c]).run Tryd.prog w = .ok v' w' ∧ AppR w n u f v' w' := by
  obtain ⟨i0, hi, hz0, hz1, hz2⟩ := info_parts Tryd.laysM288.i5
  have hp := Lib.nDigits_pos u
  have hl : (Lib.byteCells (Lib.decDigits u)).length = Lib.nDigits u * 1 := by rw [Lib.byteCells_length, Lib.decDigits_length, Nat.mul_one]
  have h1 : ∀ u' ∈ Lib.byteCells (Lib.decDigits u), u'.oneCell' = true := by
    intro u' hu'
    simp only [Lib.byteCells, List.mem_map] at hu'
    obtain ⟨b, _, rfl⟩ := hu'
    rfl
  rcases h with ⟨rfl, rfl⟩ | ⟨sb, so, rfl, hby⟩
  · obtain ⟨v', w', hr, h2, h3, _⟩ := run_append_own (P := Tryd.prog) w w.heap.size 23 ty 5 i0 (.int .u8 0) 1 1 Tryd.underlying23 hi hz0 hz1 hz2 rfl (by decide) (.slice none 0 0) 0 [] (World.ownsRow_nil w _ 5 1) b (Lib.nDigits u) c (Lib.byteCells (Lib.decDigits u)) hl hcells h1 (by unfold maxLen; omega) (by omega) (Nat.le_refl _)
    refine ⟨v', w', hr, appR_of_own (by simpa [cellsF] using h2) ?_⟩
    exact ⟨h3.os, h3.tape, h3.output, h3.size, fun k hk => h3.block k hk (by simp [Value.ownBlock])⟩
  · obtain ⟨v', w', hr, h2, h3⟩ := run_append_arg_grows (P := Tryd.prog) w 23 ty 5 i0 (.int .u8 0) 1 1 Tryd.underlying23 hi hz0 hz1 hz2 rfl (by decide) ⟨sb, so, none⟩ n n (cellsF n f) (by rw [cellsF_length, Nat.mul_one]) hby.cells b (Lib.nDigits u) c (Lib.byteCells (Lib.decDigits u)) hl hcells (by omega) (by unfold maxLen; omega) (by omega)
    refine ⟨v', w', hr, appR_of_own h2 ?_⟩
    exact ⟨h3.os, h3.tape, h3.output, h3.size, fun k hk => h3.block k hk (by simp)⟩

theorem run_full_string {w : World} {a : Option Addr} {n : Nat} {f : Nat → Int} (h : Full w a n f) (u : Nat) (hn : n + 20 ≤ 140737488355328) (hd20 : Lib.nDigits u ≤ 20) (ty : TypeId) :
    ∃ v' w', (Builtin.append_ #[23, 9] ty #[.slice a n n, .string ⟨(Lib.decDigits u).toArray⟩]).run Tryd.prog w = .ok v' w' ∧ AppR w n u f v' w' := by
  obtain ⟨i0, hi, hz0, hz1, hz2⟩ := info_parts Tryd.laysM288.i5
  have hp := Lib.nDigits_pos u
  have hsz : (⟨(Lib.decDigits u).toArray⟩ : ByteArray).size = Lib.nDigits u := by rw [← Lib.decDigits_length]; simp [ByteArray.size]
  rcases h with ⟨rfl, rfl⟩ | ⟨sb, so, rfl, hby⟩
  · obtain ⟨v', w', hr, h2, h3, _⟩ := Lib.run_append_own_string (P := Tryd.prog) w w.heap.size 23 9 ty 5 i0 Tryd.underlying23 Tryd.underlying9 hi hz0 hz1 hz2 (.slice none 0 0) 0 [] (World.ownsRow_nil w _ 5 1) ⟨(Lib.decDigits u).toArray⟩ (by rw [hsz]; unfold maxLen; omega) (by rw [hsz]; omega) (Nat.le_refl _)
    rw [hsz] at h2
    refine ⟨v', w', hr, appR_of_own (by simpa [cellsF, Lib.strCells_toArray] using h2) ?_⟩
    exact ⟨h3.os, h3.tape, h3.output, h3.size, fun k hk => h3.block k hk (by simp [Value.ownBlock])⟩
  · have hr := Lib.run_append_grow_string (P := Tryd.prog) w 23 9 ty 5 i0 (.int .u8 0) Tryd.underlying23 Tryd.underlying9 hi hz0 ⟨sb, so, none⟩ n n (cellsF n f) (by rw [cellsF_length, hz1, Nat.mul_one]) hby.cells ⟨(Lib.decDigits u).toArray⟩ (by omega) (by rw [hsz]; omega) (by rw [hz2]; exact growslice_fits (by omega) (by omega))
    have hge := grownCap_ge w (n + (⟨(Lib.decDigits u).toArray⟩ : ByteArray).size) n 5
    have hcm : grownCap w (n + (⟨(Lib.decDigits u).toArray⟩ : ByteArray).size) n 5 ≤ maxLen := grownCap_le_maxLen w _ n 5 (by rw [hsz]; unfold maxLen; omega)
    have hlen : (cellsF n f ++ Lib.strCells ⟨(Lib.decDigits u).toArray⟩).length = (n + (⟨(Lib.decDigits u).toArray⟩ : ByteArray).size) * 1 := by rw [List.length_append, cellsF_length, Lib.strCells_length, Nat.mul_one]
    refine ⟨_, _, hr, ?_⟩
    refine appR_of_own (w := w) ?_ ⟨rfl, rfl, rfl, by simp, fun k hk => Below.heap_alloc w.drew _ k hk⟩
    rw [← hsz]
    refine ⟨hlen, .inr ⟨w.heap.size, _, _, rfl, Nat.le_refl _, heap_alloc_new w.drew _, hge, hcm, ?_, ?_⟩⟩
    · have hz1 : (Value.int IntKind.u8 0).cells.size = 1 := rfl
      simp only [Array.size_append, List.size_toArray, size_zeroCells, hz1, cellsF_length, Lib.strCells_length]
      omega
    · simp only [Array.toList_append, List.append_assoc]
      rw [← List.append_assoc, ← hlen]
      exact List.take_left
end Go.Proofs.Qxb6616074aDoor
