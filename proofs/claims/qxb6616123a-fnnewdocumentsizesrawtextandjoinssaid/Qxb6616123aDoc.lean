/-
  OWN TEXT. The documents: made, asked, written.
-/
import Derived.Test.Qxb6616123aRows
import Derived.WalkKit
import Derived.Handy
import Derived.Laws.EntriesVeiled
import Derived.WalkLawsBesides
import Derived.BigQuiet
import Derived.Below
import Derived.OwnWalk
import Derived.Lib.AppendStr
import Derived.Laws.MakeOwn
import Derived.Laws.CopyOwn
import Derived.Laws.IdiomStrings
namespace Go.Proofs.Qxb6616123a
open Go.RowKit

theorem heap_at {w : World} {n : Nat} (hn : n = w.heap.size) (o : Obj) : (w.alloc o).heap[n]? = some o := by
  subst hn
  exact heap_alloc_new w _
theorem cell_new {w : World} {n : Nat} (hn : n = w.heap.size) (cs : Array Value) (t : TypeId) (j : Nat) : (w.alloc (.cells cs t)).cell? ⟨n, j, none⟩ = cs[j]? := by
  have := heap_at hn (.cells cs t)
  unfold World.cell?
  rw [this]
  simp
theorem frozen_new {w : World} {n : Nat} (hn : n = w.heap.size) (cs : Array Value) (t : TypeId) (j : Nat) : (w.alloc (.cells cs t)).frozen? ⟨n, j, none⟩ = false := by
  have := heap_at hn (.cells cs t)
  unfold World.frozen?
  rw [this]
  simp

/-- the closure that writes the string in the box b -/
abbrev wr (b : Nat) : Value := .func (.func 20) #[] #[.pointer (some ⟨b, 0, none⟩)]
abbrev doc (b : Nat) (n : Int) : Value := .agg #[wr b, .int .i64 n]

def DocP (s : ByteArray) (w : World) (e : Ending) (w' : World) : Prop := ∃ b, e = .returned (doc b s.size) ∧ w'.cell? ⟨b, 0, none⟩ = some (.string s) ∧ Below w.heap.size w w'

def SizeP (wb : Nat) (n : Int) (w : World) (e : Ending) (w' : World) : Prop := e = .returned (.tuple #[]) ∧ w' = w.setCell ⟨wb, 2, none⟩ (.int .i64 n)

set_option maxRecDepth 100000 in
set_option maxHeartbeats 1000000 in
theorem put_sizing (wb : Nat) (s : ByteArray) (hs : (s.size : Int) ≤ 1048576) (w : World) (h1 : w.cell? ⟨wb, 1, none⟩ = some (.bool true)) (h2 : w.cell? ⟨wb, 2, none⟩ = some (.int .i64 0)) (hf : w.frozen? ⟨wb, 2, none⟩ = false) :
    Calls Try.prog 23 #[.pointer (some ⟨wb, 0, none⟩), .string s] w (SizeP wb s.size w) := by
  have h0 : (0 : Int) ≤ (s.size : Int) := by omega
  go_enter Try.func23, Try.ntmps23
  go_wp2
  go_end0
  exact ⟨rfl, rfl⟩

theorem wpList_append_of {P : Program} {w : World} {ops : Array Oper} {rest : List Oper} {o : Oper} {a : Act} {Q : Exit → Act → World → Prop} (hgd : o.guard = none) (s x : Operand) (t u : TypeId)
    (ho : o.op = .call { callee := .builtin .append, args := #[s, x], argTypes := #[t, u] }) (v1 v2 : Value) (hs : a.eval s = v1) (hx : a.eval x = v2)
    (v' : Value) (w' : World) (hr : ∀ ty, (Builtin.append_ #[t, u] ty #[v1, v2]).run P w = .ok v' w')
    (h : wpList P ops Q rest (a.put o.dst v') w') : wpList P ops Q (o :: rest) a w := by
  refine wpList_plain hgd fun K hK => ?_
  unfold Oper.wp execOp
  simp only [ho, resolve, invoke, builtin, Sem.run_bind, Sem.run_pure, Result.andThen_ok, List.map_toArray, List.map_cons, List.map_nil, hs, hx, hr]
  exact hK _ _ h

/-- what a write into a buffer leaves -/
def PutP (wb g : Nat) (s : ByteArray) (w : World) (e : Ending) (w' : World) : Prop :=
  e = .returned (.tuple #[]) ∧ w'.cell? ⟨wb, 0, none⟩ = some (.slice (some ⟨g, 0, none⟩) s.size s.size) ∧ w'.heap[g]? = some (.cells (Lib.strCells s).toArray 5) ∧
  w'.os = w.os ∧ w'.tape = w.tape ∧ w'.output = w.output ∧ w.heap.size ≤ w'.heap.size ∧ ∀ k, k ≠ wb → k ≠ g → w'.heap[k]? = w.heap[k]?

set_option maxRecDepth 100000 in
set_option maxHeartbeats 1000000 in
theorem put_buf (wb g : Nat) (s : ByteArray) (cur : Array Value) (w : World) (hne : wb ≠ g) (h0 : w.cell? ⟨wb, 0, none⟩ = some (.slice (some ⟨g, 0, none⟩) 0 s.size)) (h1 : w.cell? ⟨wb, 1, none⟩ = some (.bool false))
    (h3 : w.cell? ⟨wb, 3, none⟩ = some .nilIface) (hf : w.frozen? ⟨wb, 0, none⟩ = false) (hg : w.heap[g]? = some (.cells cur 5)) (hcs : cur.size = s.size) :
    Calls Try.prog 23 #[.pointer (some ⟨wb, 0, none⟩), .string s] w (PutP wb g s w) := by
  have hi : (Try.prog.info? 5).map (fun i => (i.zero, i.size, i.bytes)) = some (some (.int .u8 0), 1, 1) := by kernel_rfl
  obtain ⟨i0, hi, hz0, hz1, hz2⟩ := info_parts hi
  have e0 : cur.toList.take 0 ++ Lib.strCells s ++ cur.toList.drop (0 + s.size) = Lib.strCells s := by simp [hcs]
  have happ : ∀ ty, (Builtin.append_ #[34, 9] ty #[.slice (some ⟨g, 0, none⟩) 0 s.size, .string s]).run Try.prog w = .ok (.slice (some ⟨g, 0, none⟩) s.size s.size) (w.setRow g (Lib.strCells s).toArray) := by
    intro ty
    have := Lib.run_append_room_string (P := Try.prog) w 34 9 ty 5 i0 Try.underlying34 Try.underlying9 hi hz1 g 0 s.size cur hg s (by omega) (by omega)
    rw [e0, Nat.zero_add] at this
    exact this
  have H2 := setRow_heap w g cur (Lib.strCells s).toArray 5 (0, 0) hg
  have hoth : ∀ k, k ≠ g → (w.setRow g (Lib.strCells s).toArray).heap[k]? = w.heap[k]? := fun k hk => setRow_other w g k _ hk
  have hsz : w.heap.size ≤ (w.setRow g (Lib.strCells s).toArray).heap.size := by simp [World.setRow]
  have c0 : (w.setRow g (Lib.strCells s).toArray).cell? ⟨wb, 0, none⟩ = some (.slice (some ⟨g, 0, none⟩) 0 s.size) := (World.cell?_of_block (hoth wb hne)).trans h0
  have f0 : (w.setRow g (Lib.strCells s).toArray).frozen? ⟨wb, 0, none⟩ = false := (World.frozen?_of_block (hoth wb hne)).trans hf
  obtain ⟨e1, e2, e3⟩ : (w.setRow g (Lib.strCells s).toArray).os = w.os ∧ (w.setRow g (Lib.strCells s).toArray).tape = w.tape ∧ (w.setRow g (Lib.strCells s).toArray).output = w.output := ⟨rfl, rfl, rfl⟩
  generalize w.setRow g (Lib.strCells s).toArray = w1 at happ H2 hoth hsz c0 f0 e1 e2 e3
  go_enter Try.func23, Try.ntmps23
  go_wp2_with (at_builtin; refine wpList_append_of rfl _ _ 34 9 rfl _ _ rfl rfl _ _ happ ?_)
  go_end0
  refine ⟨rfl, World.cell?_setCell_same _ _ _ c0, ?_, e1, e2, e3, ?_, ?_⟩
  · rw [Below.heap_setCell _ _ _ _ (Ne.symm hne)]; exact H2
  · simpa [World.setCell] using hsz
  · intro k k1 k2
    rw [Below.heap_setCell _ _ _ _ k1]
    exact hoth k k2

set_option maxRecDepth 100000 in
set_option maxHeartbeats 1000000 in
theorem newRaw (s : ByteArray) (hs : (s.size : Int) ≤ 1048576) (w : World) : Calls Try.prog 14 #[.string s] w (DocP s w) := by
  go_enter Try.func14, Try.ntmps14
  go_wp2
  go_returns
  refine ⟨w.heap.size, rfl, ?_, ((((Below.refl _ w).alloc (Nat.le_refl _) _).alloc (by simp) _).alloc (by simp; omega) _).alloc (by simp; omega) _⟩
  have h1 : ∀ (o1 o2 o3 : Obj) , ((((w.alloc (.cells #[Value.string s] 9)).alloc o1).alloc o2).alloc o3).heap[w.heap.size]? = some (.cells #[Value.string s] 9) := by
    intro o1 o2 o3
    rw [Below.heap_alloc _ _ _ (by simp; omega), Below.heap_alloc _ _ _ (by simp; omega), Below.heap_alloc _ _ _ (by simp)]
    exact heap_alloc_new w _
  unfold World.cell?
  rw [h1]
  rfl

set_option maxRecDepth 100000 in
theorem docLen (b : Nat) (n : Int) (w : World) : Calls Try.prog 16 #[doc b n] w fun e w' => e = .returned (.int .i64 n) ∧ w' = w.alloc (.cells #[wr b, .int .i64 n] 30) := by
  go_enter Try.func16, Try.ntmps16
  go_wp2
  go_ret
  exact ⟨rfl, rfl⟩

set_option maxRecDepth 100000 in
theorem docHas (b : Nat) (n : Int) (w : World) : Calls Try.prog 15 #[doc b n] w fun e w' => e = .returned (.bool true) ∧ w' = w.alloc (.cells #[wr b, .int .i64 n] 30) := by
  have hfn : ∀ W, (binOp .neq 28 (wr b) .nilFunc).run Try.prog W = .ok (.bool true) W := fun W => by kernel_rfl
  go_enter Try.func15, Try.ntmps15
  go_wp2
  go_ret
  exact ⟨rfl, rfl⟩

set_option maxRecDepth 100000 in
set_option maxHeartbeats 1000000 in
theorem write_buf (wb g b : Nat) (s : ByteArray) (cur : Array Value) (w : World) (hb : w.cell? ⟨b, 0, none⟩ = some (.string s)) (hne : wb ≠ g) (h0 : w.cell? ⟨wb, 0, none⟩ = some (.slice (some ⟨g, 0, none⟩) 0 s.size)) (h1 : w.cell? ⟨wb, 1, none⟩ = some (.bool false))
    (h3 : w.cell? ⟨wb, 3, none⟩ = some .nilIface) (hf : w.frozen? ⟨wb, 0, none⟩ = false) (hg : w.heap[g]? = some (.cells cur 5)) (hcs : cur.size = s.size) :
    Calls Try.prog 20 #[.pointer (some ⟨wb, 0, none⟩), .pointer (some ⟨b, 0, none⟩)] w (PutP wb g s w) := by
  have hput := put_buf wb g s cur w hne h0 h1 h3 hf hg hcs
  have hmid : Calls Try.prog 21 #[.pointer (some ⟨wb, 0, none⟩), .string s] w (PutP wb g s w) := by
    go_enter Try.func21, Try.ntmps21
    go_wp2_with fail
    refine hput.mono ?_
    rintro e w1 ⟨rfl, HP⟩
    go_wp2
    go_returns
    exact ⟨rfl, HP⟩
  go_enter Try.func20, Try.ntmps20
  go_wp2_with fail
  refine hmid.mono ?_
  rintro e w1 ⟨rfl, HP⟩
  go_wp2
  go_returns
  exact ⟨rfl, HP⟩

/-- what Bytes gives: a new row of s's bytes -/
def BytesP (s : ByteArray) (w : World) (e : Ending) (w' : World) : Prop :=
  ∃ g, e = .returned (.slice (some ⟨g, 0, none⟩) s.size s.size) ∧ w.heap.size ≤ g ∧ w'.heap[g]? = some (.cells (Lib.strCells s).toArray 5) ∧ Below w.heap.size w w'

set_option maxRecDepth 100000 in
set_option maxHeartbeats 1000000 in
theorem docBytes (b : Nat) (s : ByteArray) (hs : (s.size : Int) ≤ 1048576) (w : World) (hb : w.cell? ⟨b, 0, none⟩ = some (.string s)) : Calls Try.prog 17 #[doc b s.size] w (BytesP s w) := by
  have hi : (Try.prog.info? 5).map (fun i => (i.zero, i.size, i.bytes)) = some (some (.int .u8 0), 1, 1) := by kernel_rfl
  obtain ⟨i0, hi, hz0, hz1, hz2⟩ := info_parts hi
  have hmk := run_make (P := Try.prog) (w.alloc (.cells #[wr b, .int .i64 s.size] 30)) 34 5 i0 (.int .u8 0) Try.underlying34 hi hz0 .i64 .i64 0 s.size (by omega) (by omega) (by rw [hz2]; omega) (by omega)
  simp only [Int.toNat_natCast, hz1, Nat.mul_one, Int.toNat_zero] at hmk
  go_enter Try.func17, Try.ntmps17
  go_wp2_with fail
  refine (write_buf (w.heap.size + 1 + 1) (w.heap.size + 1) b s (madeCells #[Value.int .u8 0] s.size) _ ?_ (by omega) ?_ ?_ ?_ ?_ ?_ (size_madeCells _ _)).mono ?_
  · have : b < w.heap.size := World.block_lt_of_cell? w _ hb
    refine (World.cell?_of_block (w := w) ?_).trans hb
    show ((( w.alloc _).alloc _).alloc _).heap[b]? = _
    rw [Below.heap_alloc _ _ _ (by simp; omega), Below.heap_alloc _ _ _ (by simp; omega), Below.heap_alloc _ _ _ this]
  · exact (cell_new (by simp) _ _ _).trans rfl
  · exact (cell_new (by simp) _ _ _).trans rfl
  · exact (cell_new (by simp) _ _ _).trans rfl
  · exact frozen_new (by simp) _ _ _
  · rw [Below.heap_alloc _ _ _ (by simp)]
    exact heap_at (by simp) _
  rintro e w2 ⟨rfl, c0, H2, o1, o2, o3, o4, o5⟩
  go_wp2
  go_ret
  refine ⟨w.heap.size + 1, rfl, by omega, H2, o1, o2, o3, ?_, fun k hk => ?_⟩
  · refine Nat.le_trans ?_ o4
    simp; omega
  · rw [o5 k (by omega) (by omega), Below.heap_alloc _ _ _ (by simp; omega), Below.heap_alloc _ _ _ (by simp; omega), Below.heap_alloc _ _ _ hk]
end Go.Proofs.Qxb6616123a
