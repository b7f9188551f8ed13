/-
  OWN TEXT. cloneBytes and the guards on length.
-/
import Derived.Test.Qxb6616074aDoorApp2
import Derived.Laws.MakeOwn
import Derived.Laws.CopyOwn
namespace Go.Proofs.Qxb6616074aDoor
open Go.RowKit Go.Sort

theorem splice_all (cur cs : List Value) (h : cs.length = cur.length) : splice cur 0 cs = cs := by
  simp [splice, h]

set_option maxRecDepth 100000 in
set_option maxHeartbeats 1000000 in
theorem clone_full (a : Option Addr) (n cap : Nat) (f : Nat → Int) (w : World) (h : Full w a n f) (hn : n ≤ 1048576) (hc : a = none → cap = 0) :
    Calls Tryd.prog 8 #[.slice a n cap] w (CloneP w n f) := by
  obtain ⟨i0, hi, hz0, hz1, hz2⟩ := info_parts Tryd.laysM288.i5
  rcases h with ⟨rfl, rfl⟩ | ⟨sb, so, rfl, hby⟩
  · obtain rfl := hc rfl
    have hnil : ∀ W, (binOp .eql 23 (.slice none 0 0) (.slice none 0 0)).run Tryd.prog W = .ok (.bool true) W := fun W => Lib.run_eql_slice_nil_nil W _ _ Tryd.underlying23
    go_enter Tryd.func8, Tryd.ntmps8
    go_wp2
    go_ret
    exact ⟨none, rfl, .inl ⟨rfl, rfl⟩, Below.refl _ _⟩
  · have hmk := run_make (P := Tryd.prog) w 23 5 i0 (.int .u8 0) Tryd.underlying23 hi hz0 .i64 .i64 n n (by omega) (Int.le_refl _) (by rw [hz2]; omega) (by omega)
    simp only [Int.toNat_natCast, hz1, Nat.mul_one] at hmk
    have hsz : (madeCells (Value.int .u8 0).cells n).size = n := size_madeCells _ _
    have hg0 : (w.alloc (.cells (madeCells (Value.int .u8 0).cells n) 5)).heap[w.heap.size]? = some (.cells (madeCells (Value.int .u8 0).cells n) 5) := heap_alloc_new w _
    have hb0 : Below w.heap.size w (w.alloc (.cells (madeCells (Value.int .u8 0).cells n) 5)) := (Below.refl _ w).alloc (Nat.le_refl _) _
    obtain ⟨w1, hw1⟩ : ∃ w1, w.alloc (.cells (madeCells (Value.int .u8 0).cells n) 5) = w1 := ⟨_, rfl⟩
    rw [hw1] at hmk hg0 hb0
    generalize madeCells (Value.int .u8 0).cells n = cur at hsz hg0
    clear hw1
    have hnil : ∀ W, (binOp .eql 23 (.slice (some ⟨sb, so, none⟩) n cap) (.slice none 0 0)).run Tryd.prog W = .ok (.bool false) W := fun W => Lib.run_eql_slice_some_nil W _ _ _ Tryd.underlying23
    have hs1 : (Tryd.prog.info? 5).map (·.size) = some 1 := by kernel_rfl
    have hone : ∀ v ∈ cellsF n f, v.oneCell' = true := by
      intro v hv
      simp only [cellsF, List.mem_map] at hv
      obtain ⟨b, _, rfl⟩ := hv
      rfl
    have hcp := run_copy_row (P := Tryd.prog) w1 23 23 3 5 w.heap.size 0 n n ⟨sb, so, none⟩ n cap cur 5 (cellsF n f) Tryd.underlying23 hs1 hg0 (by rw [cellsF_length]; simp) (hby.below hb0).cells (by rw [cellsF_length, hsz]; omega) hone
    have H2 := setRow_heap w1 w.heap.size cur (cur.toList.take 0 ++ cellsF n f ++ cur.toList.drop (0 + (cellsF n f).length)).toArray 5 (0, 0) hg0
    have hb2 := below_setRow hb0 (Nat.le_refl w.heap.size) (cur.toList.take 0 ++ cellsF n f ++ cur.toList.drop (0 + (cellsF n f).length)).toArray
    have e0 : cur.toList.take 0 ++ cellsF n f ++ cur.toList.drop (0 + (cellsF n f).length) = cellsF n f := by simp [cellsF_length, hsz]
    rw [e0] at hcp H2 hb2
    rw [cellsF_length] at hcp
    generalize w1.setRow w.heap.size (cellsF n f).toArray = w2 at hcp H2 hb2
    go_enter Tryd.func8, Tryd.ntmps8
    go_wp2
    go_ret
    refine ⟨some ⟨w.heap.size, 0, none⟩, rfl, .inr ⟨w.heap.size, 0, rfl, fun _ => rfl, fun i hi => ?_⟩, hb2⟩
    rw [cell_of_row w2 _ _ _ _ _ H2, Nat.zero_add]
    simpa using cellsF_get (f := f) hi

/-- what comes in: nil; or an address, whatever it is where nothing lies there -/
def In (w : World) (a : Option Addr) (n cap : Nat) (f : Nat → Int) : Prop := (a = none → n = 0 ∧ cap = 0) ∧ (0 < n → ∃ sb so, a = some ⟨sb, so, none⟩ ∧ By w a sb so n f)

theorem Full.in {w : World} {a : Option Addr} {n : Nat} {f : Nat → Int} (h : Full w a n f) : In w a n n f := by
  rcases h with ⟨rfl, rfl⟩ | ⟨sb, so, rfl, h⟩
  · exact ⟨fun _ => ⟨rfl, rfl⟩, fun h => by omega⟩
  · exact ⟨fun h => by simp at h, fun _ => ⟨sb, so, rfl, h⟩⟩

set_option maxRecDepth 100000 in
set_option maxHeartbeats 1000000 in
theorem clone_calls (a : Option Addr) (n cap : Nat) (f : Nat → Int) (w : World) (h : In w a n cap f) (hn : n ≤ 1048576) :
    Calls Tryd.prog 8 #[.slice a n cap] w (CloneP w n f) := by
  obtain ⟨h1, h2⟩ := h
  cases a with
  | none => exact clone_full none n cap f w (.inl ⟨rfl, (h1 rfl).1⟩) hn (fun _ => (h1 rfl).2)
  | some x =>
    by_cases h0 : 0 < n
    · obtain ⟨sb, so, e, hby⟩ := h2 h0
      exact clone_full _ n cap f w (.inr ⟨sb, so, e, hby⟩) hn (fun h => by simp at h)
    · (obtain rfl : n = 0 := by omega)
      have hnil : ∀ W, (binOp .eql 23 (.slice (some x) 0 cap) (.slice none 0 0)).run Tryd.prog W = .ok (.bool false) W := fun W => Lib.run_eql_slice_some_nil W _ _ _ Tryd.underlying23
      have hs1 : (Tryd.prog.info? 5).map (·.size) = some 1 := by kernel_rfl
      have hmk : (Instr.makeSlice 23 (.int .i64 0) (.int .i64 0)).run Tryd.prog w = .ok (.slice (some ⟨w.heap.size, 0, none⟩) 0 0) (w.alloc (.cells #[] 5)) := by kernel_rfl
      have hcp := run_copy_none (P := Tryd.prog) (w.alloc (.cells #[] 5)) 23 23 3 5 (some ⟨w.heap.size, 0, none⟩) (some x) 0 0 0 cap Tryd.underlying23 hs1 rfl
      go_enter Tryd.func8, Tryd.ntmps8
      go_wp2
      go_ret
      exact ⟨some ⟨w.heap.size, 0, none⟩, rfl, .inr ⟨w.heap.size, 0, rfl, fun _ => rfl, fun i hi => by omega⟩, (Below.refl _ w).alloc (Nat.le_refl _) _⟩

def GuardP (w : World) (n : Nat) (e : Ending) (w' : World) : Prop := (∃ b, e = .returned (.bool b) ∧ (b = true → n ≤ 1048576)) ∧ w' = w

set_option maxRecDepth 100000 in
theorem zz3_calls (s : Int) (a : Option Addr) (n cap : Nat) (w : World) : Calls Tryd.prog 7 #[.int .u64 s, .slice a n cap] w (GuardP w n) := by
  by_cases hn : (1048576 : Int) < (n : Int)
  · go_enter Tryd.func7, Tryd.ntmps7
    go_wp2
    go_ret
    exact ⟨⟨false, rfl, by simp⟩, rfl⟩
  · have h0 : (n : Int) ≤ 1048576 := by omega
    go_enter Tryd.func7, Tryd.ntmps7
    go_wp2
    go_ret
    exact ⟨⟨true, rfl, fun _ => by omega⟩, rfl⟩

set_option maxRecDepth 100000 in
theorem zz4_calls (s t : Int) (a : Option Addr) (n cap : Nat) (w : World) : Calls Tryd.prog 12 #[.int .u64 s, .int .u64 t, .slice a n cap] w (GuardP w n) := by
  by_cases hn : (1048576 : Int) < (n : Int)
  · go_enter Tryd.func12, Tryd.ntmps12
    go_wp2
    go_ret
    exact ⟨⟨false, rfl, by simp⟩, rfl⟩
  · have h0 : (n : Int) ≤ 1048576 := by omega
    go_enter Tryd.func12, Tryd.ntmps12
    go_wp2
    go_ret
    exact ⟨⟨true, rfl, fun _ => by omega⟩, rfl⟩
end Go.Proofs.Qxb6616074aDoor
