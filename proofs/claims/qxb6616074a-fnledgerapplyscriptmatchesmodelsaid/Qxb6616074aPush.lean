/-
  OWN TEXT. (*doubts).Push.
-/
import Derived.Test.Qxb6616074aRows
import Derived.Test.Qxb6616074aDefs
import Derived.Deep.RegionLaw
import Derived.Deep.RegionHeld3
namespace Go.Proofs.Qxb6616074a
open Go.RowKit Go.MapKept Go.ChangeMaps

/-- 'append' as one step of a region that draws its order: whatever it leaves. -/
theorem step_append_at {P : Program} {ops : Array Oper} {o : Oper} {a : Act} {w : World} {K : Act → World → Prop} {Q : Exit → Act → World → Prop} {E : Prop}
    (hg : o.guard = none) (s x : Operand) (t : TypeId) (hop : o.op = Op.call { callee := Callee.builtin Builtin.append, args := #[s, x], argTypes := #[t, t] })
    (sv xv : Value) (hs : a.eval s = sv) (hx : a.eval x = xv) (R : Value → World → Prop)
    (hex : ∃ v' w', (Builtin.append_ #[t, t] o.type #[sv, xv]).run P w = .ok v' w' ∧ R v' w')
    (hK : ∀ v' w', R v' w' → K (a.put o.dst v') w') :
    if Region.wanted o (yielded ops a.tmps) = true then Oper.wp P o a w K Q else E := by
  have hw : Region.wanted o (yielded ops a.tmps) = true := by simp [Region.wanted, hg]
  rw [if_pos hw]
  obtain ⟨v', w', hrun, hR⟩ := hex
  unfold Oper.wp
  simp [execOp, hop, resolve, invoke, builtin, hs, hx, hrun, Result.andThen]
  exact hK v' w' hR

theorem run_equalIn_map_nil {P : Program} {t k e : TypeId} (ht : P.underlying t = some (.map k e)) (d : Nat) (m : Option Nat) (w : World) : (Op.equalIn (d + 1) t (.map m) (.map none)).run P w = .ok m.isNone w := by
  cases m <;> simp [Op.equalIn, run_underlying ht]
theorem run_eql_map_nil {P : Program} {t k e : TypeId} (ht : P.underlying t = some (.map k e)) (m : Option Nat) (w : World) : (binOp .eql t (.map m) (.map none)).run P w = .ok (.bool m.isNone) w := by
  simp only [binOp]
  simp [Op.equal, Op.maxDepth, run_equalIn_map_nil ht 9999 m w]
theorem eqnil42 (r : Nat) (w : World) : (binOp .eql 42 (.map (some r)) (.map none)).run Try.prog w = .ok (.bool false) w := run_eql_map_nil Try.underlying42 (some r) w
theorem eqnil42' (w : World) : (binOp .eql 42 (.map none) (.map none)).run Try.prog w = .ok (.bool true) w := run_eql_map_nil Try.underlying42 none w
theorem assert68 (x : Value) (w : World) : (Instr.typeAssert (.iface 68 x) 20 68 false).run Try.prog w = .ok x w := by kernel_rfl

set_option maxRecDepth 100000 in
set_option maxHeartbeats 4000000 in
theorem push_walk_live (lb pb n c : Nat) (ao : Option Addr) (t : ByteArray) (s : Int) (w w1 w2 : World) (R : Value → World → Prop)
    (h1 : w.cell? ⟨lb, 1, none⟩ = some (.map (some pb)))
    (hlb : lb < w.heap.size)
    (hw1 : Hid (w1 = w.alloc (.cells #[.string t, .int .u64 s] 68)))
    (d0 : w1.cell? ⟨lb, 0, none⟩ = some (.slice ao n c)) (d1 : w1.cell? ⟨lb, 1, none⟩ = some (.map (some pb))) (d2 : w1.cell? ⟨w.heap.size, 0, none⟩ = some (.string t))
    (hup : (Instr.mapUpdate 42 (.map (some pb)) (.string t) (.int .i64 n)).run Try.prog w1.drew = .ok () w2)
    (e0 : w2.cell? ⟨lb, 0, none⟩ = some (.slice ao n c)) (e2 : w2.cell? ⟨w.heap.size, 0, none⟩ = some (.string t)) (e3 : w2.cell? ⟨w.heap.size, 1, none⟩ = some (.int .u64 s))
    (hlb2 : lb < w2.heap.size)
    (hap : ∃ v' w', (Builtin.append_ #[51, 51] 51 #[.slice ao n c, .slice (some ⟨w2.heap.size, 0, none⟩) 1 1]).run Try.prog (w2.alloc (.cells #[.string t, .int .u64 s] 68)).drew = .ok v' w' ∧ R v' w')
    (hR : ∀ v' w', R v' w' → ∃ a' c', v' = .slice a' (n + 1) c' ∧ w'.cell? ⟨lb, 0, none⟩ = some (.slice ao n c) ∧ w'.frozen? ⟨lb, 0, none⟩ = false) :
    Calls Try.prog 61 #[.pointer (some ⟨lb, 0, none⟩), .iface 68 (.agg #[.string t, .int .u64 s])] w fun e w' => e = .returned (.tuple #[]) ∧ ∃ v' w3, R v' w3 ∧ w' = w3.setCell ⟨lb, 0, none⟩ v' := by
  have hta := assert68
  have hen := eqnil42
  go_enter Try.func61, Try.ntmps61
  go_wp2
  rw [← hw1.out]
  clear hw1
  go_region
  all_goals
    go_wp2
    go_region_law (refine step_append_at rfl (.tmp 31) (.tmp 33) 51 rfl (.slice ao n c) (.slice (some ⟨w2.heap.size, 0, none⟩) 1 1) (by simp [Act.eval]) (by simp [Act.eval]) R hap ?_; intro v' w' hr; obtain ⟨a', c', rfl, hc1, hf1⟩ := hR v' w' hr)
    all_goals
      go_end0
      exact ⟨rfl, _, _, ‹R _ _›, rfl⟩

set_option maxRecDepth 100000 in
set_option maxHeartbeats 4000000 in
theorem push_walk_nil (lb n c : Nat) (ao : Option Addr) (t : ByteArray) (s : Int) (w w1 w2 : World) (R : Value → World → Prop)
    (h1 : w.cell? ⟨lb, 1, none⟩ = some (.map none)) (f1 : w.frozen? ⟨lb, 1, none⟩ = false)
    (hlb : lb < w.heap.size)
    (hw1 : Hid (w1 = ((w.setCell ⟨lb, 1, none⟩ (.map (some (w.heap.size + 1)))).alloc (.cells #[.string t, .int .u64 s] 68)).alloc (.map #[] 0)))
    (d0 : w1.cell? ⟨lb, 0, none⟩ = some (.slice ao n c)) (d1 : w1.cell? ⟨lb, 1, none⟩ = some (.map (some (w.heap.size + 1)))) (d2 : w1.cell? ⟨w.heap.size, 0, none⟩ = some (.string t))
    (hup : (Instr.mapUpdate 42 (.map (some (w.heap.size + 1))) (.string t) (.int .i64 n)).run Try.prog w1.drew = .ok () w2)
    (e0 : w2.cell? ⟨lb, 0, none⟩ = some (.slice ao n c)) (e2 : w2.cell? ⟨w.heap.size, 0, none⟩ = some (.string t)) (e3 : w2.cell? ⟨w.heap.size, 1, none⟩ = some (.int .u64 s))
    (hlb2 : lb < w2.heap.size)
    (hap : ∃ v' w', (Builtin.append_ #[51, 51] 51 #[.slice ao n c, .slice (some ⟨w2.heap.size, 0, none⟩) 1 1]).run Try.prog (w2.alloc (.cells #[.string t, .int .u64 s] 68)).drew = .ok v' w' ∧ R v' w')
    (hR : ∀ v' w', R v' w' → ∃ a' c', v' = .slice a' (n + 1) c' ∧ w'.cell? ⟨lb, 0, none⟩ = some (.slice ao n c) ∧ w'.frozen? ⟨lb, 0, none⟩ = false) :
    Calls Try.prog 61 #[.pointer (some ⟨lb, 0, none⟩), .iface 68 (.agg #[.string t, .int .u64 s])] w fun e w' => e = .returned (.tuple #[]) ∧ ∃ v' w3, R v' w3 ∧ w' = w3.setCell ⟨lb, 0, none⟩ v' := by
  have hta := assert68
  have hen := eqnil42'
  have hmm := @run_makeMap Try.prog
  go_enter Try.func61, Try.ntmps61
  go_wp2
  rw [← hw1.out]
  clear hw1
  go_region
  all_goals
    go_wp2
    go_region_law (refine step_append_at rfl (.tmp 31) (.tmp 33) 51 rfl (.slice ao n c) (.slice (some ⟨w2.heap.size, 0, none⟩) 1 1) (by simp [Act.eval]) (by simp [Act.eval]) R hap ?_; intro v' w' hr; obtain ⟨a', c', rfl, hc1, hf1⟩ := hR v' w' hr)
    all_goals
      go_end0
      exact ⟨rfl, _, _, ‹R _ _›, rfl⟩
end Go.Proofs.Qxb6616074a
