/-
  OWN TEXT. The readers of a ledger.
-/
import Derived.Test.Qxb6616074aPlain4
import Derived.Test.Qxb6616074aTop
import Derived.Handy
import Derived.Lib.Hide
import Derived.Laws.EntriesVeiled
namespace Go.Proofs.Qxb6616074a
open Go.RowKit Go.MapKept Go.ChangeMaps

/-- how many keys f has -/
def Card {α : Type} (f : ByteArray → Option α) (n : Nat) : Prop := ∃ ks : List ByteArray, ks.Nodup ∧ ks.length = n ∧ ∀ k, k ∈ ks ↔ (f k).isSome = true
theorem Card.uniq {α β : Type} {f : ByteArray → Option α} {g : ByteArray → Option β} {n m : Nat} (h : Card f n) (k : Card g m) (e : ∀ t, (f t).isSome = (g t).isSome) : n = m := by
  obtain ⟨a, a1, a2, a3⟩ := h
  obtain ⟨b, b1, b2, b3⟩ := k
  have := ((List.perm_ext_iff_of_nodup a1 b1).2 (fun x => by rw [a3, b3, e])).length_eq
  omega
theorem card_nil {α : Type} : Card (fun _ => (none : Option α)) 0 := ⟨[], by simp, rfl, by simp⟩

def keyS : Value → ByteArray
  | .string k => k
  | _ => ByteArray.empty

theorem MapAt.card {α : Type} {enc : α → Value} {f : ByteArray → Option α} {w : World} {b n : Nat} (h : MapAt w b enc f n) : Card f n := by
  obtain ⟨es, clock, _, R, rfl⟩ := h
  refine ⟨es.toList.map (fun e => keyS e.key), ?_, by simp, ?_⟩
  · have hnd := R.st.2.2
    have he : es.toList.map (·.key) = (es.toList.map (fun e => keyS e.key)).map Value.string := by
      rw [List.map_map]
      refine List.map_congr_left fun e he => ?_
      obtain ⟨k, a, hk, _⟩ := R.of e he
      simp [hk, keyS]
    rw [he] at hnd
    exact List.Pairwise.imp (fun hne e => hne (by rw [e])) (List.pairwise_map.1 hnd)
  · intro k
    rw [List.mem_map]
    constructor
    · rintro ⟨e, he, rfl⟩
      obtain ⟨k, a, hk, _, hf⟩ := R.of e he
      simp [hk, keyS, hf]
    · intro hs
      obtain ⟨a, ha⟩ := Option.isSome_iff_exists.1 hs
      obtain ⟨e, he, hk⟩ := R.to k a ha
      exact ⟨e, he, by simp [hk, keyS]⟩

theorem zero59 (w : World) : (zeroValue 59).run Try.prog w = .ok (.int .u64 0) w := by kernel_rfl

section
variable {w : World} {lb : Nat} {F : List Nat} {L : Led}

theorem LedS.unLook (h : LedS w lb F L) (t : ByteArray) : ∃ (mv : Value) (n : Nat), w.cell? ⟨lb, 2, none⟩ = some mv ∧ (Instr.lookup 54 mv (.string t) true).run Try.prog w = .ok (.tuple #[.int .u64 ((L.un t).getD 0), .bool (L.un t).isSome]) w ∧
    (∀ ty, (Builtin.len_ #[54] ty #[mv]).run Try.prog w = .ok (.int .i64 n) w) ∧ Card L.un n := by
  obtain ⟨D, uv, nu, amv, aov, na, cmv, cov, nc, h, rfl⟩ := h
  obtain ⟨c, _, hm⟩ := h.una
  rcases hm with ⟨rfl, hu, rfl⟩ | ⟨r, rfl, hM⟩
  · refine ⟨_, 0, c, ?_, ?_, by rw [hu]; exact card_nil⟩
    · rw [hu]
      exact look_nil (P := Try.prog) Try.underlying54 Try.underlying9 (zero59 w) t
    · intro ty
      simp [Builtin.len_, run_underlying Try.underlying54, goInt]
  · refine ⟨_, nu, c, ?_, fun ty => hM.len (P := Try.prog) Try.underlying54, hM.card⟩
    rw [hM.look (P := Try.prog) Try.underlying54 Try.underlying9 (zero59 w) t]
    cases L.un t <;> rfl

/-- a log's latest map, read -/
def LogLook (w : World) (lb o : Nat) (f : Latest) (t : ByteArray) : Prop := ∃ (mv : Value) (n : Nat), w.cell? ⟨lb, o, none⟩ = some mv ∧ (∀ w', Chg (fun _ => False) w w' → (Instr.lookup 55 mv (.string t) true).run Try.prog w' = .ok (.tuple #[outV ((f t).getD (0, 0, 0)), .bool (f t).isSome]) w') ∧
    (∀ ty, (Builtin.len_ #[55] ty #[mv]).run Try.prog w = .ok (.int .i64 n) w) ∧ Card f n
theorem LogAt.look {o : Nat} {mv ov : Value} {f : Latest} {nf : Nat} {ord : List Dbt} {cnt : Nat} (h : LogAt w lb o mv ov f nf ord cnt) (t : ByteArray) : LogLook w lb o f t := by
  rcases h.map with ⟨rfl, hu, rfl⟩ | ⟨r, rfl, hM⟩
  · refine ⟨_, 0, h.c0, ?_, ?_, by rw [hu]; exact card_nil⟩
    · intro w' _
      rw [hu]
      exact look_nil (P := Try.prog) Try.underlying55 Try.underlying9 (zero84 w') t
    · intro ty
      simp [Builtin.len_, run_underlying Try.underlying55, goInt]
  · refine ⟨_, nf, h.c0, ?_, fun ty => hM.len (P := Try.prog) Try.underlying55, hM.card⟩
    intro w' hc
    rw [(hM.kept hc (fun x => x)).look (P := Try.prog) Try.underlying55 Try.underlying9 (zero84 w') t, outV_getD]
theorem LedS.abLook (h : LedS w lb F L) (t : ByteArray) : LogLook w lb 3 L.ab.latest t := by
  obtain ⟨D, uv, nu, amv, aov, na, cmv, cov, nc, h, rfl⟩ := h
  exact h.abo.look t
theorem LedS.cmLook (h : LedS w lb F L) (t : ByteArray) : LogLook w lb 6 L.cm.latest t := by
  obtain ⟨D, uv, nu, amv, aov, na, cmv, cov, nc, h, rfl⟩ := h
  exact h.com.look t
theorem LedS.fgCell (h : LedS w lb F L) : w.cell? ⟨lb, 9, none⟩ = some (.int .u64 L.fg) := by
  obtain ⟨D, uv, nu, amv, aov, na, cmv, cov, nc, h, rfl⟩ := h
  exact h.c9
theorem LedS.dLook (h : LedS w lb F L) (t : ByteArray) (o : Option Int) (ho : ∀ s, o = some s ↔ (t, s) ∈ L.hs) :
    (o = none ∧ ∃ mv, w.cell? ⟨lb, 1, none⟩ = some mv ∧ (Instr.lookup 42 mv (.string t) true).run Try.prog w = .ok (.tuple #[.int .i64 0, .bool false]) w) ∨
    ∃ s mv i hb c, o = some s ∧ w.cell? ⟨lb, 1, none⟩ = some mv ∧ (Instr.lookup 42 mv (.string t) true).run Try.prog w = .ok (.tuple #[.int .i64 (i : Nat), .bool true]) w ∧
      w.cell? ⟨lb, 0, none⟩ = some (.slice (some ⟨hb, 0, none⟩) L.hs.length c) ∧ i < L.hs.length ∧ L.hs.length ≤ 1000000000 ∧ w.cell? ⟨hb, i * 2 + 1, none⟩ = some (.int .u64 s) := by
  obtain ⟨D, uv, nu, amv, aov, na, cmv, cov, nc, h, rfl⟩ := h
  rcases h.dbt with ⟨_, e, c0, c1, _⟩ | ⟨hb, cap, pb, _, hD⟩
  · left
    refine ⟨?_, _, c1, look_nil (P := Try.prog) Try.underlying42 Try.underlying9 (zero3 w) t⟩
    cases o with
    | none => rfl
    | some s =>
      have := (ho s).1 rfl
      rw [e] at this
      cases this
  · obtain ⟨pl, hM, hg⟩ := hD.map
    have hl := hM.look (P := Try.prog) Try.underlying42 Try.underlying9 (zero3 w) t
    cases o with
    | none =>
      left
      refine ⟨rfl, _, hD.c1, ?_⟩
      have : pl t = none := by
        cases hp : pl t with
        | none => rfl
        | some i =>
          obtain ⟨d, hd, rfl⟩ := (hg t i).1 hp
          have := (ho d.2).2 (List.mem_of_getElem? hd)
          cases this
      rw [hl, this]
      rfl
    | some s =>
      right
      have hmem := (ho s).1 rfl
      obtain ⟨i, hi⟩ := List.mem_iff_getElem?.1 hmem
      have hp : pl t = some i := (hg t i).2 ⟨(t, s), hi, rfl⟩
      refine ⟨s, _, i, hb, cap, rfl, hD.c1, ?_, hD.c0, (List.getElem?_eq_some_iff.1 hi).1, hD.small, (hD.cells hi).2.1⟩
      rw [hl, hp]
      rfl

set_option maxRecDepth 100000
theorem unLen_calls (h : LedS w lb F L) (P : Nat → Prop) (hP : ∀ n, Card L.un n → P n) : Calls Try.prog 14 #[.pointer (some ⟨lb, 0, none⟩)] w fun e w' => (∃ n : Nat, e = .returned (.int .i64 n) ∧ P n) ∧ w' = w := by
  obtain ⟨mv, n, hc, _, hl, hC⟩ := h.unLook ByteArray.empty
  go_enter Try.func14, Try.ntmps14
  go_wp2
  go_ret
  exact ⟨⟨n, rfl, hP n hC⟩, rfl⟩
theorem abLen_calls (h : LedS w lb F L) (P : Nat → Prop) (hP : ∀ n, Card L.ab.latest n → P n) : Calls Try.prog 15 #[.pointer (some ⟨lb, 0, none⟩)] w fun e w' => (∃ n : Nat, e = .returned (.int .i64 n) ∧ P n) ∧ w' = w := by
  obtain ⟨mv, n, hc, _, hl, hC⟩ := h.abLook ByteArray.empty
  go_enter Try.func15, Try.ntmps15
  go_wp2
  go_ret
  exact ⟨⟨n, rfl, hP n hC⟩, rfl⟩
theorem cmLen_calls (h : LedS w lb F L) (P : Nat → Prop) (hP : ∀ n, Card L.cm.latest n → P n) : Calls Try.prog 17 #[.pointer (some ⟨lb, 0, none⟩)] w fun e w' => (∃ n : Nat, e = .returned (.int .i64 n) ∧ P n) ∧ w' = w := by
  obtain ⟨mv, n, hc, _, hl, hC⟩ := h.cmLook ByteArray.empty
  go_enter Try.func17, Try.ntmps17
  go_wp2
  go_ret
  exact ⟨⟨n, rfl, hP n hC⟩, rfl⟩
theorem fg_calls (h : LedS w lb F L) : Calls Try.prog 19 #[.pointer (some ⟨lb, 0, none⟩)] w fun e w' => e = .returned (.int .u64 L.fg) ∧ w' = w := by
  have hc := h.fgCell
  go_enter Try.func19, Try.ntmps19
  go_wp2
  go_ret
  exact ⟨rfl, rfl⟩
theorem get_calls (h : LedS w lb F L) (t : ByteArray) (o : Option Int) (ho : ∀ s, o = some s ↔ (t, s) ∈ L.hs) :
    Calls Try.prog 32 #[.pointer (some ⟨lb, 0, none⟩), .string t] w fun e w' => e = .returned (.tuple #[.int .u64 (o.getD 0), .bool o.isSome]) ∧ w' = w := by
  rcases h.dLook t o ho with ⟨rfl, mv, hc, hl⟩ | ⟨s, mv, i, hb, c, rfl, hc, hl, h0, hi, hsm, hs⟩
  · go_enter Try.func32, Try.ntmps32
    go_wp2
    go_ret2
    exact ⟨rfl, rfl⟩
  · have hi' : (i : Int) < (L.hs.length : Int) := by omega
    have hi0 : (0 : Int) ≤ (i : Int) := by omega
    go_enter Try.func32, Try.ntmps32
    go_wp2
    go_ret2
    exact ⟨rfl, rfl⟩
theorem dget_calls (h : LedS w lb F L) (t : ByteArray) (o : Option Int) (ho : ∀ s, o = some s ↔ (t, s) ∈ L.hs) :
    Calls Try.prog 24 #[.pointer (some ⟨lb, 0, none⟩), .string t] w fun e w' => e = .returned (.tuple #[.int .u64 (o.getD 0), .bool o.isSome]) ∧ w' = w := by
  go_enter Try.func24, Try.ntmps24
  go_wp2_with fail
  refine (get_calls h t o ho).mono ?_
  rintro e w' ⟨rfl, hw⟩
  subst hw
  go_wp2
  go_ret2
  exact ⟨rfl, rfl⟩
theorem unGet_calls (h : LedS w lb F L) (t : ByteArray) : Calls Try.prog 25 #[.pointer (some ⟨lb, 0, none⟩), .string t] w fun e w' => e = .returned (.tuple #[.int .u64 ((L.un t).getD 0), .bool (L.un t).isSome]) ∧ w' = w := by
  obtain ⟨mv, n, hc, hk, hl, hC⟩ := h.unLook t
  go_enter Try.func25, Try.ntmps25
  go_wp2
  go_ret2
  exact ⟨rfl, rfl⟩

def LkP (w : World) (v : Value) (e : Ending) (w' : World) : Prop := e = .returned v ∧ Chg (fun _ => False) w w'

theorem lookup_calls (o : Nat) (f : Latest) (t : ByteArray) (h : LogLook w lb o f t) :
    Calls Try.prog 33 #[.pointer (some ⟨lb, o, none⟩), .string t] w (LkP w (.tuple #[outV ((f t).getD (0, 0, 0)), .bool (f t).isSome])) := by
  obtain ⟨mv, n, hc, hk, _⟩ := h
  have hlb := World.block_lt_of_cell? w _ hc
  have hk1 := hk _ (chg_alloc (fun _ => False) w (.cells #[.int .u64 0, .int .u8 0, .int .u64 0] 84))
  clear hk
  generalize (f t).getD (0, 0, 0) = x at hk1 ⊢
  generalize (f t).isSome = b at hk1 ⊢
  obtain ⟨x0, x1, x2⟩ := x
  simp only [outV] at hk1 ⊢
  go_enter Try.func33, Try.ntmps33
  go_wp2
  have q : ∀ j v, (#[Value.int .u64 x0, .int .u8 x1, .int .u64 x2])[j]? = some v → ((w.alloc (.cells #[.int .u64 x0, .int .u8 x1, .int .u64 x2] 84)).alloc (.cells #[.int .u64 x0, .int .u8 x1, .int .u64 x2] 84)).cell? ⟨w.heap.size, j, none⟩ = some v := fun j v hv =>
    (chg_alloc (fun _ => False) _ _).cell ((cell_new rfl _ _ _).trans hv) (fun x => x)
  have q0 := q 0 _ rfl
  have q1 := q 1 _ rfl
  have q2 := q 2 _ rfl
  have hC : Chg (fun _ => False) w ((w.alloc (.cells #[.int .u64 x0, .int .u8 x1, .int .u64 x2] 84)).alloc (.cells #[.int .u64 x0, .int .u8 x1, .int .u64 x2] 84)) := (chg_alloc _ _ _).alloc _
  clear q
  generalize ((w.alloc (.cells #[.int .u64 x0, .int .u8 x1, .int .u64 x2] 84)).alloc (.cells #[.int .u64 x0, .int .u8 x1, .int .u64 x2] 84)) = W at q0 q1 q2 hC ⊢
  refine bodyPost_ret (v := .tuple #[.agg #[.int .u64 x0, .int .u8 x1, .int .u64 x2], .bool b]) (by simp [results, Try.results33, go_sem, q0, q1, q2]) rfl ?_
  exact ⟨rfl, hC⟩

theorem abGet_calls (h : LedS w lb F L) (t : ByteArray) : Calls Try.prog 26 #[.pointer (some ⟨lb, 0, none⟩), .string t] w
    (LkP w (.tuple #[.int .u8 ((L.ab.latest t).getD (0, 0, 0)).2.1, .int .u64 ((L.ab.latest t).getD (0, 0, 0)).2.2, .bool (L.ab.latest t).isSome])) := by
  have hlb := h.lb_lt
  have hlk := lookup_calls 3 _ t (h.abLook t)
  generalize (L.ab.latest t).getD (0, 0, 0) = x at hlk ⊢
  generalize (L.ab.latest t).isSome = b at hlk ⊢
  obtain ⟨x0, x1, x2⟩ := x
  simp only [outV] at hlk ⊢
  go_enter Try.func26, Try.ntmps26
  go_wp2_with fail
  refine hlk.mono ?_
  rintro e w1 ⟨rfl, hC⟩
  go_wp2
  go_quiet (fail)
  go_wp2
  go_ret3
  exact ⟨rfl, (hC.alloc _).drewN _⟩

theorem cmGet_calls (h : LedS w lb F L) (t : ByteArray) : Calls Try.prog 27 #[.pointer (some ⟨lb, 0, none⟩), .string t] w
    (LkP w (.tuple #[.int .u8 ((L.cm.latest t).getD (0, 0, 0)).2.1, .int .u64 ((L.cm.latest t).getD (0, 0, 0)).2.2, .bool (L.cm.latest t).isSome])) := by
  have hlb := h.lb_lt
  have hlk := lookup_calls 6 _ t (h.cmLook t)
  generalize (L.cm.latest t).getD (0, 0, 0) = x at hlk ⊢
  generalize (L.cm.latest t).isSome = b at hlk ⊢
  obtain ⟨x0, x1, x2⟩ := x
  simp only [outV] at hlk ⊢
  go_enter Try.func27, Try.ntmps27
  go_wp2_with fail
  refine hlk.mono ?_
  rintro e w1 ⟨rfl, hC⟩
  go_wp2
  go_quiet (fail)
  go_wp2
  go_ret3
  exact ⟨rfl, (hC.alloc _).drewN _⟩


def comF (un : Option Int) (cm : Option Outc) : Int × Bool := match un with
  | some s => (s, true)
  | none => ((cm.getD (0, 0, 0)).2.2, cm.isSome)

theorem commitOf_calls (h : LedS w lb F L) (t : ByteArray) : Calls Try.prog 37 #[.pointer (some ⟨lb, 0, none⟩), .string t] w
    (LkP w (.tuple #[.int .u64 (comF (L.un t) (L.cm.latest t)).1, .bool (comF (L.un t) (L.cm.latest t)).2])) := by
  have hlb := h.lb_lt
  have hlk := lookup_calls 6 _ t (h.cmLook t)
  obtain ⟨mv, n, hc, hk, _, _⟩ := h.unLook t
  cases hu : L.un t with
  | some s =>
    rw [hu] at hk
    simp only [Option.getD_some, Option.isSome_some] at hk
    simp only [comF]
    clear hlk hu
    go_enter Try.func37, Try.ntmps37
    go_wp2
    go_ret2
    exact ⟨rfl, Chg.refl _ _⟩
  | none =>
    rw [hu] at hk
    simp only [Option.getD_none, Option.isSome_none] at hk
    simp only [comF]
    clear hu
    generalize (L.cm.latest t).getD (0, 0, 0) = x at hlk ⊢
    generalize (L.cm.latest t).isSome = b at hlk ⊢
    obtain ⟨x0, x1, x2⟩ := x
    simp only [outV] at hlk ⊢
    go_enter Try.func37, Try.ntmps37
    go_wp2_with fail
    refine hlk.mono ?_
    rintro e w1 ⟨rfl, hC⟩
    go_wp2
    go_ret2
    exact ⟨rfl, hC.alloc _⟩

def outF (o un : Option Int) (cm ab : Option Outc) : Int × Int := match o with
  | some s => (1, s)
  | none => if (comF un cm).2 then (2, (comF un cm).1) else if ab.isSome then (3, 0) else (0, 0)

theorem set2 {w : World} {b : Nat} {u0 u1 : Value} (h0 : w.cell? ⟨b, 0, none⟩ = some u0) (h1 : w.cell? ⟨b, 1, none⟩ = some u1) (v0 v1 : Value) :
    ((w.setCell ⟨b, 0, none⟩ v0).setCell ⟨b, 1, none⟩ v1).cell? ⟨b, 0, none⟩ = some v0 ∧ ((w.setCell ⟨b, 0, none⟩ v0).setCell ⟨b, 1, none⟩ v1).cell? ⟨b, 1, none⟩ = some v1 := by
  constructor
  · rw [World.cell?_setCell_other _ _ _ _ (by simp)]
    exact World.cell?_setCell_same _ _ _ h0
  · refine World.cell?_setCell_same _ _ (u := u1) _ ?_
    rw [World.cell?_setCell_other _ _ _ _ (by simp)]
    exact h1

theorem outcome_calls (h : LedS w lb F L) (t : ByteArray) (o : Option Int) (ho : ∀ s, o = some s ↔ (t, s) ∈ L.hs) : Calls Try.prog 34 #[.pointer (some ⟨lb, 0, none⟩), .string t] w
    (LkP w (.agg #[.int .u8 (outF o (L.un t) (L.cm.latest t) (L.ab.latest t)).1, .int .u64 (outF o (L.un t) (L.cm.latest t) (L.ab.latest t)).2])) := by
  have hlb := h.lb_lt
  have h1 : LedS (w.alloc (.cells #[.int .u8 0, .int .u64 0] 89)) lb F L := h.frame (G := fun _ => False) (chg_alloc _ _ _) (fun x => x) (fun _ _ x => x)
  have hget := get_calls h1 t o ho
  have hcm := commitOf_calls h1 t
  cases o with
  | some s =>
    simp only [outF, Option.getD_some, Option.isSome_some] at hget ⊢
    go_enter Try.func34, Try.ntmps34
    go_wp2_with fail
    refine hget.mono ?_
    rintro e w1 ⟨rfl, hw⟩
    subst hw
    go_wp2
    have q0 : (w.alloc (.cells #[.int .u8 1, .int .u64 s] 89)).cell? ⟨w.heap.size, 0, none⟩ = some (.int .u8 1) := (cell_new rfl _ _ _).trans rfl
    have q1 : (w.alloc (.cells #[.int .u8 1, .int .u64 s] 89)).cell? ⟨w.heap.size, 1, none⟩ = some (.int .u64 s) := (cell_new rfl _ _ _).trans rfl
    have hC := chg_alloc (fun _ => False) w (.cells #[.int .u8 1, .int .u64 s] 89)
    generalize w.alloc (.cells #[.int .u8 1, .int .u64 s] 89) = W at q0 q1 hC ⊢
    refine bodyPost_ret (v := .agg #[.int .u8 1, .int .u64 s]) (by simp [results, Try.results34, go_sem, q0, q1]) rfl ?_
    exact ⟨rfl, hC⟩
  | none =>
    simp only [outF, Option.getD_none, Option.isSome_none] at hget ⊢
    have c0 : (w.alloc (.cells #[.int .u8 0, .int .u64 0] 89)).cell? ⟨w.heap.size, 0, none⟩ = some (.int .u8 0) := (cell_new rfl _ _ _).trans rfl
    have c1 : (w.alloc (.cells #[.int .u8 0, .int .u64 0] 89)).cell? ⟨w.heap.size, 1, none⟩ = some (.int .u64 0) := (cell_new rfl _ _ _).trans rfl
    have f0 : (w.alloc (.cells #[.int .u8 0, .int .u64 0] 89)).frozen? ⟨w.heap.size, 0, none⟩ = false := frozen_new rfl _ _ _
    have f1 : (w.alloc (.cells #[.int .u8 0, .int .u64 0] 89)).frozen? ⟨w.heap.size, 1, none⟩ = false := frozen_new rfl _ _ _
    have hC0 := chg_alloc (fun _ => False) w (.cells #[.int .u8 0, .int .u64 0] 89)
    have hlt : w.heap.size < (w.alloc (.cells #[.int .u8 0, .int .u64 0] 89)).heap.size := by simp
    have key : ∀ (wq : World), Chg (fun _ => False) (w.alloc (.cells #[.int .u8 0, .int .u64 0] 89)) wq → Hid (wq.cell? ⟨w.heap.size, 0, none⟩ = some (.int .u8 0) ∧ wq.cell? ⟨w.heap.size, 1, none⟩ = some (.int .u64 0) ∧ wq.frozen? ⟨w.heap.size, 0, none⟩ = false ∧ wq.frozen? ⟨w.heap.size, 1, none⟩ = false ∧ LedS wq lb F L ∧
        ∀ v0 v1, Chg (fun _ => False) w ((wq.setCell ⟨w.heap.size, 0, none⟩ v0).setCell ⟨w.heap.size, 1, none⟩ v1)) := fun wq hq =>
      ⟨hq.cell c0 (fun x => x), hq.cell c1 (fun x => x), (hq.frozens hlt (fun x => x) 0).trans f0, (hq.frozens hlt (fun x => x) 1).trans f1, h1.frame hq (fun x => x) (fun _ _ x => x),
        fun v0 v1 => (((hC0.trans hq (fun _ _ x => x)).setCell (a := ⟨w.heap.size, 0, none⟩) (fun hx => by simp at hx) v0).setCell (a := ⟨w.heap.size, 1, none⟩) (fun hx => by simp at hx) v1)⟩
    clear c0 c1 f0 f1 hC0 hlt
    generalize comF (L.un t) (L.cm.latest t) = cv at hcm ⊢
    obtain ⟨cs, cb⟩ := cv
    cases cb with
    | true =>
      simp only at hcm ⊢
      go_enter Try.func34, Try.ntmps34
      go_wp2_with fail
      refine hget.mono ?_
      rintro e w1 ⟨rfl, hw⟩
      subst hw
      go_wp2_with fail
      refine hcm.mono ?_
      rintro e w2 ⟨rfl, hC⟩
      obtain ⟨c0, c1, f0, f1, hL2, hC2⟩ := (key w2 hC).out
      have hC2 := hC2 (.int .u8 2) (.int .u64 cs)
      obtain ⟨q0, q1⟩ := set2 c0 c1 (.int .u8 2) (.int .u64 cs)
      have Q0 := Lib.hid q0
      have Q1 := Lib.hid q1
      clear q0 q1
      go_wp2
      have q0 := Q0.out
      have q1 := Q1.out
      generalize ((w2.setCell ⟨w.heap.size, 0, none⟩ (.int .u8 2)).setCell ⟨w.heap.size, 1, none⟩ (.int .u64 cs)) = W at q0 q1 hC2 ⊢
      refine bodyPost_ret (v := .agg #[.int .u8 2, .int .u64 cs]) (by simp [results, Try.results34, go_sem, q0, q1]) rfl ?_
      exact ⟨rfl, hC2⟩
    | false =>
      have hlk : ∀ w2, LedS w2 lb F L → Calls Try.prog 33 #[.pointer (some ⟨lb, 3, none⟩), .string t] w2 (LkP w2 (.tuple #[outV ((L.ab.latest t).getD (0, 0, 0)), .bool (L.ab.latest t).isSome])) := fun w2 hL => lookup_calls 3 _ t (hL.abLook t)
      generalize (L.ab.latest t).getD (0, 0, 0) = x at hlk
      generalize (L.ab.latest t).isSome = b at hlk ⊢
      obtain ⟨x0, x1, x2⟩ := x
      simp only [outV] at hlk
      simp only at hcm
      cases b with
      | true =>
        simp only [Bool.false_eq_true, if_false, if_true]
        go_enter Try.func34, Try.ntmps34
        go_wp2_with fail
        refine hget.mono ?_
        rintro e w1 ⟨rfl, hw⟩
        subst hw
        go_wp2_with fail
        refine hcm.mono ?_
        rintro e w2 ⟨rfl, hC⟩
        have hlk := hlk w2 (key w2 hC).out.2.2.2.2.1
        go_wp2_with fail
        refine hlk.mono ?_
        rintro e w3 ⟨rfl, hC3⟩
        obtain ⟨c0, c1, f0, f1, _, hC2⟩ := (key (w3.alloc (.cells #[.int .u64 x0, .int .u8 x1, .int .u64 x2] 84)) ((hC.trans hC3 (fun _ _ x => x)).alloc _)).out
        have hC2 := hC2 (.int .u8 3) (.int .u64 0)
        obtain ⟨q0, q1⟩ := set2 c0 c1 (.int .u8 3) (.int .u64 0)
        have Q0 := Lib.hid q0
        have Q1 := Lib.hid q1
        clear q0 q1
        go_wp2
        have q0 := Q0.out
        have q1 := Q1.out
        generalize (((w3.alloc (.cells #[.int .u64 x0, .int .u8 x1, .int .u64 x2] 84)).setCell ⟨w.heap.size, 0, none⟩ (.int .u8 3)).setCell ⟨w.heap.size, 1, none⟩ (.int .u64 0)) = W at q0 q1 hC2 ⊢
        refine bodyPost_ret (v := .agg #[.int .u8 3, .int .u64 0]) (by simp [results, Try.results34, go_sem, q0, q1]) rfl ?_
        exact ⟨rfl, hC2⟩
      | false =>
        simp only [Bool.false_eq_true, if_false]
        go_enter Try.func34, Try.ntmps34
        go_wp2_with fail
        refine hget.mono ?_
        rintro e w1 ⟨rfl, hw⟩
        subst hw
        go_wp2_with fail
        refine hcm.mono ?_
        rintro e w2 ⟨rfl, hC⟩
        have hlk := hlk w2 (key w2 hC).out.2.2.2.2.1
        go_wp2_with fail
        refine hlk.mono ?_
        rintro e w3 ⟨rfl, hC3⟩
        obtain ⟨c0, c1, f0, f1, _, hC2⟩ := (key (w3.alloc (.cells #[.int .u64 x0, .int .u8 x1, .int .u64 x2] 84)) ((hC.trans hC3 (fun _ _ x => x)).alloc _)).out
        have hC2 := hC2 (.int .u8 0) (.int .u64 0)
        obtain ⟨q0, q1⟩ := set2 c0 c1 (.int .u8 0) (.int .u64 0)
        have Q0 := Lib.hid q0
        have Q1 := Lib.hid q1
        clear q0 q1
        go_wp2
        have q0 := Q0.out
        have q1 := Q1.out
        generalize (((w3.alloc (.cells #[.int .u64 x0, .int .u8 x1, .int .u64 x2] 84)).setCell ⟨w.heap.size, 0, none⟩ (.int .u8 0)).setCell ⟨w.heap.size, 1, none⟩ (.int .u64 0)) = W at q0 q1 hC2 ⊢
        refine bodyPost_ret (v := .agg #[.int .u8 0, .int .u64 0]) (by simp [results, Try.results34, go_sem, q0, q1]) rfl ?_
        exact ⟨rfl, hC2⟩

theorem zzout_calls (h : LedS w lb F L) (t : ByteArray) (o : Option Int) (ho : ∀ s, o = some s ↔ (t, s) ∈ L.hs) : Calls Try.prog 28 #[.pointer (some ⟨lb, 0, none⟩), .string t] w
    (LkP w (.tuple #[.int .u8 (outF o (L.un t) (L.cm.latest t) (L.ab.latest t)).1, .int .u64 (outF o (L.un t) (L.cm.latest t) (L.ab.latest t)).2])) := by
  have hlk := outcome_calls h t o ho
  generalize outF o (L.un t) (L.cm.latest t) (L.ab.latest t) = x at hlk ⊢
  obtain ⟨x0, x1⟩ := x
  simp only at hlk ⊢
  go_enter Try.func28, Try.ntmps28
  go_wp2_with fail
  refine hlk.mono ?_
  rintro e w1 ⟨rfl, hC⟩
  go_wp2
  go_quiet (fail)
  go_wp2
  go_ret2
  exact ⟨rfl, (hC.alloc _).drewN _⟩
end
end Go.Proofs.Qxb6616074a
