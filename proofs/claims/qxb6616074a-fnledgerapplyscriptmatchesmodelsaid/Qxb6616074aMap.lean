/-
  OWN TEXT. String-keyed maps that the call itself makes, told by a plain function into options and a count.
  'MapAt w b enc f n': block b of w is a map with n entries; the entry at key k holds 'enc a' just where 'f k = some a'.
-/
import Derived.WalkKit
import Derived.ChangeMaps5
namespace Go.Proofs.Qxb6616074a
open Go.RowKit Go.MapKept Go.ChangeMaps

def upd {α : Type} (f : ByteArray → Option α) (k : ByteArray) (v : Option α) : ByteArray → Option α := fun x => if x = k then v else f x

theorem upd_same {α : Type} (f : ByteArray → Option α) (k : ByteArray) (v : Option α) : upd f k v k = v := by simp [upd]
theorem upd_other {α : Type} (f : ByteArray → Option α) {k x : ByteArray} (v : Option α) (h : x ≠ k) : upd f k v x = f x := by simp [upd, h]

structure Rep {α : Type} (enc : α → Value) (es : Array MapEntry) (clock : Nat) (f : ByteArray → Option α) : Prop where
  st : Stamped es clock
  of : ∀ e ∈ es.toList, ∃ k a, e.key = .string k ∧ e.val = enc a ∧ f k = some a
  to : ∀ k a, f k = some a → ∃ e ∈ es.toList, e.key = .string k

def MapAt {α : Type} (w : World) (b : Nat) (enc : α → Value) (f : ByteArray → Option α) (n : Nat) : Prop :=
  ∃ es clock, w.heap[b]? = some (.map es clock) ∧ Rep enc es clock f ∧ es.size = n

section
variable {α : Type} {enc : α → Value} {es : Array MapEntry} {clock : Nat} {f : ByteArray → Option α} {P : Program} {w : World} {b n : Nat}

theorem Rep.isKey (R : Rep enc es clock f) : ∀ x ∈ es.toList, IsKey .string x.key := by
  intro x hx
  obtain ⟨k, a, hk, _⟩ := R.of x hx
  rw [hk]; trivial

theorem Rep.val (R : Rep enc es clock f) {e : MapEntry} (he : e ∈ es.toList) {k : ByteArray} {a : α} (hk : e.key = .string k) (hf : f k = some a) : e.val = enc a := by
  obtain ⟨k', a', hk', hv, hf'⟩ := R.of e he
  rw [hk] at hk'
  cases hk'
  rw [hf] at hf'
  cases hf'
  exact hv

theorem Rep.none (R : Rep enc es clock f) {k : ByteArray} (hf : f k = .none) : ∀ x ∈ es.toList, x.key ≠ .string k := by
  intro x hx he
  obtain ⟨k', a', hk', _, hf'⟩ := R.of x hx
  rw [he] at hk'
  cases hk'
  rw [hf] at hf'
  cases hf'

/-- What the model's search gives. -/
theorem Rep.find (R : Rep enc es clock f) (k : ByteArray) :
    (f k = .none ∧ Instr.findNow .string (.string k) es.toList 0 = some .none) ∨
    ∃ a j e, f k = some a ∧ Instr.findNow .string (.string k) es.toList 0 = some (some (j, enc a)) ∧ es.toList[j]? = some e ∧ e.key = .string k ∧ e.val = enc a := by
  have hkey : IsKey .string (.string k) := trivial
  rcases findNow_spec hkey es.toList 0 R.isKey with ⟨h1, h2⟩ | ⟨j, e0, h1, h2, h3⟩
  · left
    refine ⟨?_, h1⟩
    cases hf : f k with
    | none => rfl
    | some a =>
      obtain ⟨e, he, hke⟩ := R.to k a hf
      exact absurd hke (h2 e he)
  · right
    obtain ⟨k', a, hk', hv, hf⟩ := R.of e0 (List.mem_of_getElem? h2)
    rw [h3] at hk'
    cases hk'
    exact ⟨a, j, e0, hf, by rw [h1, hv]; simp, h2, h3, hv⟩

theorem MapAt.look {t kt et : TypeId} {z : Value} (h : MapAt w b enc f n) (ht : P.underlying t = some (.map kt et)) (hk : P.underlying kt = some .string) (hz : (zeroValue et).run P w = .ok z w) (k : ByteArray) :
    (Instr.lookup t (.map (some b)) (.string k) true).run P w = .ok (.tuple #[((f k).map enc).getD z, .bool (f k).isSome]) w := by
  obtain ⟨es, clock, hb, R, rfl⟩ := h
  have hkey : IsKey .string (.string k) := trivial
  rcases R.find k with ⟨hf, h1⟩ | ⟨a, j, e, hf, h1, _⟩
  · simp [Instr.lookup, run_underlying ht, MapKept.run_getObj_map hb, run_checkKey hk hkey, run_findKey hk h1, hz, Result.andThen, hf]
  · simp [Instr.lookup, run_underlying ht, MapKept.run_getObj_map hb, run_checkKey hk hkey, run_findKey hk h1, Result.andThen, hf]

theorem MapAt.look1 {t kt et : TypeId} {z : Value} (h : MapAt w b enc f n) (ht : P.underlying t = some (.map kt et)) (hk : P.underlying kt = some .string) (hz : (zeroValue et).run P w = .ok z w) (k : ByteArray) :
    (Instr.lookup t (.map (some b)) (.string k) false).run P w = .ok (((f k).map enc).getD z) w := by
  obtain ⟨es, clock, hb, R, rfl⟩ := h
  have hkey : IsKey .string (.string k) := trivial
  rcases R.find k with ⟨hf, h1⟩ | ⟨a, j, e, hf, h1, _⟩
  · simp [Instr.lookup, run_underlying ht, MapKept.run_getObj_map hb, run_checkKey hk hkey, run_findKey hk h1, hz, Result.andThen, hf]
  · simp [Instr.lookup, run_underlying ht, MapKept.run_getObj_map hb, run_checkKey hk hkey, run_findKey hk h1, Result.andThen, hf]

theorem look_nil {t kt et : TypeId} {z : Value} (ht : P.underlying t = some (.map kt et)) (hk : P.underlying kt = some .string) (hz : (zeroValue et).run P w = .ok z w) (k : ByteArray) :
    (Instr.lookup t (.map .none) (.string k) true).run P w = .ok (.tuple #[z, .bool false]) w := by
  have hkey : IsKey .string (.string k) := trivial
  simp [Instr.lookup, run_underlying ht, run_checkKey hk hkey, run_findKey (l := []) (a := .none) hk rfl, hz, Result.andThen]

theorem MapAt.len {t kt et ty : TypeId} (h : MapAt w b enc f n) (ht : P.underlying t = some (.map kt et)) :
    (Builtin.len_ #[t] ty #[.map (some b)]).run P w = .ok (.int .i64 n) w := by
  obtain ⟨es, clock, hb, R, rfl⟩ := h
  simp [Builtin.len_, run_underlying ht, MapKept.run_getObj_map hb, goInt]

theorem heap_setBlock (hb : b < w.heap.size) (o : Obj) : (setBlock w b o).heap[b]? = some o := by
  simp [setBlock, hb]

theorem Rep.store (R : Rep enc es clock f) (hb : w.heap[b]? = some (.map es clock)) {t kt et : TypeId} (ht : P.underlying t = some (.map kt et)) (hk : P.underlying kt = some .string) (k : ByteArray) (a : α) :
    ∃ es' clock', (Instr.mapUpdate t (.map (some b)) (.string k) (enc a)).run P w = .ok () (setBlock w b (.map es' clock')) ∧ Rep enc es' clock' (upd f k (some a)) ∧ es'.size = if (f k).isSome then es.size else es.size + 1 := by
  have hkey : IsKey .string (.string k) := trivial
  rcases R.find k with ⟨hf, h1⟩ | ⟨a0, j, e0, hf, h1, h2, h3, h4⟩
  · refine ⟨es.push ⟨.string k, enc a, clock⟩, clock + 1, ?_, ⟨stamped_push R.st (R.none hf), ?_, ?_⟩, by simp [hf]⟩
    · simp [Instr.mapUpdate, run_underlying ht, MapKept.run_getObj_map hb, run_checkKey hk hkey, run_findKey hk h1, MapKept.run_setObj_map _ hb, Result.andThen, setBlock]
    · intro x hx
      simp only [Array.toList_push, List.mem_append, List.mem_singleton] at hx
      rcases hx with hx | rfl
      · obtain ⟨k', a', hk', hv, hf'⟩ := R.of x hx
        exact ⟨k', a', hk', hv, by rw [upd_other _ _ (fun e => R.none hf x hx (by rw [hk', e]))]; exact hf'⟩
      · exact ⟨k, a, rfl, rfl, upd_same _ _ _⟩
    · intro x v hx
      by_cases hxk : x = k
      · subst hxk
        exact ⟨⟨.string x, enc a, clock⟩, by simp, rfl⟩
      · rw [upd_other _ _ hxk] at hx
        obtain ⟨e, he, hke⟩ := R.to x v hx
        exact ⟨e, by simp [he], hke⟩
  · have hj : es[j]? = some e0 := by simpa using h2
    have hkeyf : ∀ e', es[j]? = some e' → ({ e' with key := .string k, val := enc a } : MapEntry).key = e'.key := fun e' he' => by rw [hj] at he'; cases he'; exact h3.symm
    refine ⟨es.modify j (fun e' => { e' with key := .string k, val := enc a }), clock, ?_, ⟨stamped_modify R.st _ _ (fun _ _ => rfl) (fun e' _ he' => hkeyf e' he'), ?_, ?_⟩, by simp [hf]⟩
    · simp [Instr.mapUpdate, run_underlying ht, MapKept.run_getObj_map hb, run_checkKey hk hkey, run_findKey hk h1, hj, h3, run_keyThatStays hkey, MapKept.run_setObj_map _ hb, Result.andThen, setBlock]
    · intro x hx
      rw [Array.mem_toList_iff, Array.mem_iff_getElem?] at hx
      obtain ⟨i, hi⟩ := hx
      rw [Array.getElem?_modify] at hi
      split at hi
      · rename_i hij
        subst hij
        rw [hj] at hi
        simp only [Option.map_eq_some_iff, Option.some.injEq, exists_eq_left'] at hi
        subst hi
        exact ⟨k, a, rfl, rfl, upd_same _ _ _⟩
      · rename_i hij
        have hx : x ∈ es.toList := by rw [Array.mem_toList_iff, Array.mem_iff_getElem?]; exact ⟨i, hi⟩
        obtain ⟨k', a', hk', hv, hf'⟩ := R.of x hx
        refine ⟨k', a', hk', hv, ?_⟩
        rw [upd_other _ _ ?_]
        · exact hf'
        · intro e
          subst e
          have hnd := R.st.2.2
          have hi' : es.toList[i]? = some x := by simpa using hi
          have e1 : (es.toList.map (·.key))[i]? = some (.string k') := by simp [hi', hk']
          have e2 : (es.toList.map (·.key))[j]? = some (.string k') := by simp [h2, h3]
          have hil : i < (es.toList.map (·.key)).length := (List.getElem?_eq_some_iff.1 e1).1
          exact hij ((List.getElem?_inj hil hnd).1 (e1.trans e2.symm)).symm
    · intro x v hx
      by_cases hxk : x = k
      · subst hxk
        refine ⟨{ e0 with key := .string x, val := enc a }, ?_, rfl⟩
        rw [Array.mem_toList_iff, Array.mem_iff_getElem?]
        exact ⟨j, by simp [Array.getElem?_modify, hj]⟩
      · rw [upd_other _ _ hxk] at hx
        obtain ⟨e, he, hke⟩ := R.to x v hx
        rw [Array.mem_toList_iff, Array.mem_iff_getElem?] at he
        obtain ⟨i, hi⟩ := he
        refine ⟨e, ?_, hke⟩
        rw [Array.mem_toList_iff, Array.mem_iff_getElem?]
        refine ⟨i, ?_⟩
        rw [Array.getElem?_modify, if_neg ?_]
        · exact hi
        · intro hji
          subst hji
          rw [hj] at hi
          cases hi
          rw [h3] at hke
          cases hke
          exact hxk rfl

theorem Rep.drop (R : Rep enc es clock f) (hb : w.heap[b]? = some (.map es clock)) {t kt et ty : TypeId} (ht : P.underlying t = some (.map kt et)) (hk : P.underlying kt = some .string) (k : ByteArray) :
    ∃ es', (Builtin.delete_ #[t, kt] ty #[.map (some b), .string k]).run P w = .ok (.tuple #[]) (setBlock w b (.map es' clock)) ∧ Rep enc es' clock (upd f k .none) ∧ es'.size = if (f k).isSome then es.size - 1 else es.size := by
  have hkey : IsKey .string (.string k) := trivial
  rcases R.find k with ⟨hf, h1⟩ | ⟨a0, j, e0, hf, h1, h2, h3, h4⟩
  · refine ⟨es, ?_, ⟨R.st, ?_, ?_⟩, by simp [hf]⟩
    · simp [Builtin.delete_, run_underlying ht, MapKept.run_getObj_map hb, run_checkKey hk hkey, run_findKey hk h1, MapKept.run_setObj_map _ hb, Result.andThen, setBlock]
    · intro x hx
      obtain ⟨k', a', hk', hv, hf'⟩ := R.of x hx
      exact ⟨k', a', hk', hv, by rw [upd_other _ _ (fun e => R.none hf x hx (by rw [hk', e]))]; exact hf'⟩
    · intro x v hx
      by_cases hxk : x = k
      · subst hxk
        rw [upd_same] at hx
        cases hx
      · rw [upd_other _ _ hxk] at hx
        exact R.to x v hx
  · have hjl : j < es.toList.length := (List.getElem?_eq_some_iff.1 h2).1
    have hjs : j < es.size := by simpa using hjl
    have hsub : (es.eraseIdxIfInBounds j).toList = es.toList.eraseIdx j := by
      unfold Array.eraseIdxIfInBounds
      rw [dif_pos hjs]
      simp
    have hnd := R.st.2.2
    refine ⟨es.eraseIdxIfInBounds j, ?_, ⟨stamped_erase R.st j, ?_, ?_⟩, ?_⟩
    · simp [Builtin.delete_, run_underlying ht, MapKept.run_getObj_map hb, run_checkKey hk hkey, run_findKey hk h1, MapKept.run_setObj_map _ hb, Result.andThen, setBlock]
    · intro x hx
      rw [hsub, List.mem_eraseIdx_iff_getElem?] at hx
      obtain ⟨i, hij, hi⟩ := hx
      have hx : x ∈ es.toList := List.mem_of_getElem? hi
      obtain ⟨k', a', hk', hv, hf'⟩ := R.of x hx
      refine ⟨k', a', hk', hv, ?_⟩
      rw [upd_other _ _ ?_]
      · exact hf'
      · intro e
        subst e
        have e1 : (es.toList.map (·.key))[i]? = some (.string k') := by simp [hi, hk']
        have e2 : (es.toList.map (·.key))[j]? = some (.string k') := by simp [h2, h3]
        have hil : i < (es.toList.map (·.key)).length := (List.getElem?_eq_some_iff.1 e1).1
        exact hij ((List.getElem?_inj hil hnd).1 (e1.trans e2.symm))
    · intro x v hx
      by_cases hxk : x = k
      · subst hxk
        rw [upd_same] at hx
        cases hx
      · rw [upd_other _ _ hxk] at hx
        obtain ⟨e, he, hke⟩ := R.to x v hx
        refine ⟨e, ?_, hke⟩
        rw [hsub, List.mem_eraseIdx_iff_getElem?]
        obtain ⟨i, hi⟩ := List.mem_iff_getElem?.1 he
        refine ⟨i, ?_, hi⟩
        intro hji
        subst hji
        rw [h2] at hi
        cases hi
        rw [h3] at hke
        cases hke
        exact hxk rfl
    · rw [← Array.length_toList, hsub, List.length_eraseIdx, if_pos hjl, hf]
      simp

/-- The entry at a key that is there: found by its stamp; the world stands. -/
theorem Rep.entry (R : Rep enc es clock f) {t kt et : TypeId} (ht : P.underlying t = some (.map kt et)) (hk : P.underlying kt = some .string) (k : ByteArray) (a : α) (hf : f k = some a) :
    ∃ st : Nat, (∀ w : World, w.heap[b]? = some (.map es clock) → (Instr.mapEntry t (.map (some b)) (.string k)).run P w = .ok (.tuple #[enc a, .int .i64 st]) w) ∧
      ∀ a' : α, ∃ es', Rep enc es' clock (upd f k (some a')) ∧ es'.size = es.size ∧
        ∀ w : World, w.heap[b]? = some (.map es clock) → (Instr.entryStore t (.map (some b)) (.int .i64 st) (enc a')).run P w = .ok () (setBlock w b (.map es' clock)) := by
  have hkey : IsKey .string (.string k) := trivial
  rcases R.find k with ⟨hf', h1⟩ | ⟨a0, j, e0, hf', h1, h2, h3, h4⟩
  · rw [hf] at hf'; cases hf'
  rw [hf] at hf'
  cases hf'
  have hj : es[j]? = some e0 := by simpa using h2
  have hmod : es.modify j (fun e' => { e' with key := .string k }) = es := by
    apply Array.ext_getElem?
    intro i
    rw [Array.getElem?_modify]
    split
    · rename_i hij
      subst hij
      rw [hj]
      simp [← h3]
    · rfl
  refine ⟨e0.born, ?_, ?_⟩
  · intro w hb
    have hsame : w.heap.setIfInBounds b (.map es clock) = w.heap := by
      apply Array.ext_getElem?
      intro i
      rw [Array.getElem?_setIfInBounds]
      split
      · rename_i hij
        subst hij
        split
        · exact hb.symm
        · rename_i hlt
          exact absurd (Array.getElem?_eq_some_iff.1 hb).1 hlt
      · rfl
    simp [Instr.mapEntry, run_underlying ht, MapKept.run_getObj_map hb, run_checkKey hk hkey, run_findKey hk h1, hj, h3, run_keyThatStays hkey, MapKept.run_setObj_map _ hb, Result.andThen, hmod, hsame, goInt]
  · intro a'
    have hfind : es.findIdx? (fun e => ((e.born : Int) == (e0.born : Int))) = some j := by
      rw [Array.findIdx?_eq_some_iff_getElem]
      have hjs : j < es.size := (Array.getElem?_eq_some_iff.1 hj).1
      have hje : es[j] = e0 := (Array.getElem?_eq_some_iff.1 hj).2
      refine ⟨hjs, by simp [hje], ?_⟩
      intro i hij hcon
      have hi : es.toList[i]? = some es[i] := by simp
      have hb2 := R.st.2.1
      have e1 : (es.toList.map (·.born))[i]? = some e0.born := by
        rw [List.getElem?_map, hi]
        simp only [beq_iff_eq] at hcon
        simp; omega
      have e2 : (es.toList.map (·.born))[j]? = some e0.born := by rw [List.getElem?_map, h2]; rfl
      have hil : i < (es.toList.map (·.born)).length := (List.getElem?_eq_some_iff.1 e1).1
      have := (List.getElem?_inj hil hb2).1 (e1.trans e2.symm)
      omega
    refine ⟨es.modify j (fun e' => { e' with val := enc a' }), ⟨stamped_modify R.st _ _ (fun _ _ => rfl) (fun _ _ _ => rfl), ?_, ?_⟩, by simp, ?_⟩
    · intro x hx
      rw [Array.mem_toList_iff, Array.mem_iff_getElem?] at hx
      obtain ⟨i, hi⟩ := hx
      rw [Array.getElem?_modify] at hi
      split at hi
      · rename_i hij
        subst hij
        rw [hj] at hi
        simp only [Option.map_eq_some_iff, Option.some.injEq, exists_eq_left'] at hi
        subst hi
        exact ⟨k, a', h3, rfl, upd_same _ _ _⟩
      · rename_i hij
        have hx : x ∈ es.toList := by rw [Array.mem_toList_iff, Array.mem_iff_getElem?]; exact ⟨i, hi⟩
        obtain ⟨k', a1, hk', hv, hf1⟩ := R.of x hx
        refine ⟨k', a1, hk', hv, ?_⟩
        rw [upd_other _ _ ?_]
        · exact hf1
        · intro e
          subst e
          have hi' : es.toList[i]? = some x := by simpa using hi
          have e1 : (es.toList.map (·.key))[i]? = some (.string k') := by simp [hi', hk']
          have e2 : (es.toList.map (·.key))[j]? = some (.string k') := by simp [h2, h3]
          have hil : i < (es.toList.map (·.key)).length := (List.getElem?_eq_some_iff.1 e1).1
          exact hij ((List.getElem?_inj hil R.st.2.2).1 (e1.trans e2.symm)).symm
    · intro x v hx
      have hold : ∃ v', f x = some v' := by
        by_cases hxk : x = k
        · subst hxk; exact ⟨_, hf⟩
        · rw [upd_other _ _ hxk] at hx; exact ⟨v, hx⟩
      obtain ⟨v', hv'⟩ := hold
      obtain ⟨e, he, hke⟩ := R.to x v' hv'
      rw [Array.mem_toList_iff, Array.mem_iff_getElem?] at he
      obtain ⟨i, hi⟩ := he
      by_cases hij : j = i
      · subst hij
        rw [hj] at hi
        cases hi
        refine ⟨{ e0 with val := enc a' }, ?_, hke⟩
        rw [Array.mem_toList_iff, Array.mem_iff_getElem?]
        exact ⟨j, by simp [Array.getElem?_modify, hj]⟩
      · refine ⟨e, ?_, hke⟩
        rw [Array.mem_toList_iff, Array.mem_iff_getElem?]
        exact ⟨i, by rw [Array.getElem?_modify, if_neg hij]; exact hi⟩
    · intro w hb
      simp [Instr.entryStore, MapKept.run_getObj_map hb, hfind, MapKept.run_setObj_map _ hb, Result.andThen, setBlock, asInt, asIntOf]
end
end Go.Proofs.Qxb6616074a
