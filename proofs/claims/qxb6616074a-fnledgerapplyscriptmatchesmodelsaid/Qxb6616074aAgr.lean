/-
  OWN TEXT. txnAgrees.
-/
import Derived.Test.Qxb6616074aFgt
namespace Go.Proofs.Qxb6616074a
open Go.RowKit Go.MapKept Go.ChangeMaps

/-- the ledger and the model, side by side -/
structure AG (w : World) (lb db ub ab cb : Nat) (F : List Nat) (L : Led) (f : ByteArray → Option Int) (nd : Nat) (u : ByteArray → Option Int) (nu : Nat) (Ga : List Nat) (Ra : Resn) (Na : Nat) (Gc : List Nat) (Rc : Resn) (Nc : Nat) : Prop where
  led : LedS w lb F L
  dm : MapAt w db u64V f nd
  um : MapAt w ub u64V u nu
  rab : RS w ab Ga Ra Na
  rcm : RS w cb Gc Rc Nc
theorem AG.chg {w w' : World} {lb db ub ab cb : Nat} {F : List Nat} {L : Led} {f : ByteArray → Option Int} {nd : Nat} {u : ByteArray → Option Int} {nu : Nat} {Ga : List Nat} {Ra : Resn} {Na : Nat} {Gc : List Nat} {Rc : Resn} {Nc : Nat}
    (h : AG w lb db ub ab cb F L f nd u nu Ga Ra Na Gc Rc Nc) (hc : Chg (fun _ => False) w w') : AG w' lb db ub ab cb F L f nd u nu Ga Ra Na Gc Rc Nc :=
  ⟨h.led.frame hc (fun x => x) (fun _ _ x => x), h.dm.kept hc (fun x => x), h.um.kept hc (fun x => x), h.rab.frame hc (fun x => x) (fun _ _ x => x), h.rcm.frame hc (fun x => x) (fun _ _ x => x)⟩

theorem look64 {w : World} {b n : Nat} {f : ByteArray → Option Int} (h : MapAt w b u64V f n) (t : ByteArray) : (Instr.lookup 27 (.map (some b)) (.string t) true).run Try.prog w = .ok (.tuple #[.int .u64 ((f t).getD 0), .bool (f t).isSome]) w := by
  rw [h.look (P := Try.prog) (t := 27) (kt := 9) (et := 28) Try.underlying27 Try.underlying9 (zero28 w) t]
  cases f t <;> rfl

/-- what the readers answer about t -/
structure Ans (w : World) (lb ab cb : Nat) (t : ByteArray) (o uo : Option Int) (av cv : Option (Nat × EntD)) : Prop where
  get : ∀ wq, Chg (fun _ => False) w wq → Calls Try.prog 24 #[.pointer (some ⟨lb, 0, none⟩), .string t] wq fun e w' => e = .returned (.tuple #[.int .u64 (o.getD 0), .bool o.isSome]) ∧ w' = wq
  un : ∀ wq, Chg (fun _ => False) w wq → Calls Try.prog 25 #[.pointer (some ⟨lb, 0, none⟩), .string t] wq fun e w' => e = .returned (.tuple #[.int .u64 (uo.getD 0), .bool uo.isSome]) ∧ w' = wq
  gab : ∀ wq, Chg (fun _ => False) w wq → Calls Try.prog 26 #[.pointer (some ⟨lb, 0, none⟩), .string t] wq (LkP wq (.tuple #[.int .u8 ((av.map (·.2.1)).getD 0), .int .u64 ((av.map (·.2.2.2)).getD 0), .bool av.isSome]))
  gcm : ∀ wq, Chg (fun _ => False) w wq → Calls Try.prog 27 #[.pointer (some ⟨lb, 0, none⟩), .string t] wq (LkP wq (.tuple #[.int .u8 ((cv.map (·.2.1)).getD 0), .int .u64 ((cv.map (·.2.2.2)).getD 0), .bool cv.isSome]))
  ra : ∀ wq, Chg (fun _ => False) w wq → Calls Try.prog 23 #[.pointer (some ⟨ab, 0, none⟩), .string t] wq fun e w' => e = .returned (.tuple #[.int .i64 ((av.map (·.1)).getD 0 : Nat), .bool av.isSome]) ∧ w' = wq
  rc : ∀ wq, Chg (fun _ => False) w wq → Calls Try.prog 23 #[.pointer (some ⟨cb, 0, none⟩), .string t] wq fun e w' => e = .returned (.tuple #[.int .i64 ((cv.map (·.1)).getD 0 : Nat), .bool cv.isSome]) ∧ w' = wq
  out : ∀ wq, Chg (fun _ => False) w wq → ∃ st sp, Calls Try.prog 28 #[.pointer (some ⟨lb, 0, none⟩), .string t] wq (LkP wq (.tuple #[.int .u8 st, .int .u64 sp])) ∧
    (st, sp) = (match o, uo, cv, av with
      | some s, _, _, _ => (1, s)
      | none, some s, _, _ => (2, s)
      | none, none, some x, _ => (2, x.2.2.2)
      | none, none, none, some _ => (3, 0)
      | none, none, none, none => (0, 0))

def avF (R : Resn) (N : Nat) (t : ByteArray) : Option (Nat × EntD) := (remI R N t).map fun i => (i, R i)
theorem avF_some (R : Resn) (N : Nat) (t : ByteArray) : (avF R N t).isSome = (remI R N t).isSome := by simp [avF]

theorem AG.ans {w : World} {lb db ub ab cb : Nat} {F : List Nat} {L : Led} {f : ByteArray → Option Int} {nd : Nat} {u : ByteArray → Option Int} {nu : Nat} {Ga : List Nat} {Ra : Resn} {Na : Nat} {Gc : List Nat} {Rc : Resn} {Nc : Nat}
    (h : AG w lb db ub ab cb F L f nd u nu Ga Ra Na Gc Rc Nc) (t : ByteArray) (hd : ∀ s, f t = some s ↔ (t, s) ∈ L.hs) (hu : u t = L.un t) (ha : L.ab.latest t = remF Ra Na t) (hc : L.cm.latest t = remF Rc Nc t) (hNa : Na < 2000000) (hNc : Nc < 2000000) :
    Ans w lb ab cb t (f t) (u t) (avF Ra Na t) (avF Rc Nc t) := by
  refine ⟨fun wq hq => dget_calls (h.chg hq).led t _ hd, fun wq hq => ?_, fun wq hq => ?_, fun wq hq => ?_, fun wq hq => ?_, fun wq hq => ?_, fun wq hq => ?_⟩
  · rw [hu]
    exact unGet_calls (h.chg hq).led t
  · have := abGet_calls (h.chg hq).led t
    rw [ha, remF_remI] at this
    unfold avF
    cases hr : remI Ra Na t <;> (rw [hr] at this; simp only [Option.map_some, Option.map_none, Option.getD_some, Option.getD_none, Option.isSome_some, Option.isSome_none] at this ⊢; exact this)
  · have := cmGet_calls (h.chg hq).led t
    rw [hc, remF_remI] at this
    unfold avF
    cases hr : remI Rc Nc t <;> (rw [hr] at this; simp only [Option.map_some, Option.map_none, Option.getD_some, Option.getD_none, Option.isSome_some, Option.isSome_none] at this ⊢; exact this)
  · have := remembered_calls (h.chg hq).rab hNa t
    unfold avF
    cases hr : remI Ra Na t <;> (rw [hr] at this; simp only [Option.map_some, Option.map_none, Option.getD_some, Option.getD_none, Option.isSome_some, Option.isSome_none] at this ⊢; exact this)
  · have := remembered_calls (h.chg hq).rcm hNc t
    unfold avF
    cases hr : remI Rc Nc t <;> (rw [hr] at this; simp only [Option.map_some, Option.map_none, Option.getD_some, Option.getD_none, Option.isSome_some, Option.isSome_none] at this ⊢; exact this)
  · have := zzout_calls (h.chg hq).led t _ hd
    rw [ha, hc, remF_remI, remF_remI, ← hu] at this
    refine ⟨_, _, this, ?_⟩
    unfold avF
    cases f t <;> cases u t <;> cases remI Ra Na t <;> cases remI Rc Nc t <;> simp [outF, comF]
end Go.Proofs.Qxb6616074a
