/-
  OWN TEXT. priorIndexes: the walk.
-/
import Derived.Test.Qxb6616141aPix
import Derived.Deep.DeepCutAuto
import Derived.Deep.Cut
namespace Go.Proofs.Qxb6616141a
open Go.RowKit
def PixP (w : World) (base : Nat) (rb N : Nat) (CH EN : Nat → Bool) (A : Nat → Option Addr) (EB L R : Nat → Nat) (l0 : Nat → List E) (dv : Value) (n0 : Nat) (ds : List Value) (c m : Nat) (e : Ending) (w' : World) : Prop :=
  ∃ v, e = .returned v ∧ Pix w base rb N CH EN A EB L R l0 dv n0 ds c m v w'
def RelX (w : World) (base : Nat) (rb N : Nat) (CH EN : Nat → Bool) (A : Nat → Option Addr) (EB L R : Nat → Nat) (l0 : Nat → List E) (dv : Value) (n0 : Nat) (ds : List Value) (c m : Nat) (v iv : Value) (wr : World) : Prop :=
  ∃ j : Nat, j ≤ m ∧ iv = .int .i64 j ∧ Pix w base rb N CH EN A EB L R l0 dv n0 ds c j v wr
theorem fill58 (r : Nat) (x : Option Addr) (k l : Nat) : Instr.fill (fun i => some (i * 4, 4)) ((Array.range (1 * 4)).map ((Value.agg #[.pointer none, .int .u64 0, .pointer none, .slice none 0 0]).cells[· % (Value.agg #[.pointer none, .int .u64 0, .pointer none, .slice none 0 0]).cells.size]!)) #[(0, Value.agg #[.pointer (some ⟨r, 0, none⟩), .int .u64 0, .pointer none, .slice x k l])].toList = some #[.pointer (some ⟨r, 0, none⟩), .int .u64 0, .pointer none, .slice x k l] := by
  kernel_rfl
theorem bs58 (r : Nat) (x : Option Addr) (k l : Nat) : ∀ W : World, (Instr.buildSlice 43 1 #[(0, .agg #[.pointer (some ⟨r, 0, none⟩), .int .u64 0, .pointer none, .slice x k l])]).run Try.prog W = .ok (.slice (some ⟨W.heap.size, 0, none⟩) 1 1) (W.alloc (.cells #[.pointer (some ⟨r, 0, none⟩), .int .u64 0, .pointer none, .slice x k l] 58)) := fun W => by
  obtain ⟨i0, hi, hz0, hz1, hz2⟩ := info_parts info58
  exact run_buildSlice W 43 58 1 _ _ i0 _ Try.underlying43 hi hz0 (by rw [hz1]; omega) (by rw [hz1]; omega) (by rw [hz1]; exact fill58 _ _ _ _)
theorem ownsRow_chg {w w' : World} {base : Nat} {e : TypeId} {size : Nat} {v : Value} {n : Nat} {xs : List Value} {F : Nat → Prop} (h : w.ownsRow base e size v n xs) (hc : Chg F w w') (hF : ∀ k, v.ownBlock = some k → ¬ F k) : w'.ownsRow base e size v n xs := by
  have hlt := h.lt
  refine ⟨h.1, ?_⟩
  rcases h.2 with q | ⟨g, cap, cur, h1, h2, h3, h4⟩
  · exact .inl q
  · subst h1
    exact .inr ⟨g, cap, cur, rfl, h2, (hc.block g (hlt g rfl).2 (hF g rfl)).trans h3, h4⟩
section
variable {w wr W2 W3 : World} {base rb tb N : Nat} {CH EN : Nat → Bool} {A : Nat → Option Addr} {EB L R : Nat → Nat} {l0 : Nat → List E} {dv v : Value} {n0 : Nat} {ds : List Value} {c j : Nat}
theorem Pix.app (h : Pix w base rb N CH EN A EB L R l0 dv n0 ds c j v wr) (hd : Dis w rb tb N EB dv) (hcj : c + j < N) (hc2 : Chg (fun k => k = EB (c + j)) wr W2)
    (hr : A (c + j) ≠ none → ∃ zs, PR W2 (EB (c + j)) (fstK (l0 (c + j))).length zs ∧ seg zs 0 (fstK (l0 (c + j))).length = fstK (l0 (c + j)))
    (hW3 : W3 = W2.setCell ⟨rb, (c + j) * 3 + 2, none⟩ (.slice (bO (A (c + j)) (EB (c + j))) (fstK (l0 (c + j))).length (L (c + j)))) (hb : base ≤ w.heap.size) (hn : n0 + j ≤ 100000) (cells : Array Value) (hcells : cells = (pixF R A EB L l0 (c + j)).toArray) :
    ∀ ty, ∃ v' w', (Builtin.append_ #[43, 43] ty #[v, .slice (some ⟨W3.heap.size, 0, none⟩) 1 1]).run Try.prog (W3.alloc (.cells cells 58)) = .ok v' w' ∧ Pix w base rb N CH EN A EB L R l0 dv n0 ds c (j + 1) v' w' := by
  intro ty
  have hvn := h.vne hd
  have hc3 : Chg (fun k => k = EB (c + j) ∨ k = rb) wr W3 := by
    rw [hW3]
    exact (hc2.mono fun k _ q => .inl q).tr ((chg_setCell rb _ _ W2).mono fun k _ q => .inr q)
  have o3 := (ownsRow_chg h.own hc3 (fun k hk q => by
    have := hvn k hk
    rcases q with q | q
    · exact this.2.2 (c + j) hcj q
    · exact this.1 q)).alloc (.cells cells 58)
  have hsz : base ≤ (W3.alloc (.cells cells 58)).heap.size := by
    have h1 := h.chg.size
    have h2 := hc3.size
    simp
    omega
  obtain ⟨v', w', hrun, hD⟩ := appD o3 hsz hn ⟨W3.heap.size, 0, none⟩ (pixF R A EB L l0 (c + j)) rfl (fun q u hu => by
    rw [Addr.add_lit, Nat.zero_add, cell_new rfl, hcells]
    simpa using hu) (fun u hu => by
    unfold pixF at hu
    simp only [List.mem_cons, List.not_mem_nil, or_false] at hu
    rcases hu with hu | hu | hu | hu <;> subst hu <;> rfl) ty
  refine ⟨v', w', hrun, h.step hd hcj hc2 hr (W3 := W3.alloc (.cells cells 58)) ?_ hD⟩
  rw [← hW3]
  exact below_alloc _ _
end
set_option maxRecDepth 100000 in
set_option maxHeartbeats 8000000 in
theorem pix_calls (w : World) (base rb tb o3 o5 N : Nat) (CH EN : Nat → Bool) (A : Nat → Option Addr) (EB L R : Nat → Nat) (l0 : Nat → List E) (dv : Value) (n0 : Nat) (ds : List Value) (c m rl rc tc : Nat) (ra ta : Option Addr)
    (hra : 0 < m → ra = some ⟨rb, o3, none⟩) (ho3 : o3 = c * 3) (hT : TabAt w ta tb o5 m (fun j => R (c + j))) (hd : Dis w rb tb N EB dv) (hP : Pix w base rb N CH EN A EB L R l0 dv n0 ds c 0 dv w)
    (hll : ∀ j, j < m → (l0 (c + j)).length = L (c + j)) (hm : m ≤ rl) (hcm : c + m ≤ N) (hN : N ≤ 4096) (hL : ∀ i, i < N → L i ≤ 4096) (hn0 : n0 ≤ 10000) (hb : base ≤ w.heap.size) :
    Calls Try.prog 33 #[dv, .slice ta m tc, .slice ra rl rc] w (PixP w base rb N CH EN A EB L R l0 dv n0 ds c m) := by
  have hm0 : (m : Int) ≤ 4096 := by omega
  have hmrl : (m : Int) ≤ (rl : Int) := by omega
  have Ho3 := Lib.hid ho3
  clear ho3
  go_enter Try.func33, Try.ntmps33
  go_wp2
  go_loopw [0, 7, 8, 11] (fun v _ _ iv wr => RelX w base rb N CH EN A EB L R l0 dv n0 ds c m v iv wr) (fun _ _ _ iv _ => m - (intOf iv).toNat)
  case atStart => exact ⟨0, Nat.zero_le _, rfl, hP⟩
  case round =>
    obtain ⟨j, hj, rfl, hX⟩ := hrel
    by_cases hlt : j < m
    · have hlt' : (j : Int) < (m : Int) := by omega
      have hlr : (j : Int) < (rl : Int) := by omega
      have hja := hra (by omega)
      have hta := hT.addr (by omega)
      subst hja hta
      have hcj : c + j < N := by omega
      have hti := hX.tr (c + j) hcj
      rw [lj_at] at hti
      have c2 := hti.c2
      rw [hll j hlt, show (c + j) * 3 + 2 = o3 + j * 3 + 2 by have := Ho3.out; omega] at c2
      have hLc := hL (c + j) hcj
      have htn : ¬ PixCh rb N EB dv tb := fun q => by
        rcases q with q | ⟨i, hi, q⟩ | q
        · exact hd.rt q.symm
        · exact hd.et i hi q.symm
        · exact (hd.d tb q).2.1 rfl
      have htb : ∀ (W : World), Chg (fun k => k = rb ∨ k = EB (c + j)) wr W → TabAt W (some ⟨tb, o5, none⟩) tb o5 m (fun j => R (c + j)) := fun W hc => (hT.keep hX.chg htn).keep hc (fun q => q.elim (fun q => hd.rt q.symm) (fun q => hd.et (c + j) hcj q.symm))
      cases hA : A (c + j) with
      | none =>
        rw [hA, bO_none] at c2
        obtain ⟨hl0, hL0⟩ := hti.nil hA
        rw [hL0] at c2
        have HA := Lib.hid hA
        have Hl := Lib.hid hl0
        have HL := Lib.hid hL0
        clear hA hl0 hL0
        go_wp2_with fail
        refine (sort_nil wr).mono ?_
        rintro e w1 ⟨rfl, hw1⟩
        obtain rfl := hw1.symm
        go_wp2_with fail
        refine (compact_nil wr).mono ?_
        rintro e w2 ⟨rfl, hw2⟩
        obtain rfl := hw2.symm
        have hz : (fstK (l0 (c + j))).length = 0 := by rw [Hl.out]; rfl
        have z2 : wr.frozen? ⟨rb, o3 + j * 3 + 2, none⟩ = false := by
          rw [show o3 + j * 3 + 2 = (c + j) * 3 + 2 by have := Ho3.out; omega]
          exact hti.fz
        obtain ⟨W3, hW3⟩ : ∃ W, W = wr.setCell ⟨rb, o3 + j * 3 + 2, none⟩ (.slice none 0 0) := ⟨_, rfl⟩
        have hT3 := htb W3 (by rw [hW3]; exact (chg_setCell rb _ _ wr).mono fun k _ q => .inl q)
        have hpf : pixF R A EB L l0 (c + j) = [.pointer (some ⟨R (c + j), 0, none⟩), .int .u64 0, .pointer none, .slice none 0 0] := by unfold pixF; rw [HA.out, bO_none, hz, HL.out]
        have happ := hX.app hd hcj (Chg.refl _ wr) (fun q => absurd HA.out q) (W3 := W3) (by rw [hW3, HA.out, bO_none, hz, HL.out, show o3 + j * 3 + 2 = (c + j) * 3 + 2 by have := Ho3.out; omega]) hb (by omega) #[.pointer (some ⟨R (c + j), 0, none⟩), .int .u64 0, .pointer none, .slice none 0 0] (by rw [hpf])
        have Happ := Lib.hid happ
        have HW := Lib.hid hW3
        have x0 := hT3.c0 j hlt
        have x1 := hT3.c1 j hlt
        have x2 := hT3.c2 j hlt
        have hbs := bs58 (R (c + j)) none 0 0
        clear happ hW3 hpf htb hT3 hX hti hz hw1 hw2
        go_upto_region 8 with fail
        rw [← HW.out]
        clear z2 c2
        go_wp2_with (at_builtin; refine wpList_append_of rfl _ _ 43 43 rfl _ _ rfl rfl _ Happ.out ?_)
        rintro v' w' hX2
        clear Happ hbs x0 x1 x2
        go_wp2
        go_roundw
        case rel => exact ⟨j + 1, hlt, by go_num, hX2⟩
        case measure => first | (simp [intOf]; done) | (simp [intOf]; omega)
      | some ad =>
        rw [hA, bO_some] at c2
        obtain ⟨hel, zs, hPR, hzs⟩ := hti.row (by rw [hA]; simp)
        rw [hll j hlt] at hPR hzs
        have Hzs := Lib.hid hzs
        have HA := Lib.hid hA
        clear hzs hA
        go_wp2_with fail
        refine (sort_calls (EB (c + j)) (L (c + j)) (L (c + j)) zs wr hPR hel (by omega)).mono ?_
        rintro e w1 ⟨rfl, ys, hK1, hI1, hS1⟩
        go_wp2_with fail
        refine (compact_calls (EB (c + j)) (L (c + j)) ys w1 hK1.pr hK1.lt (by omega)).mono ?_
        rintro e w2 ⟨k, us, rfl, hK2, hk2, hseg⟩
        have hfst : ddF ys (L (c + j)) = fstK (l0 (c + j)) := by rw [← Hzs.out]; exact (hI1.st.fst (fst_ddF hS1)).eq
        rw [hfst] at hseg
        have hk3 : k = (fstK (l0 (c + j))).length := by rw [← hseg, seg_length]
        subst hk3
        have hc2 := hK1.chg.tr hK2.chg
        have hr : A (c + j) ≠ none → ∃ zs, PR w2 (EB (c + j)) (fstK (l0 (c + j))).length zs ∧ seg zs 0 (fstK (l0 (c + j))).length = fstK (l0 (c + j)) := fun _ => ⟨us, hK2.pr, hseg⟩
        have s2 := hc2.cell c2 (fun q => hd.er (c + j) hcj q.symm)
        have z2 : w2.frozen? ⟨rb, o3 + j * 3 + 2, none⟩ = false := by
          rw [show o3 + j * 3 + 2 = (c + j) * 3 + 2 by have := Ho3.out; omega]
          exact (World.frozen?_of_block (w := wr) (hc2.block rb (World.block_lt_of_cell? wr _ hti.c0) (fun q => hd.er (c + j) hcj q.symm))).trans hti.fz
        obtain ⟨W3, hW3⟩ : ∃ W, W = w2.setCell ⟨rb, o3 + j * 3 + 2, none⟩ (.slice (some ⟨EB (c + j), 0, none⟩) (fstK (l0 (c + j))).length (L (c + j))) := ⟨_, rfl⟩
        have hT3 := htb W3 (by rw [hW3]; exact (hc2.mono fun k _ q => .inr q).tr ((chg_setCell rb _ _ w2).mono fun k _ q => .inl q))
        have hpf : pixF R A EB L l0 (c + j) = [.pointer (some ⟨R (c + j), 0, none⟩), .int .u64 0, .pointer none, .slice (some ⟨EB (c + j), 0, none⟩) (fstK (l0 (c + j))).length (L (c + j))] := by unfold pixF; rw [HA.out, bO_some]
        have happ := hX.app hd hcj hc2 hr (W3 := W3) (by rw [hW3, HA.out, bO_some, show o3 + j * 3 + 2 = (c + j) * 3 + 2 by have := Ho3.out; omega]) hb (by omega) #[.pointer (some ⟨R (c + j), 0, none⟩), .int .u64 0, .pointer none, .slice (some ⟨EB (c + j), 0, none⟩) (fstK (l0 (c + j))).length (L (c + j))] (by rw [hpf])
        have Happ := Lib.hid happ
        have HW := Lib.hid hW3
        have x0 := hT3.c0 j hlt
        have x1 := hT3.c1 j hlt
        have x2 := hT3.c2 j hlt
        have hbs := bs58 (R (c + j)) (some ⟨EB (c + j), 0, none⟩) (fstK (l0 (c + j))).length (L (c + j))
        clear happ hW3 hfst hseg hr hc2 hK1 hK2 hI1 hS1 hpf htb hT3 hX hti hPR
        go_upto_region 8 with fail
        rw [← HW.out]
        clear s2 z2 c2
        go_wp2_with (at_builtin; refine wpList_append_of rfl _ _ 43 43 rfl _ _ rfl rfl _ Happ.out ?_)
        rintro v' w' hX2
        clear Happ hbs x0 x1 x2
        go_wp2
        go_roundw
        case rel => exact ⟨j + 1, hlt, by go_num, hX2⟩
        case measure => first | (simp [intOf]; done) | (simp [intOf]; omega)
    · have hlt' : ¬ (j : Int) < (m : Int) := by omega
      (obtain rfl : j = m := by omega)
      go_wp2
      go_ret
      exact ⟨_, rfl, hX⟩
set_option maxRecDepth 100000 in
theorem zzpix_calls (w : World) (base rb tb o3 o5 N : Nat) (CH EN : Nat → Bool) (A : Nat → Option Addr) (EB L R : Nat → Nat) (l0 : Nat → List E) (dv : Value) (n0 : Nat) (ds : List Value) (c m rl rc tc : Nat) (ra ta : Option Addr)
    (hra : 0 < m → ra = some ⟨rb, o3, none⟩) (ho3 : o3 = c * 3) (hT : TabAt w ta tb o5 m (fun j => R (c + j))) (hd : Dis w rb tb N EB dv) (hP : Pix w base rb N CH EN A EB L R l0 dv n0 ds c 0 dv w)
    (hll : ∀ j, j < m → (l0 (c + j)).length = L (c + j)) (hm : m ≤ rl) (hcm : c + m ≤ N) (hN : N ≤ 4096) (hL : ∀ i, i < N → L i ≤ 4096) (hn0 : n0 ≤ 10000) (hb : base ≤ w.heap.size) :
    Calls Try.prog 18 #[dv, .slice ta m tc, .slice ra rl rc] w (PixP w base rb N CH EN A EB L R l0 dv n0 ds c m) := by
  have hc := pix_calls w base rb tb o3 o5 N CH EN A EB L R l0 dv n0 ds c m rl rc tc ra ta hra ho3 hT hd hP hll hm hcm hN hL hn0 hb
  have Hc := Lib.hid hc
  clear hc hP hll hL
  go_enter Try.func18, Try.ntmps18
  go_wp2_with fail
  refine Hc.out.mono ?_
  rintro e w1 ⟨v, rfl, hX⟩
  go_wp2
  go_ret
  exact ⟨v, rfl, hX⟩
end Go.Proofs.Qxb6616141a
