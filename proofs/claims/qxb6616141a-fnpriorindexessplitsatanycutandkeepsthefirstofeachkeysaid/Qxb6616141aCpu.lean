/-
  OWN TEXT. CompactFunc: the walk.
-/
import Derived.Test.Qxb6616141aCpt
namespace Go.Proofs.Qxb6616141a
open Go.RowKit
set_option maxRecDepth 100000 in
set_option maxHeartbeats 8000000 in
theorem compact_calls (g n : Nat) (ys : Nat → E) (w : World) (h : PR w g n ys) (hg : g < w.heap.size) (hn : n ≤ 100000) :
    Calls Try.prog 42 #[.slice (some ⟨g, 0, none⟩) n n, eqV] w (CptP w g n ys) := by
  have hn1 : (n : Int) ≤ 100000 := by omega
  have hn0 : (0 : Int) ≤ (n : Int) := by omega
  by_cases h2 : n < 2
  · have h2' : (n : Int) < 2 := by omega
    go_enter Try.func42, Try.ntmps42
    go_wp2
    go_ret
    refine ⟨n, ys, rfl, ⟨h, hg, Chg.refl _ _⟩, Nat.le_refl _, ?_⟩
    clear hn1 hn0 hn h
    rcases (show n = 0 ∨ n = 1 by omega) with q | q
    · subst q; rfl
    · subst q; rfl
  · have h2' : ¬ (n : Int) < 2 := by omega
    go_enter Try.func42, Try.ntmps42
    go_wp2
    go_loopw [5, 6, 7] (fun kv _ _ wr => RelD1 w g n ys kv wr) (fun kv _ _ _ => n - (intOf kv).toNat)
    case atStart => exact ⟨1, rfl, by omega, by omega, ⟨h, hg, Chg.refl _ _⟩, rfl⟩
    case round =>
      obtain ⟨k, rfl, hk1, hkn, hK, hD⟩ := hrel
      by_cases hlt : k < n
      · have hlt' : (k : Int) < (n : Int) := by omega
        obtain ⟨pc, hpc⟩ : ∃ q, q = k - 1 := ⟨_, rfl⟩
        have hk0 : (0 : Int) ≤ (k : Int) := by omega
        have hp0 : (0 : Int) ≤ (pc : Int) := by omega
        have hpn : (pc : Int) < (n : Int) := by omega
        have wpc : IntKind.i64.wrap ((k : Int) - 1) = (pc : Int) := by rw [IntKind.wrap_i64]; omega
        have fa := foldE (ys k)
        have fb := foldE (ys pc)
        have hKd := hK.drew
        have Hp := Lib.hid hpc
        have hpn2 : pc < n := by omega
        clear hpc
        go_wp2_with fail
        go_region_held3 (fun W => (∀ q, q < 15 → W.cell? ⟨g, k * 15 + q, none⟩ = some (cE (ys k) q)) ∧ W.cell? ⟨g, k * 15, none⟩ = some (cE (ys k) 0) ∧ (∀ q, q < 15 → W.cell? ⟨g, pc * 15 + q, none⟩ = some (cE (ys pc) q)) ∧ W.cell? ⟨g, pc * 15, none⟩ = some (cE (ys pc) 0) ∧ CK w g n ys W) ((refine CK.keep ?_ (by omega) (by omega); assumption))
          (first | (go_at_call 43; refine (eq_ck (by assumption) _ _).mono ?_; rintro e w' ⟨rfl, hS'⟩))
        rename_i hHeld
        obtain ⟨_, _, _, _, hKw⟩ := hHeld
        clear hS' hK hKd fa fb wpc
        have hpe := Hp.out
        by_cases hc : (ys k).1 = (ys pc).1
        · have hbn : ((ys k).1 == (ys pc).1) = true := by simpa using hc
          rw [hbn]
          clear hbn
          have hd2 : ddF ys (k + 1) = seg ys 0 k := by rw [ddF_old (by omega) (by rw [hc, hpe]), hD]
          have hst : RelD2 w g n ys k (.int .i64 k) (.int .i64 1) w' := ⟨k, 1, ys, rfl, rfl, by omega, by omega, by omega, by omega, hKw, fun _ _ => rfl, hd2.symm⟩
          obtain ⟨o, ho, hsl⟩ := tail56' g n k (by omega) hlt
          clear hKw
          go_wp2
          clear hsl
          go_loopw [5, 7] (fun qv jv wr => RelD2 w g n ys k qv jv wr) (fun _ jv _ => n - (intOf jv).toNat)
          case atStart => exact hst
          case round =>
            clear hst
            obtain ⟨q, j, zs, rfl, rfl, hj1, hjn, hqj, hq0, hK, hZ, hSg⟩ := hrel
            have q0 : (0 : Int) ≤ (q : Int) := by omega
            have q1 : (q : Int) < (n : Int) := by omega
            have j0 : (0 : Int) ≤ (j : Int) := by omega
            by_cases hjl : j < n - k
            · have hjl' : (j : Int) < ((n - k : Nat) : Int) := by omega
              obtain ⟨jc, hjc⟩ : ∃ q, q = j - 1 := ⟨_, rfl⟩
              have hjc0 : (0 : Int) ≤ (jc : Int) := by omega
              have hjcn : (jc : Int) < ((n - k : Nat) : Int) := by omega
              have wjc : IntKind.i64.wrap ((j : Int) - 1) = (jc : Int) := by rw [IntKind.wrap_i64]; omega
              have fa := foldE (zs (k + j))
              have fb := foldE (zs (k + jc))
              have HZ := Lib.hid hZ
              have HS := Lib.hid hSg
              clear hZ hSg hd2 hD hc hpe
              have hKd := hK.drew
              have Hj := Lib.hid hjc
              have hj2 : k + j < n := by omega
              have hj3 : k + jc < n := by omega
              clear hjc
              go_wp2_with fail
              go_region_held3 (fun W => (∀ q, q < 15 → W.cell? ⟨g, o + j * 15 + q, none⟩ = some (cE (zs (k + j)) q)) ∧ W.cell? ⟨g, o + j * 15, none⟩ = some (cE (zs (k + j)) 0) ∧ (∀ q, q < 15 → W.cell? ⟨g, o + jc * 15 + q, none⟩ = some (cE (zs (k + jc)) q)) ∧ W.cell? ⟨g, o + jc * 15, none⟩ = some (cE (zs (k + jc)) 0) ∧ CK w g n zs W) ((refine CK.keep2 ?_ ho (by omega) (by omega); assumption))
                (first | (go_at_call 43; refine (eq_ck (by assumption) _ _).mono ?_; rintro e w' ⟨rfl, hS'⟩))
              rename_i hHeld
              obtain ⟨_, _, _, _, hKw⟩ := hHeld
              clear hS' hK hKd fa fb wjc
              have hje := Hj.out
              have hZ := HZ.out
              have hSg := HS.out
              have e1 : zs (k + j) = ys (k + j) := hZ _ (by omega)
              have e2 : zs (k + jc) = ys (k + j - 1) := by rw [hZ _ (by omega)]; congr 1; omega
              by_cases hc2 : (zs (k + j)).1 = (zs (k + jc)).1
              · have hbn : (!((zs (k + j)).1 == (zs (k + jc)).1)) = false := by simpa using hc2
                rw [hbn]
                clear hbn
                have hd3 : ddF ys (k + (j + 1)) = ddF ys (k + j) := ddF_old (p := k + j) (by omega) (by rw [← e1, ← e2]; exact hc2)
                have hrel2 : RelD2 w g n ys k (.int .i64 q) (.int .i64 ((j : Int) + 1)) w' := ⟨q, j + 1, zs, rfl, by go_num, by omega, by omega, by omega, hq0, hKw, fun t ht => hZ t (by omega), by rw [hd3]; exact hSg⟩
                clear hd3 hZ hSg e1 e2 hc2 hKw HZ HS
                go_wp2
                go_roundw
                case rel => exact hrel2
                case measure => first | (simp [intOf]; done) | (simp [intOf]; omega)
              · have hbn : (!((zs (k + j)).1 == (zs (k + jc)).1)) = true := by simpa using hc2
                rw [hbn]
                clear hbn
                have hd3 : ddF ys (k + (j + 1)) = ddF ys (k + j) ++ [ys (k + j)] := ddF_new (p := k + j) (by rw [← e1, ← e2]; exact hc2)
                have hqn : q < n := by omega
                have hs1 := hKw.pr.storeC hqn (zs (k + j))
                have hK2 : CK w g n (upE zs q (zs (k + j))) (w'.setCells g (q * 15) (encE (zs (k + j)))) := ⟨hKw.pr.set hqn _, Nat.lt_of_lt_of_le hKw.lt (chg_setCells _ _ _ _).size, hKw.chg.tr (chg_setCells _ _ _ _)⟩
                have hsg2 : seg (upE zs q (zs (k + j))) 0 (q + 1) = ddF ys (k + (j + 1)) := by
                  rw [seg_snoc, hd3, ← hSg, ← e1]
                  congr 1
                  · exact seg_congr rfl (fun t ht => by unfold upE; rw [if_neg (by omega)])
                  · unfold upE; rw [if_pos rfl]
                have hZ2 : ∀ t, k + (j + 1) - 1 ≤ t → upE zs q (zs (k + j)) t = ys t := fun t ht => by
                  unfold upE; rw [if_neg (by omega)]; exact hZ t (by omega)
                obtain ⟨c1, c2, _, _, _⟩ := CK.keep2 hKw ho hj2 hj3
                have fa := foldE (zs (k + j))
                have la := encE_length (zs (k + j))
                have hrel2 : RelD2 w g n ys k (.int .i64 ((q : Int) + 1)) (.int .i64 ((j : Int) + 1)) (w'.setCells g (q * 15) (encE (zs (k + j)))) := ⟨q + 1, j + 1, _, by go_num, by go_num, by omega, by omega, by omega, by omega, hK2, hZ2, hsg2⟩
                clear hKw hSg hK2 hZ2 hsg2 hZ e1 e2 hd3 HZ HS hc2
                go_wp2
                go_roundw
                case rel => exact hrel2
                case measure => first | (simp [intOf]; done) | (simp [intOf]; omega)
            · have hjl' : ¬ (j : Int) < ((n - k : Nat) : Int) := by omega
              have hsl := tail56 g n q (by omega) (by omega)
              obtain ⟨W', hcl, hKf⟩ := clear_run hK (show q < n by omega)
              rw [show k + j = n by omega] at hSg
              clear hZ hK
              go_wp2_with (simp only [hcl])
              go_ret
              exact ⟨q, zs, rfl, hKf, by omega, hSg⟩
        · have hbn : ((ys k).1 == (ys pc).1) = false := by simpa using hc
          rw [hbn]
          clear hbn
          have hd2 : ddF ys (k + 1) = seg ys 0 (k + 1) := by rw [ddF_new (by rw [← hpe]; exact hc), hD, seg_snoc]
          go_wp2
          go_roundw
          case rel => exact ⟨k + 1, by go_num, by omega, by omega, hKw, hd2⟩
          case measure => first | (simp [intOf]; done) | (simp [intOf]; omega)
      · have hlt' : ¬ (k : Int) < (n : Int) := by omega
        (obtain rfl : k = n := by omega)
        go_wp2
        go_ret
        exact ⟨k, ys, rfl, hK, Nat.le_refl _, hD.symm⟩
end Go.Proofs.Qxb6616141a
