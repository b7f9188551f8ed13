/-
  OWN TEXT. symMergeCmpFunc: the whole.
-/
import Derived.Test.Qxb6616141aSymE
namespace Go.Proofs.Qxb6616141a
open Go.RowKit
theorem sym_all (g n cap : Nat) (hn : n ≤ 1000000) : ∀ d, SymIH g n cap d
  | 0 => fun a m b ai mi bi zs W _ _ _ hd _ _ _ _ _ _ _ => by omega
  | d + 1 => fun a m b ai mi bi zs W ha hm hb hd ham hmb hbn hP hg hS1 hS2 => by
    subst ha hm hb
    have ih := sym_all g n cap hn d
    by_cases c1 : m = a + 1
    · exact sym_a g n cap zs W hP hg hn a m b c1 (by omega) hbn (by rw [← c1]; exact hS2)
    · by_cases c2 : b = m + 1
      · exact sym_b g n cap zs W hP hg hn a m b c2 (by omega) hbn hS1
      · have ih' : SymIH g n cap (b - a) := fun a' m' b' ai' mi' bi' zs' W' e1 e2 e3 e4 => ih a' m' b' ai' mi' bi' zs' W' e1 e2 e3 (by omega)
        by_cases c3 : m ≤ (a + b) / 2
        · exact sym_c1 g n cap zs W hP hg hn a m b _ rfl (by omega) (by omega) hbn hS1 hS2 c3 ih'
        · exact sym_c2 g n cap zs W hP hg hn a m b _ rfl (by omega) (by omega) hbn hS1 hS2 (by omega) ih'
theorem symMerge_calls (g n cap : Nat) (zs : Nat → E) (W : World) (hn : n ≤ 1000000) (a m b : Nat) (ai mi bi : Int) (ha : ai = a) (hm : mi = m) (hb : bi = b) (ham : a < m) (hmb : m < b) (hbn : b ≤ n) (hP : PR W g n zs) (hg : g < W.heap.size) (hS1 : SrtOn zs a m) (hS2 : SrtOn zs m b) :
    Calls Try.prog 48 #[.slice (some ⟨g, 0, none⟩) n cap, .int .i64 ai, .int .i64 mi, .int .i64 bi, cmpV] W (MrgP W g n zs a b) :=
  sym_all g n cap hn (b - a + 1) a m b ai mi bi zs W ha hm hb (by omega) ham hmb hbn hP hg hS1 hS2
end Go.Proofs.Qxb6616141a
