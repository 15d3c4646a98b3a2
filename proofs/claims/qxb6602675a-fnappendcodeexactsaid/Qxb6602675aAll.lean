/- The law at every input. -/
import Derived.Test.Qxb6602675aGood
import Derived.Test.Qxb6602675aGoodHigh
import Derived.Test.Qxb6602675aGoodNone
namespace Go.Proofs.Qxb6602675a
open Go.RowKit

theorem law_walk (w : World) (C : Array Value) (a : Option Addr) (zs : List Int) (c : Nat) (m : Option Nat) (r : Int) (L : Nat) (gm : Int) (h : Inp w C a zs m r L gm) :
    Calls Try.prog 5 #[.agg C, .map m, .slice a zs.length c, .int .i32 r] w fun e w' => e = .returned (.bool true) ∧ Below w.heap.size w w' := by
  by_cases hg : (zs.length : Int) ≤ 1048576 ∧ (L : Int) ≤ 131072 ∧ (zs.length : Int) + 8 * L ≤ 1048576 ∧ 128 ≤ r ∧ r ≤ 1114111
  · obtain ⟨h1, h2, h3, h4, h5⟩ := hg
    by_cases hr : r < 65536
    · obtain ⟨g, hc, hg0, hg1⟩ := h.code r.toNat (by omega)
      by_cases hz : g = 0
      · subst hz
        exact good_none w C a zs c m r L gm ⟨h4, hr⟩ hc _ rfl h ⟨h1, h2, h3⟩
      · exact good_low w C a zs c m r L gm g ⟨h4, hr⟩ hc ⟨by omega, hg1⟩ _ rfl h ⟨h1, h2, h3⟩
    · have hgm := h.gm0
      by_cases hz : gm = 0
      · exact good_four w C a zs c m r L gm ⟨by omega, h5⟩ trivial hz _ rfl h ⟨h1, h2, h3⟩
      · exact good_high w C a zs c m r L gm ⟨by omega, h5⟩ trivial ⟨by omega, hgm.2⟩ _ rfl h ⟨h1, h2, h3⟩
  · exact law_bad w C a zs c m r L gm _ rfl h hg
end Go.Proofs.Qxb6602675a
