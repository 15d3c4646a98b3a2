/- The script: whatever the lengths. -/
import Derived.Test.Qxb6602566aScript
namespace Go.Proofs.Qxb6602566a
open Go.RowKit

set_option maxHeartbeats 4000000 in
set_option maxRecDepth 100000 in
theorem script_bad (w : World) (a0 a1 a2 a3 a4 a5 : Option Addr) (c0 c1 c2 c3 c4 c5 K L1 L2 L3 L4 L5 : Nat) (l0 : K ≤ maxLen) (l1 : L1 ≤ maxLen) (l2 : L2 ≤ maxLen) (l3 : L3 ≤ maxLen) (l4 : L4 ≤ maxLen) (l5 : L5 ≤ maxLen)
    (hg : ¬ (K ≤ 65536 ∧ L1 ≤ 65536 ∧ L2 = L1 ∧ L3 = L1 ∧ L4 = L1 ∧ L5 = L1 ∧ (K : Int) + 4 * L1 + 4 * L1 + 4 * L1 + 2 * L1 + 8 * L1 ≤ 1048576)) :
    Calls Try.prog 8 #[.slice a0 K c0, .slice a1 L1 c1, .slice a2 L2 c2, .slice a3 L3 c3, .slice a4 L4 c4, .slice a5 L5 c5] w fun e w' => e = .returned (.bool true) ∧ Below w.heap.size w w' := by
  have HG := hid hg
  clear hg
  unfold maxLen at *
  go_enter Try.func8, Try.ntmps8
  go_wp2_with fail
  refine (bytes29_any w _ _ _ _ _ _ _ _ _ _ _ _ _ _ _ _ _ _ (by unfold maxLen; omega) (by unfold maxLen; omega) (by unfold maxLen; omega) (by unfold maxLen; omega) (by unfold maxLen; omega) (by unfold maxLen; omega)).mono ?_
  rintro e w1 ⟨r1, rfl, rfl, -⟩
  cases r1
  · go_wp2
    go_ret
    exact ⟨rfl, Below.refl _ _⟩
  go_wp2_with fail
  all_goals first
    | (go_ret; exact ⟨rfl, Below.refl _ _⟩)
    | skip
  have h5 : (L5 : Int) = (L1 : Int) := by simpa using ‹((L5 : Int) != (L1 : Int)) = false›
  exact absurd (by refine ⟨?_, ?_, ?_, ?_, ?_, ?_, ?_⟩ <;> omega) HG.out

theorem script_walk (w : World) (a0 a1 a2 a3 a4 a5 : Option Addr) (c0 c1 c2 c3 c4 c5 : Nat) (ops : List Bool) (segs offs idxs atts dues : List Int) (hA : Scr w a0 a1 a2 a3 a4 a5 ops segs offs idxs atts dues) :
    Calls Try.prog 8 #[.slice a0 ops.length c0, .slice a1 segs.length c1, .slice a2 offs.length c2, .slice a3 idxs.length c3, .slice a4 atts.length c4, .slice a5 dues.length c5] w fun e w' => e = .returned (.bool true) ∧ Below w.heap.size w w' := by
  by_cases hg : (ops.length ≤ 65536 ∧ segs.length ≤ 65536 ∧ offs.length = segs.length ∧ idxs.length = segs.length ∧ atts.length = segs.length ∧ dues.length = segs.length ∧ (ops.length : Int) + 4 * segs.length + 4 * segs.length + 4 * segs.length + 2 * segs.length + 8 * segs.length ≤ 1048576)
  · obtain ⟨h0, h1, h2, h3, h4, h5, h6⟩ := hg
    rw [h2, h3, h4, h5]
    exact script_good w a0 a1 a2 a3 a4 a5 c0 c1 c2 c3 c4 c5 _ _ ops segs offs idxs atts dues hA rfl rfl h2 h3 h4 h5 h0 h1 h6
  · exact script_bad w a0 a1 a2 a3 a4 a5 c0 c1 c2 c3 c4 c5 _ _ _ _ _ _ hA.l0 hA.l1 hA.l2 hA.l3 hA.l4 hA.l5 hg
end Go.Proofs.Qxb6602566a
