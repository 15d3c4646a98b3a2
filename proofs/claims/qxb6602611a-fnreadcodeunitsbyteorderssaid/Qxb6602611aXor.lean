/- 'i ^ 1', and the pairs of a payload swapped. -/
import Derived.Test.Qxb6602611aProg
import Derived.WalkKit
import Derived.Laws.BitsAllLaws
namespace Go.Proofs.Qxb6602611a
open Go.RowKit

/-- The other place of the pair. -/
def twin (k : Nat) : Nat := if k % 2 = 0 then k + 1 else k - 1

theorem xor_one (k : Nat) : k ^^^ 1 = twin k := by
  have h1 : (k ^^^ 1) / 2 = k / 2 := by
    have := Nat.xor_div_two_pow (a := k) (b := 1) (n := 1)
    simpa using this
  have h2 : (k ^^^ 1) % 2 = (k % 2) ^^^ 1 := by
    have := Nat.xor_mod_two_pow (a := k) (b := 1) (n := 1)
    simpa using this
  unfold twin
  have h3 : k % 2 = 0 ∨ k % 2 = 1 := by omega
  rcases h3 with h3 | h3
  · rw [h3] at h2
    change (k ^^^ 1) % 2 = 1 at h2
    rw [if_pos h3]
    omega
  · rw [h3] at h2
    change (k ^^^ 1) % 2 = 0 at h2
    rw [if_neg (by omega)]
    omega

theorem xor1 (k : Nat) (hk : k ≤ 1048576) : bits .xor .i64 (k : Int) 1 = (twin k : Int) := by
  have ht : twin k ≤ 1048577 := by unfold twin; split <;> omega
  show IntKind.i64.wrap ((BitVec.ofInt 64 (k : Int) ^^^ BitVec.ofInt 64 ((1 : Nat) : Int)).toNat : Int) = _
  rw [BitVec.toNat_xor, ofInt_u64 k (by omega), ofInt_u64 1 (by omega), xor_one, IntKind.wrap_i64]
  omega

/-- The place that is read for place i of the swapped payload of n bytes. -/
def swp (n i : Nat) : Nat := if twin i < n then twin i else i

/-- The payload with each pair swapped. -/
def swapped (ys : List Int) : List Int := (List.range ys.length).map fun i => ys.getD (swp ys.length i) 0

theorem swapped_length (ys : List Int) : (swapped ys).length = ys.length := by simp [swapped]
theorem swapped_getD (ys : List Int) (i : Nat) (h : i < ys.length) : (swapped ys).getD i 0 = ys.getD (swp ys.length i) 0 := by
  simp [swapped, List.getD, h]

theorem swp_even (n i : Nat) (h : 2 * i + 1 < n) : swp n (2 * i) = 2 * i + 1 ∧ swp n (2 * i + 1) = 2 * i := by
  unfold swp twin
  constructor
  · rw [if_pos (show 2 * i % 2 = 0 by omega), if_pos h]
  · rw [if_neg (show ¬ (2 * i + 1) % 2 = 0 by omega), if_pos (by omega)]
    omega
end Go.Proofs.Qxb6602611a
