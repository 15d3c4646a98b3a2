/- A slice of bytes that came in, as the walks read it. -/
import Derived.Test.Qxb6602611aBase
import Derived.WalkKit
import Derived.ProofKit
import Derived.OpenShut
namespace Go.Proofs.Qxb6602611a
open Go.RowKit

/-- A slice of integers that came in: is nil; or it leads to a row of 'cap' cells, the numbers 'zs' (the first 'len' are its elements, the rest its spare room), each fitting its kind. -/
def IsRow (k : IntKind) (w : World) (a : Option Addr) (len cap : Nat) (zs : List Int) : Prop :=
  (a = none ∧ len = 0 ∧ cap = 0 ∧ zs = []) ∨
  ∃ x, a = some x ∧ len ≤ cap ∧ cap ≤ maxLen ∧ zs.length = cap ∧ (∀ i, i < zs.length → w.cell? (x.add i) = some (.int k (zs.getD i 0))) ∧ ∀ n ∈ zs, (Lit.int k n).wf = true

theorem IsRow.opened {w : World} {a : Option Addr} {len cap : Nat} {zs : List Int} (h : IsRow .u8 w a len cap zs) :
    ∃ ys : List Int, ys.length = len ∧ InU .u8 w a ys ∧ (∀ z ∈ ys, 0 ≤ z ∧ z < 256) ∧ ys.length ≤ maxLen := by
  rcases h with ⟨rfl, rfl, rfl, rfl⟩ | ⟨x, rfl, hl, hm, hz, hc, hw⟩
  · exact ⟨[], rfl, .inl rfl, by simp, Nat.zero_le _⟩
  · have hlen : (zs.take len).length = len := by rw [List.length_take]; omega
    refine ⟨zs.take len, hlen, ?_, fun z h => ?_, by omega⟩
    · rcases Nat.eq_zero_or_pos len with h0 | h0
      · exact .inl (List.eq_nil_of_length_eq_zero (by omega))
      · have h1 := hc 0 (by omega)
        obtain ⟨b, o, s⟩ := x
        obtain rfl : s = none := by
          cases s with
          | none => rfl
          | some y =>
            unfold World.cell? Addr.add at h1
            simp at h1
            split at h1 <;> simp at h1
        refine .inr ⟨b, o, rfl, fun i hi => ?_⟩
        have h2 := hc i (by omega)
        rw [Addr.add_lit] at h2
        rw [h2, List.getElem_take]
        have : i < zs.length := by omega
        simp [List.getD, this]
    · have := bounds_u8 (hw z (List.mem_of_mem_take h))
      omega
end Go.Proofs.Qxb6602611a
