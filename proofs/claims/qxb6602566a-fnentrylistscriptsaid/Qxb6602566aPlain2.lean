/- Plain laws on the blocks behind a popBack. -/
import Derived.Test.Qxb6602566aPopAll
namespace Go.Proofs.Qxb6602566a
open Go.RowKit

theorem popB_flatten (bs : List (List Pk)) (p : Pk) (h : LastIs bs p) : bs.flatten = (popB bs).flatten ++ [p] := by
  have hp : 0 < bs.length := List.length_pos_iff.2 h.ne
  have h1 := h.pos
  have h2 := h.last
  have hrow : bs.getD (bs.length - 1) [] = (bs.getD (bs.length - 1) []).take ((bs.getD (bs.length - 1) []).length - 1) ++ [p] := by
    obtain ⟨hlt, hpp⟩ := List.getElem?_eq_some_iff.1 h2
    rw [← hpp, ← List.take_succ_eq_append_getElem hlt, List.take_of_length_le (by omega)]
  conv => lhs; rw [← take_last bs (bs.length - 1) (by omega) []]
  unfold popB
  split
  · rename_i e
    rw [e] at hrow
    rw [hrow]
    simp
  · rw [set_last bs _ (by omega)]
    simp only [List.flatten_append, List.flatten_cons, List.flatten_nil, List.append_nil]
    conv => lhs; rw [hrow]
    simp

theorem popB_lens (bs : List (List Pk)) : (popB bs).map List.length =
    if (bs.map List.length).getD ((bs.map List.length).length - 1) 0 = 1 then (bs.map List.length).take ((bs.map List.length).length - 1) else (bs.map List.length).set ((bs.map List.length).length - 1) ((bs.map List.length).getD ((bs.map List.length).length - 1) 0 - 1) := by
  have hg : (bs.map List.length).getD ((bs.map List.length).length - 1) 0 = (bs.getD (bs.length - 1) []).length := by
    simp [List.getD, List.getElem?_map]
    cases bs[bs.length - 1]? <;> simp
  unfold popB
  rw [hg, List.length_map]
  split
  · rw [List.map_take]
  · rw [List.map_set]
    simp

theorem shape_pop (ls : List Nat) (head n : Int) (h : ShapeP ls head n) (hn : 2 ≤ n) (h1 : ls.getD (ls.length - 1) 0 = 1) : ShapeP (ls.take (ls.length - 1)) head (n - 1) := by
  rcases h with ⟨rfl, rfl, rfl⟩ | ⟨h0, hok, h2, h3, h4⟩
  · omega
  · have hp : 0 < ls.length := List.length_pos_iff.2 h0
    have hsum : ls.sum = (ls.take (ls.length - 1)).sum + 1 := by
      conv => lhs; rw [← take_last ls (ls.length - 1) (by omega) 0, List.sum_append_nat, h1]
      simp
    have hl2 : 2 ≤ ls.length := by
      rcases Nat.lt_or_ge ls.length 2 with h | h
      · have : ls.length - 1 = 0 := by omega
        rw [this] at h1 hsum
        simp at hsum
        omega
      · exact h
    have hg : ∀ j, j < ls.length - 1 → (ls.take (ls.length - 1)).getD j 0 = ls.getD j 0 := fun j hj => by
      rw [List.getD_eq_getElem?_getD, List.getD_eq_getElem?_getD, List.getElem?_take, if_pos hj]
    refine .inr ⟨?_, fun j hj => ?_, h2, ?_, by omega⟩
    · intro e
      have := congrArg List.length e
      simp at this
      omega
    · rw [List.length_take] at hj
      have hj' := hok j (by omega)
      unfold okAt at hj' ⊢
      rw [hg j (by omega), List.length_take]
      refine ⟨hj'.1, hj'.2.1, fun _ => hj'.2.2 (by omega)⟩
    · rw [hg 0 (by omega)]; exact h3

theorem shape_pop' (ls : List Nat) (head n : Int) (h : ShapeP ls head n) (hn : 2 ≤ n) (h1 : ls.getD (ls.length - 1) 0 ≠ 1) : ShapeP (ls.set (ls.length - 1) (ls.getD (ls.length - 1) 0 - 1)) head (n - 1) := by
  rcases h with ⟨rfl, rfl, rfl⟩ | ⟨h0, hok, h2, h3, h4⟩
  · omega
  · have hp : 0 < ls.length := List.length_pos_iff.2 h0
    have hlast := (hok (ls.length - 1) (by omega)).1
    have hg : ∀ j, (ls.set (ls.length - 1) (ls.getD (ls.length - 1) 0 - 1)).getD j 0 = if j = ls.length - 1 then ls.getD (ls.length - 1) 0 - 1 else ls.getD j 0 := by
      intro j
      simp only [List.getD_eq_getElem?_getD, List.getElem?_set]
      by_cases e : j = ls.length - 1
      · subst e
        have : ls.length - 1 < ls.length := by omega
        simp [this]
      · have e' : ¬ ls.length - 1 = j := fun h => e h.symm
        simp [e, e']
    have hs := sum_set_last ls (ls.length - 1) (by omega) (ls.getD (ls.length - 1) 0 - 1)
    refine .inr ⟨by simp [h0], fun j hj => ?_, h2, ?_, by omega⟩
    · rw [List.length_set] at hj
      have hj' := hok j hj
      unfold okAt at hj' ⊢
      rw [List.length_set, hg]
      by_cases e : j = ls.length - 1
      · subst e
        rw [if_pos rfl]
        omega
      · rw [if_neg e]
        exact hj'
    · rw [hg]
      split
      · rename_i e
        have hl1 : ls.length = 1 := by omega
        have hsum : ls.sum = ls.getD (ls.length - 1) 0 := by
          conv => lhs; rw [← take_last ls (ls.length - 1) (by omega) 0, List.sum_append_nat]
          simp [hl1]
        omega
      · exact h3

theorem shape_popB (bs : List (List Pk)) (head n : Int) (h : ShapeP (bs.map List.length) head n) (hn : 2 ≤ n) : ShapeP ((popB bs).map List.length) head (n - 1) := by
  rw [popB_lens]
  split
  · rename_i e; exact shape_pop _ head n h hn e
  · rename_i e; exact shape_pop' _ head n h hn e

theorem lastIs_of (bs : List (List Pk)) (q : List Pk) (p : Pk) (head n : Int) (h : ShapeP (bs.map List.length) head n) (hf : bs.flatten = q ++ [p]) : LastIs bs p := by
  have h0 : bs ≠ [] := by rintro rfl; simp at hf
  have hp : 0 < bs.length := List.length_pos_iff.2 h0
  have hpos : 1 ≤ (bs.getD (bs.length - 1) []).length := by
    rcases h with ⟨e, _⟩ | ⟨_, hok, _⟩
    · simp at e; exact absurd e h0
    · have := (hok (bs.length - 1) (by simp; omega)).1
      have hlt : bs.length - 1 < bs.length := by omega
      simpa [List.getD, hlt] using this
  refine ⟨h0, hpos, ?_⟩
  have hlast : bs.flatten.getLast? = some p := by rw [hf]; simp
  rw [← take_last bs (bs.length - 1) (by omega) []] at hlast
  simp only [List.flatten_append, List.flatten_cons, List.flatten_nil, List.append_nil] at hlast
  rw [List.getLast?_eq_getElem?, List.length_append, List.getElem?_append_right (by omega)] at hlast
  rw [← hlast]
  congr 1
  omega
end Go.Proofs.Qxb6602566a
