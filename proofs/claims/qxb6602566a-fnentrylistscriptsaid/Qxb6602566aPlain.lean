/- Plain laws on the blocks: no Go in sight. -/
import Derived.Test.Qxb6602566aPushAll
import Derived.ChangeKeysEq
namespace Go.Proofs.Qxb6602566a
open Go.RowKit

theorem set_last {α : Type} (l : List α) (k : Nat) (hk : k + 1 = l.length) (x : α) : l.set k x = l.take k ++ [x] := by
  rw [List.set_eq_take_append_cons_drop]
  simp [show k < l.length by omega]
  omega

theorem take_last {α : Type} (l : List α) (k : Nat) (hk : k + 1 = l.length) (d : α) : l.take k ++ [l.getD k d] = l := by
  have hlt : k < l.length := by omega
  rw [show l.getD k d = l[k] by simp [List.getD, hlt], ← List.take_succ_eq_append_getElem hlt, List.take_of_length_le (by omega)]

theorem pushB_flatten (bs : List (List Pk)) (p : Pk) : (pushB bs p).flatten = bs.flatten ++ [p] := by
  unfold pushB
  split
  · simp
  · rename_i h
    have h0 : bs ≠ [] := fun e => h (.inl e)
    have hp : 0 < bs.length := List.length_pos_iff.2 h0
    rw [set_last bs _ (by omega)]
    conv => rhs; rw [← take_last bs (bs.length - 1) (by omega) []]
    simp

theorem pushB_lens (bs : List (List Pk)) (p : Pk) : (pushB bs p).map List.length =
    if bs = [] ∨ (bs.map List.length).getD (bs.length - 1) 0 = 4096 then bs.map List.length ++ [1] else (bs.map List.length).set (bs.length - 1) ((bs.map List.length).getD (bs.length - 1) 0 + 1) := by
  have hg : (bs.map List.length).getD (bs.length - 1) 0 = (bs.getD (bs.length - 1) []).length := by
    simp [List.getD, List.getElem?_map]
    cases bs[bs.length - 1]? <;> simp
  unfold pushB
  rw [hg]
  split
  · simp
  · rw [List.map_set]
    simp

theorem okAt_append {ls : List Nat} {j x : Nat} (hj : j < ls.length) : (ls ++ [x]).getD j 0 = ls.getD j 0 := by
  simp [List.getD, List.getElem?_append_left hj]

theorem shape_push (ls : List Nat) (head n : Int) (h : ShapeP ls head n) (hne : ls = [] ∨ ls.getD (ls.length - 1) 0 = 4096) : ShapeP (ls ++ [1]) head (n + 1) := by
  rcases h with ⟨rfl, rfl, rfl⟩ | ⟨h0, hok, h1, h2, h3⟩
  · refine .inr ⟨by simp, fun j hj => ?_, by omega, by simp, by simp⟩
    simp at hj
    subst hj
    unfold okAt
    simp
  · have hp : 0 < ls.length := List.length_pos_iff.2 h0
    refine .inr ⟨by simp, fun j hj => ?_, h1, by rw [okAt_append hp]; exact h2, by rw [List.sum_append_nat]; simp; omega⟩
    by_cases hjl : j < ls.length
    · have := hok j hjl
      unfold okAt at this ⊢
      rw [okAt_append hjl]
      refine ⟨this.1, this.2.1, fun _ => ?_⟩
      by_cases e : j + 1 < ls.length
      · exact this.2.2 e
      · rcases hne with e2 | e2
        · exact absurd e2 h0
        · rwa [show j = ls.length - 1 by omega]
    · have : j = ls.length := by simp at hj; omega
      subst this
      unfold okAt
      simp

theorem sum_set_last (ls : List Nat) (k : Nat) (hk : k + 1 = ls.length) (x : Nat) : (ls.set k x).sum + ls.getD k 0 = ls.sum + x := by
  rw [set_last ls k hk, List.sum_append_nat]
  conv => rhs; rw [← take_last ls k hk 0, List.sum_append_nat]
  simp
  omega

theorem shape_push' (ls : List Nat) (head n : Int) (h : ShapeP ls head n) (h0 : ls ≠ []) (hne : ls.getD (ls.length - 1) 0 ≠ 4096) : ShapeP (ls.set (ls.length - 1) (ls.getD (ls.length - 1) 0 + 1)) head (n + 1) := by
  rcases h with ⟨e, _⟩ | ⟨_, hok, h1, h2, h3⟩
  · exact absurd e h0
  · have hp : 0 < ls.length := List.length_pos_iff.2 h0
    have hg : ∀ j, (ls.set (ls.length - 1) (ls.getD (ls.length - 1) 0 + 1)).getD j 0 = if j = ls.length - 1 then ls.getD (ls.length - 1) 0 + 1 else ls.getD j 0 := by
      intro j
      simp only [List.getD_eq_getElem?_getD, List.getElem?_set]
      by_cases e : j = ls.length - 1
      · subst e
        have : ls.length - 1 < ls.length := by omega
        simp [this]
      · have e' : ¬ ls.length - 1 = j := fun h => e h.symm
        simp [e, e']
    have hs := sum_set_last ls (ls.length - 1) (by omega) (ls.getD (ls.length - 1) 0 + 1)
    refine .inr ⟨by simp [h0], fun j hj => ?_, h1, ?_, by omega⟩
    · rw [List.length_set] at hj
      have hj' := hok j hj
      unfold okAt at hj' ⊢
      rw [List.length_set, hg]
      by_cases e : j = ls.length - 1
      · subst e
        rw [if_pos rfl]
        omega
      · rw [if_neg e]
        exact hj'
    · rw [hg]
      split
      · rename_i e
        rw [← e]
        omega
      · exact h2

theorem shape_pushB (bs : List (List Pk)) (p : Pk) (head n : Int) (h : ShapeP (bs.map List.length) head n) : ShapeP ((pushB bs p).map List.length) head (n + 1) := by
  rw [pushB_lens]
  by_cases h0 : bs = []
  · subst h0
    rw [if_pos (.inl rfl)]
    exact shape_push _ head n h (.inl rfl)
  · have e : bs.length - 1 = (bs.map List.length).length - 1 := by simp
    rw [e]
    by_cases h1 : (bs.map List.length).getD ((bs.map List.length).length - 1) 0 = 4096
    · rw [if_pos (.inr h1)]
      exact shape_push _ head n h (.inr h1)
    · rw [if_neg (by rintro (e | e) <;> contradiction)]
      exact shape_push' _ head n h (by simpa using h0) h1

theorem eqG60 : Try.prog.eqGuardType Try.prog.depth 60 = false := by kernel_rfl
theorem cells45 : Try.prog.cellsOf 45 = 1 := by kernel_rfl
theorem info45 : (Try.prog.info? 45).map (fun i => (i.zero, i.size, i.bytes)) = some (some (.int .u32 0), 1, 4) := by kernel_rfl
/-- Two arrays of the same five numbers are equal. -/
theorem eq60 (w : World) (p : Pk) : Sem.run Try.prog (Op.equalIn 10000 60 (.agg #[.int .u32 p.a, .int .u32 p.b, .int .u32 p.c, .int .u32 p.d, .int .u32 p.e]) (.agg #[.int .u32 p.a, .int .u32 p.b, .int .u32 p.c, .int .u32 p.d, .int .u32 p.e])) w = .ok true w := by
  obtain ⟨i, hi, hz, hs, hb⟩ := info_parts info45
  have h := run_equalIn_array (P := Try.prog) w 9999 #[.int .u32 p.a, .int .u32 p.b, .int .u32 p.c, .int .u32 p.d, .int .u32 p.e] #[.int .u32 p.a, .int .u32 p.b, .int .u32 p.c, .int .u32 p.d, .int .u32 p.e] Try.underlying60 hi
  rw [cells45, show List.range 5 = [0, 1, 2, 3, 4] from rfl] at h
  refine h.trans ?_
  simp [Op.eqItems, part, sizeOf, typeInfo, hi, hs, go_sem]

theorem In5.below {w w' : World} {ao : Option Addr} {es : List Pk} (h : In5 w ao es) (hb : Below w.heap.size w w') : In5 w' ao es := by
  rcases h with h | ⟨b, off, e, hc⟩
  · exact .inl h
  · refine .inr ⟨b, off, e, fun j hj => ?_⟩
    have g : ∀ p v, w.cell? p = some v → w'.cell? p = some v := fun p v h => (hb.cell (World.block_lt_of_cell? _ _ h)).trans h
    obtain ⟨a1, a2, a3, a4, a5⟩ := hc j hj
    exact ⟨g _ _ a1, g _ _ a2, g _ _ a3, g _ _ a4, g _ _ a5⟩

theorem InRows.below {w w' : World} {ao : Option Addr} {bs : List (List Pk)} (h : InRows w ao bs) (hb : Below w.heap.size w w') : InRows w' ao bs := by
  rcases h with h | ⟨b, off, e, hc⟩
  · exact .inl h
  · refine .inr ⟨b, off, e, fun j hj => ?_⟩
    obtain ⟨ai, ci, h1, h2⟩ := hc j hj
    exact ⟨ai, ci, (hb.cell (World.block_lt_of_cell? _ _ h1)).trans h1, h2.below hb⟩

theorem InInts.below {w w' : World} {ao : Option Addr} {ls : List Nat} (h : InInts w ao ls) (hb : Below w.heap.size w w') : InInts w' ao ls := by
  rcases h with h | ⟨b, off, e, hc⟩
  · exact .inl h
  · exact .inr ⟨b, off, e, fun j hj => (hb.cell (World.block_lt_of_cell? _ _ (hc j hj))).trans (hc j hj)⟩

/-- What a shape says of the blocks. -/
theorem shape_small (bs : List (List Pk)) (head n : Int) (h : ShapeP (bs.map List.length) head n) : ∀ i, i < bs.length → (bs.getD i []).length ≤ 4096 := by
  intro i hi
  rcases h with ⟨e, _⟩ | ⟨_, hok, _⟩
  · simp at e; subst e; simp at hi
  · have := (hok i (by simpa using hi)).2.1
    simpa [List.getD, hi] using this

theorem shape_n (bs : List (List Pk)) (head n : Int) (h : ShapeP (bs.map List.length) head n) : 0 ≤ head ∧ 0 ≤ n + 4096 ∧ n ≤ total bs ∧ (bs = [] ↔ n = 0) ∧ 0 ≤ n := by
  rcases h with ⟨e, rfl, rfl⟩ | ⟨h0, hok, h1, h2, h3⟩
  · simp at e; subst e; simp [total]
  · have h0' : bs ≠ [] := by simpa using h0
    have hp : 0 < bs.length := List.length_pos_iff.2 h0'
    have hle : (bs.map List.length).getD 0 0 ≤ (bs.map List.length).sum := by
      cases bs with
      | nil => simp at hp
      | cons b bs => simp [List.getD]
    have : (bs.map List.length).sum = total bs := rfl
    refine ⟨h1, by omega, by omega, ⟨fun e => absurd e h0', fun e => by omega⟩, by omega⟩
end Go.Proofs.Qxb6602566a
