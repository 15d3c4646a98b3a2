/- The blocks that came in, read into a plain list of lists. -/
import Derived.Test.Qxb6602566aPushLaw
import Derived.ProofKit
import Derived.OpenShut
import Derived.Deep.Slices
namespace Go.Proofs.Qxb6602566a
open Go.RowKit Go.Deep

theorem cells52 : Try.prog.cellsOf 52 = 1 := by kernel_rfl
theorem cells60 : Try.prog.cellsOf 60 = 5 := by kernel_rfl

/-- A list of n things of which p holds at every place. -/
theorem list_of {α : Type} (p : Nat → α → Prop) : ∀ n, (∀ i, i < n → ∃ x, p i x) → ∃ l : List α, l.length = n ∧ ∀ i (h : i < l.length), p i l[i]
  | 0, _ => ⟨[], rfl, fun i h => by simp at h⟩
  | n + 1, hx => by
    obtain ⟨l, hl, hp⟩ := list_of p n (fun i hi => hx i (by omega))
    obtain ⟨x, hxn⟩ := hx n (by omega)
    refine ⟨l ++ [x], by simp [hl], fun i hi => ?_⟩
    by_cases e : i < l.length
    · rw [List.getElem_append_left e]; exact hp i e
    · have : i = l.length := by simp at hi; omega
      subst this
      rw [List.getElem_append_right (by omega)]
      simpa [hl] using hxn

theorem addr_of_cell {w : World} {a : Addr} {v : Value} (h : w.cell? a = some v) : a = ⟨a.block, a.off, none⟩ := by
  obtain ⟨b, o, s⟩ := a
  cases s with
  | none => rfl
  | some x =>
    unfold World.cell? at h
    split at h <;> simp at h

section
variable {H : Type} {enc : TypeId × Value → H} {W : World} {held : Bool}

/-- One array of five numbers. -/
theorem open_five {fuel : Nat} {cs : List Value} {x : DataW H × List MemPlace} (h : DataW.trod enc Try.prog W 0 (fun _ => true) held fuel 60 cs = some x) :
    ∃ p : Pk, cs = [.int .u32 p.a, .int .u32 p.b, .int .u32 p.c, .int .u32 p.d, .int .u32 p.e] := by
  obtain ⟨xs, m, _, _, hl, hx, hi⟩ := DataW.trod_array Try.underlying60 h
  rw [cells60] at hl
  rw [cells45] at hi
  match cs, hl with
  | [c0, c1, c2, c3, c4], _ =>
    have g : ∀ i, i < 5 → ∃ z, ([c0, c1, c2, c3, c4].drop (i * 1)).take 1 = [.int .u32 z] := by
      intro i h5
      have h1 := hi i h5
      rw [List.getElem?_eq_getElem (by omega)] at h1
      obtain ⟨z, hz, _⟩ := DataW.trod_int Try.underlying45 h1
      exact ⟨z, hz⟩
    obtain ⟨z0, h0⟩ := g 0 (by omega)
    obtain ⟨z1, h1⟩ := g 1 (by omega)
    obtain ⟨z2, h2⟩ := g 2 (by omega)
    obtain ⟨z3, h3⟩ := g 3 (by omega)
    obtain ⟨z4, h4⟩ := g 4 (by omega)
    simp at h0 h1 h2 h3 h4
    exact ⟨⟨z0, z1, z2, z3, z4⟩, by rw [h0, h1, h2, h3, h4]⟩

/-- A row of such arrays. -/
theorem open_fives {fuel : Nat} {v : Value} {x : DataW H × List MemPlace} (h : DataW.trod enc Try.prog W 0 (fun _ => true) held fuel 52 [v] = some x) :
    ∃ (ao : Option Addr) (c : Nat) (es : List Pk), v = .slice ao es.length c ∧ In5 W ao es ∧ es.length ≤ maxLen := by
  rcases open_slice Try.underlying52 h with ⟨h0, _⟩ | ⟨a, len, cap, m, n, D, Pl, hv, _, hl, hm, hmm, _, hx⟩
  · simp at h0
    exact ⟨none, 0, [], by simpa using h0, .inl rfl, Nat.zero_le _⟩
  · simp only [if_true] at hmm
    subst hmm
    rw [cells60] at hx
    simp only [List.cons.injEq, and_true] at hv
    subst hv
    obtain ⟨es, hes, hp⟩ := list_of (α := Pk) (fun i p => W.cell? (a.add (i * 5)) = some (.int .u32 p.a) ∧ W.cell? ((a.add (i * 5)).add 1) = some (.int .u32 p.b) ∧ W.cell? ((a.add (i * 5)).add 2) = some (.int .u32 p.c) ∧ W.cell? ((a.add (i * 5)).add 3) = some (.int .u32 p.d) ∧ W.cell? ((a.add (i * 5)).add 4) = some (.int .u32 p.e)) len (fun i hi => by
      obtain ⟨cs, h1, h2⟩ := hx i (by omega)
      obtain ⟨p, rfl⟩ := open_five h2
      obtain ⟨_, _, hc⟩ := World.cells?_some h1
      exact ⟨p, hc 0 (by omega), hc 1 (by omega), hc 2 (by omega), hc 3 (by omega), hc 4 (by omega)⟩)
    subst hes
    refine ⟨some a, _, es, rfl, ?_, by omega⟩
    rcases Nat.eq_zero_or_pos es.length with h0 | h0
    · exact .inl (List.eq_nil_of_length_eq_zero h0)
    · have ha := addr_of_cell (show W.cell? a = _ from (by have := (hp 0 h0).1; simpa [Addr.add] using this))
      obtain ⟨b, off, sp⟩ := a
      simp only [Addr.mk.injEq, true_and] at ha
      subst ha
      refine .inr ⟨b, off, rfl, fun j hj => ?_⟩
      have := hp j hj
      simp only [Addr.add_lit] at this
      simpa [Nat.add_assoc] using this

/-- The blocks. -/
theorem open_blocks {a : Option Addr} {len cap : Nat} {d : DataW H} {p : List MemPlace} (h : DataW.Trod enc Try.prog W 0 (fun _ => true) held 44 (.slice a len cap) d p) :
    ∃ bs : List (List Pk), bs.length = len ∧ ArgRows W a bs := by
  obtain ⟨fuel, h⟩ := h
  rcases open_slice1 Try.underlying44 cells52 h with ⟨h0, _⟩ | ⟨a', len', cap', m, n, V, D, Pl, hv, _, hl, hm, hmm, _, hx⟩
  · simp [Value.cells] at h0
    obtain ⟨rfl, rfl, rfl⟩ := h0
    exact ⟨[], rfl, ⟨.inl rfl, Nat.zero_le _, by simp⟩⟩
  · simp [Value.cells] at hv
    obtain ⟨rfl, rfl, rfl⟩ := hv
    simp only [if_true] at hmm
    subst hmm
    obtain ⟨bs, hbs, hp⟩ := list_of (α := List Pk) (fun i es => ∃ ai ci, W.cell? (a'.add i) = some (.slice ai es.length ci) ∧ In5 W ai es ∧ es.length ≤ maxLen) len (fun i hi => by
      obtain ⟨h1, h2⟩ := hx i (by omega)
      obtain ⟨ai, ci, es, hv, h3, h4⟩ := open_fives h2
      exact ⟨es, ai, ci, by rw [h1, hv], h3, h4⟩)
    subst hbs
    refine ⟨bs, rfl, ⟨?_, by omega, fun l hl => ?_⟩⟩
    · rcases Nat.eq_zero_or_pos bs.length with h0 | h0
      · exact .inl (List.eq_nil_of_length_eq_zero h0)
      · obtain ⟨ai, ci, h1, _⟩ := hp 0 h0
        have ha := addr_of_cell (show W.cell? a' = _ from (by simpa [Addr.add] using h1))
        obtain ⟨b, off, sp⟩ := a'
        simp only [Addr.mk.injEq, true_and] at ha
        subst ha
        refine .inr ⟨b, off, rfl, fun j hj => ?_⟩
        obtain ⟨ai, ci, h1, h2, _⟩ := hp j hj
        rw [Addr.add_lit] at h1
        exact ⟨ai, ci, h1, h2⟩
    · obtain ⟨i, hi, rfl⟩ := List.getElem_of_mem hl
      obtain ⟨_, _, _, _, h3⟩ := hp i hi
      exact h3
end
end Go.Proofs.Qxb6602566a
