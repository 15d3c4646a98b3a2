/- Rows of bools and of integers that came in, read into plain lists. -/
import Derived.Test.Qxb6602566aOpen
import Derived.Test.Qxb6602566aScript
namespace Go.Proofs.Qxb6602566a
open Go.RowKit Go.Deep

section
variable {H : Type} {enc : TypeId × Value → H} {W : World} {held : Bool}

/-- A row of one-cell things. -/
theorem open_row {α : Type} {t e : TypeId} (put : α → Value) (ok : α → Prop) (ht : Try.prog.underlying t = some (.slice e)) (hc : Try.prog.cellsOf e = 1)
    (hel : ∀ (fuel : Nat) (v : Value) (x : DataW H × List MemPlace), DataW.trod enc Try.prog W 0 (fun _ => true) held fuel e [v] = some x → ∃ z, v = put z ∧ ok z)
    {a : Option Addr} {len cap : Nat} {d : DataW H} {p : List MemPlace} (h : DataW.Trod enc Try.prog W 0 (fun _ => true) held t (.slice a len cap) d p) :
    ∃ zs : List α, zs.length = len ∧ zs.length ≤ maxLen ∧ (∀ z ∈ zs, ok z) ∧ (zs = [] ∨ ∃ b off, a = some ⟨b, off, none⟩ ∧ ∀ i (h : i < zs.length), W.cell? ⟨b, off + i, none⟩ = some (put zs[i])) := by
  obtain ⟨fuel, h⟩ := h
  rcases open_slice1 ht hc h with ⟨h0, _⟩ | ⟨a', len', cap', m, n, V, D, Pl, hv, _, hl, hm, hmm, _, hx⟩
  · simp [Value.cells] at h0
    obtain ⟨rfl, rfl, rfl⟩ := h0
    exact ⟨[], rfl, Nat.zero_le _, by simp, .inl rfl⟩
  · simp [Value.cells] at hv
    obtain ⟨rfl, rfl, rfl⟩ := hv
    simp only [if_true] at hmm
    subst hmm
    obtain ⟨zs, hzs, hp⟩ := list_of (α := α) (fun i z => W.cell? (a'.add i) = some (put z) ∧ ok z) len (fun i hi => by
      obtain ⟨h1, h2⟩ := hx i (by omega)
      obtain ⟨z, hz, ho⟩ := hel _ _ _ h2
      exact ⟨z, by rw [h1, hz], ho⟩)
    subst hzs
    refine ⟨zs, rfl, by omega, fun z hz => ?_, ?_⟩
    · obtain ⟨i, hi, rfl⟩ := List.getElem_of_mem hz
      exact (hp i hi).2
    · rcases Nat.eq_zero_or_pos zs.length with h0 | h0
      · exact .inl (List.eq_nil_of_length_eq_zero h0)
      · have h1 := (hp 0 h0).1
        have ha := addr_of_cell (show W.cell? a' = _ from (by simpa [Addr.add] using h1))
        obtain ⟨b, off, sp⟩ := a'
        simp only [Addr.mk.injEq, true_and] at ha
        subst ha
        refine .inr ⟨b, off, rfl, fun j hj => ?_⟩
        have h1 := (hp j hj).1
        rw [Addr.add_lit] at h1
        exact h1

theorem open_bools {t e : TypeId} (ht : Try.prog.underlying t = some (.slice e)) (he : Try.prog.underlying e = some .bool) (hc : Try.prog.cellsOf e = 1) {a : Option Addr} {len cap : Nat} {d : DataW H} {p : List MemPlace} (h : DataW.Trod enc Try.prog W 0 (fun _ => true) held t (.slice a len cap) d p) :
    ∃ zs : List Bool, zs.length = len ∧ zs.length ≤ maxLen ∧ InB W a zs := by
  obtain ⟨zs, h1, h2, _, h4⟩ := open_row (α := Bool) Value.bool (fun _ => True) ht hc (fun _ _ _ hx => by
    obtain ⟨b, hb, _⟩ := DataW.trod_bool he hx
    exact ⟨b, by simpa using hb, trivial⟩) h
  exact ⟨zs, h1, h2, h4⟩

theorem open_row_ints {k : IntKind} {t e : TypeId} (ht : Try.prog.underlying t = some (.slice e)) (he : Try.prog.underlying e = some (.int k)) (hc : Try.prog.cellsOf e = 1) {a : Option Addr} {len cap : Nat} {d : DataW H} {p : List MemPlace} (h : DataW.Trod enc Try.prog W 0 (fun _ => true) held t (.slice a len cap) d p) :
    ∃ zs : List Int, zs.length = len ∧ zs.length ≤ maxLen ∧ (∀ z ∈ zs, (Lit.int k z).wf = true) ∧ InI k W a zs :=
  open_row (α := Int) (Value.int k) (fun z => (Lit.int k z).wf = true) ht hc (fun _ _ _ hx => by
    obtain ⟨z, hz, _, hw⟩ := DataW.trod_int he hx
    exact ⟨z, by simpa using hz, hw⟩) h
end
end Go.Proofs.Qxb6602566a
