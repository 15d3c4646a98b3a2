/- The table of 89,478 cells, built in one piece: nothing of it is unrolled. -/
import Derived.Test.Qxb6602675aAppend
import Derived.Deep.MidRow
import Derived.Deep.WholeRow
namespace Go.Proofs.Qxb6602675a
open Go.RowKit

theorem size29 : (Try.prog.info? 29).map (·.size) = some 65536 := by kernel_rfl
theorem zsize45 : ((Try.prog.info? 45).bind (·.zero)).map (fun z => z.cells.size) = some 89478 := by kernel_rfl

theorem fold_list (off : Nat) : ∀ (l : List Value) (k : Nat) (cells : Array Value),
    ((l.zipIdx k).foldl (fun cs (x : Value × Nat) => cs.setIfInBounds (off + x.2) x.1) cells).size = cells.size ∧
    ∀ i, ((l.zipIdx k).foldl (fun cs (x : Value × Nat) => cs.setIfInBounds (off + x.2) x.1) cells)[i]? = if off + k ≤ i ∧ i < off + k + l.length ∧ i < cells.size then l[i - (off + k)]? else cells[i]?
  | [], k, cells => by
    refine ⟨rfl, fun i => ?_⟩
    rw [if_neg (by simp; omega)]
    rfl
  | v :: l, k, cells => by
    rw [List.zipIdx_cons, List.foldl_cons]
    obtain ⟨h1, h2⟩ := fold_list off l (k + 1) (cells.setIfInBounds (off + k) v)
    refine ⟨by rw [h1]; simp, fun i => ?_⟩
    rw [h2 i, Array.size_setIfInBounds]
    by_cases e : i = off + k
    · subst e
      rw [if_neg (by omega)]
      by_cases hs : off + k < cells.size
      · rw [if_pos (by simp; omega), Array.getElem?_setIfInBounds]
        simp [hs]
      · rw [if_neg (by omega), Array.getElem?_eq_none (by simp; omega), Array.getElem?_eq_none (by omega)]
    · by_cases h : off + (k + 1) ≤ i ∧ i < off + (k + 1) + l.length ∧ i < cells.size
      · rw [if_pos h, if_pos (by simp; omega)]
        rw [show i - (off + k) = (i - (off + (k + 1))) + 1 by omega, List.getElem?_cons_succ]
      · rw [if_neg h, if_neg (by simp; omega), Array.getElem?_setIfInBounds, if_neg (fun e' => e e'.symm)]

/-- Cells laid over a row from an offset on. -/
def over (off : Nat) (C cells : Array Value) : Array Value := C.zipIdx.foldl (fun cs (x : Value × Nat) => cs.setIfInBounds (off + x.2) x.1) cells

theorem over_spec (off : Nat) (C cells : Array Value) : (over off C cells).size = cells.size ∧ ∀ i, (over off C cells)[i]? = if off ≤ i ∧ i < off + C.size ∧ i < cells.size then C[i - off]? else cells[i]? := by
  have h := fold_list off C.toList 0 cells
  have e : over off C cells = (C.toList.zipIdx 0).foldl (fun cs (x : Value × Nat) => cs.setIfInBounds (off + x.2) x.1) cells := by
    unfold over
    rw [← Array.foldl_toList]
    simp
  rw [e]
  refine ⟨h.1, fun i => ?_⟩
  rw [h.2 i]
  simp

theorem places45 : (match Try.prog.underlying 45 with | some (.struct fields) => fields.toList.mapM (fun f => (Try.prog.info? f.type).map fun i => (f.offset, i.size)) | _ => none) = some [(0, 23940), (23940, 1), (23941, 65536), (89477, 1)] := by kernel_rfl

theorem fill_two (C cells : Array Value) (m : Option Nat) (hC : C.size = 65536) (hz : cells.size = 89478) :
    Instr.fill (([(0, 23940), (23940, 1), (23941, 65536), (89477, 1)] : List (Nat × Nat)).toArray[·]?) cells [(2, .agg C), (3, .map m)] = some (over 89477 #[.map m] (over 23941 C cells)) := by
  have e1 : (Value.agg C).cells = C := rfl
  have e2 : (Value.map m).cells = #[.map m] := rfl
  have s1 := (over_spec 23941 C cells).1
  have c1 : (decide ((Value.agg C).cells.size ≠ 65536) || decide (23941 + (Value.agg C).cells.size > cells.size)) = false := by
    rw [e1, hC, hz]; rfl
  have c2 : (decide ((Value.map m).cells.size ≠ 1) || decide (89477 + (Value.map m).cells.size > (over 23941 C cells).size)) = false := by
    rw [e2, s1, hz]; rfl
  show (if (decide ((Value.agg C).cells.size ≠ 65536) || decide (23941 + (Value.agg C).cells.size > cells.size)) = true then none else
    if (decide ((Value.map m).cells.size ≠ 1) || decide (89477 + (Value.map m).cells.size > (over 23941 C cells).size)) = true then none else some (over 89477 #[.map m] (over 23941 C cells))) = _
  rw [c1, c2]
  rfl

theorem built45 (C : Array Value) (hC : C.size = 65536) (m : Option Nat) : ∃ T : Array Value, (∀ i, i < 65536 → T[23941 + i]? = C[i]?) ∧ T[89477]? = some (.map m) ∧ ∀ w, (Instr.build 45 #[(2, .agg C), (3, .map m)]).run Try.prog w = .ok (.agg T) w := by
  have hz := zsize45
  cases hi : Try.prog.info? 45 with
  | none => rw [hi] at hz; cases hz
  | some it =>
    rw [hi] at hz
    cases hzz : it.zero with
    | none => simp [hzz] at hz
    | some z =>
      simp only [Option.bind_some, hzz, Option.map_some, Option.some.injEq] at hz
      have o1 := over_spec 23941 C z.cells
      have o2 := over_spec 89477 #[.map m] (over 23941 C z.cells)
      refine ⟨over 89477 #[.map m] (over 23941 C z.cells), fun i hi => ?_, ?_, fun w => ?_⟩
      · rw [o2.2, if_neg (by simp; omega), o1.2, if_pos (by omega)]
        rw [show 23941 + i - 23941 = i by omega]
      · rw [o2.2, if_pos (by simp [o1.1, hz])]
        rfl
      · refine run_build (P := Try.prog) w 45 _ _ ?_
        unfold Program.built
        have hp := places45
        rw [Try.underlying45] at hp ⊢
        rw [hi]
        simp only [hzz]
        simp only at hp
        rw [hp]
        exact fill_two C z.cells m hC hz
end Go.Proofs.Qxb6602675a
