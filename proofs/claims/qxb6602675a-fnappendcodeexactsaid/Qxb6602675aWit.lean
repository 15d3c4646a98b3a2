/- One input that fits, shown by hand: the reader over 65536 cells is not evaluated. -/
import Derived.Test.Qxb6602675aRows
import Derived.Test.Qxb6602675aOpen
import Derived.ChangeMaps
namespace Go.Proofs.Qxb6602675a
open Go.ChangeShapes Go.WideShapes Go.ChangeAt Go.RowKit

def args0 : Array Value := #[.agg (Array.replicate 65536 (.int .u32 0)), .map none, .slice none 0 0, .int .i32 0]

theorem mapM_const {α β : Type} (f : α → Option β) (b : β) : ∀ l : List α, (∀ x ∈ l, f x = some b) → l.mapM f = some (List.replicate l.length b)
  | [], _ => rfl
  | x :: l, h => by
    rw [List.mapM_cons, h x (by simp), mapM_const f b l fun y hy => h y (by simp [hy])]
    rfl

section
variable {H : Type} {enc : TypeId × Value → H} {W : World} {base : Nat} {sp : Nat → Bool} {held : Bool}

theorem codes_mk (N : Nat) (cs : List Value) (hl : cs.length = N) (h0 : ∀ i, i < N → cs[i]? = some (.int .u32 0)) (hu : Try.prog.underlying 29 = some (.array N 28)) (hc : Try.prog.cellsOf 29 = N) :
    DataW.trod enc Try.prog W base sp held 2 29 cs = some (.agg (List.replicate N (.lit (.int .u32 0))), []) := by
  have hm : ((List.range N).mapM fun i => DataW.trod enc Try.prog W base sp held 1 28 ((cs.drop (i * Try.prog.cellsOf 28)).take (Try.prog.cellsOf 28))) = some (List.replicate N (DataW.lit (.int .u32 0), ([] : List MemPlace))) := by
    have := mapM_const (fun i => DataW.trod enc Try.prog W base sp held 1 28 ((cs.drop (i * Try.prog.cellsOf 28)).take (Try.prog.cellsOf 28))) (DataW.lit (.int .u32 0), ([] : List MemPlace)) (List.range N) ?_
    · rwa [List.length_range] at this
    · intro i hi
      have hi' : i < N := List.mem_range.1 hi
      have h3 : i < cs.length := by omega
      have h4 := h0 i hi'
      rw [List.getElem?_eq_getElem h3] at h4
      rw [cells28, Nat.mul_one, List.drop_eq_getElem_cons h3, List.take_succ_cons, List.take_zero, Option.some.inj h4]
      simp [DataW.trod, Try.underlying28, Lit.wf, IntKind.min, IntKind.max, IntKind.signed, IntKind.bits]
  unfold DataW.trod
  rw [hu]
  split <;> simp_all
end

theorem weights_const {H : Type} (n : Nat) : DataW.weightsAll (H := H) Try.prog 28 (List.replicate n (.lit (.int .u32 0))) = [] := by
  induction n with
  | zero => rfl
  | succ n ih => rw [List.replicate_succ]; simp [DataW.weightsAll, DataW.weights, ih]

theorem row29 (N : Nat) (w : World) (base : Nat) (hu : Try.prog.underlying 29 = some (.array N 28)) : Row.okWide Try.prog w .any base 29 (Array.replicate N (.int .u32 0)) := by
  have hts : ∀ d, Try.prog.cellTypes (d + 2) 29 = some (List.replicate N 28) := fun d => by
    have h28 : Try.prog.cellTypes (d + 1) 28 = some [28] := by
      unfold Program.cellTypes
      rw [Try.underlying28]
    have h29 : Try.prog.cellTypes (d + 1 + 1) 29 = (Try.prog.cellTypes (d + 1) 28).map fun ts => (List.replicate N ts).flatten := by
      rw [Program.cellTypes, hu]
    rw [h29, h28, Option.map_some, List.flatten_replicate_singleton]
  refine ⟨List.replicate N 28, hts _, ⟨1, by simp⟩, fun i v hv => ?_⟩
  have hi : i < N := by
    have := (Array.getElem?_eq_some_iff.1 hv).1
    simpa using this
  refine ⟨28, by simp [Nat.mod_eq_of_lt hi, hi], ?_⟩
  have : v = .int .u32 0 := by
    rw [Array.getElem?_replicate, if_pos hi] at hv
    exact (Option.some.inj hv).symm
  subst this
  exact Cell.okWide_of_okWideB (by unfold Cell.okWideB Cell.okRefB; rw [Try.underlying28]; kernel_rfl)

theorem argsOk (w : World) (base : Nat) : ∀ (j : Nat) t v, Try.f5.params[j]? = some t → args0[j]? = some v → Value.okWide Try.prog w .any base t v := by
  intro j t v hj hv
  rw [Try.params5] at hj
  rcases j with _ | _ | _ | _ | j
  · obtain rfl : 29 = t := Option.some.inj hj
    obtain rfl := Option.some.inj hv
    unfold Value.okWide
    rw [Try.underlying29]
    exact ⟨_, rfl, by rw [Array.size_replicate, cells29], row29 _ w base Try.underlying29⟩
  · obtain rfl : 30 = t := Option.some.inj hj
    obtain rfl : Value.map none = v := Option.some.inj hv
    unfold Value.okWide Cell.okWide
    rw [Try.underlying30]
    trivial
  · obtain rfl : 31 = t := Option.some.inj hj
    obtain rfl : Value.slice none 0 0 = v := Option.some.inj hv
    exact Value.okWide_of_okWideB (by unfold Value.okWideB Cell.okWideB Cell.okRefB; rw [Try.underlying31]; first | rfl | kernel_rfl)
  · obtain rfl : 21 = t := Option.some.inj hj
    obtain rfl : Value.int .i32 0 = v := Option.some.inj hv
    exact Value.okWide_of_okWideB (by unfold Value.okWideB Cell.okWideB Cell.okRefB; rw [Try.underlying21]; first | rfl | kernel_rfl)
  · simp at hj

theorem whole0 {H : Type} (enc : TypeId × Value → H) (w : World) : DataW.Whole enc Try.prog Try.f5.params.toList [] false w args0.toList
    [.agg (List.replicate 65536 (.lit (.int .u32 0))), .nil, .nil, .lit (.int .i32 0)] [] [] := by
  refine ⟨[], [], ?_, rfl, rfl, fun b off h => by simp at h, fun h => by cases h⟩
  rw [Try.params5]
  have t0 : DataW.Trod enc Try.prog w 0 (fun _ => true) true 29 (.agg (Array.replicate 65536 (.int .u32 0))) (.agg (List.replicate 65536 (.lit (.int .u32 0)))) [] :=
    ⟨2, codes_mk 65536 _ (by rw [Array.length_toList]; exact Array.size_replicate) (fun i hi => by
      show (Array.replicate 65536 (Value.int .u32 0)).toList[i]? = _
      rw [Array.getElem?_toList, Array.getElem?_replicate, if_pos hi]) Try.underlying29 cells29⟩
  have t1 : DataW.Trod enc Try.prog w 0 (fun _ => true) true 30 (.map none) .nil [] := ⟨1, by unfold DataW.trod; rw [Try.underlying30]; rfl⟩
  have t2 : DataW.Trod enc Try.prog w 0 (fun _ => true) true 31 (.slice none 0 0) .nil [] := ⟨1, by unfold DataW.trod; rw [Try.underlying31]; rfl⟩
  have t3 : DataW.Trod enc Try.prog w 0 (fun _ => true) true 21 (.int .i32 0) (.lit (.int .i32 0)) [] := ⟨1, by unfold DataW.trod; rw [Try.underlying21]; rfl⟩
  exact trodAll_cons_mk t0 (trodAll_cons_mk t1 (trodAll_cons_mk t2 (trodAll_cons_mk t3 trodAll_mk0)))

theorem weights0 {H : Type} : (DataW.weightsEach (H := H) Try.prog [29, 30, 31, 21] [.agg (List.replicate 65536 (.lit (.int .u32 0))), .nil, .nil, .lit (.int .i32 0)]).all (· ≤ reachBytes) = true := by
  have h : DataW.weights (H := H) Try.prog 29 (.agg (List.replicate 65536 (.lit (.int .u32 0)))) = [] := by
    unfold DataW.weights
    rw [Try.underlying29]
    exact weights_const _
  rw [DataW.weightsEach, h]
  generalize (DataW.agg (List.replicate 65536 (DataW.lit (.int .u32 0))) : DataW H) = d
  rfl

theorem witness0 (os : Os) {H : Type} (enc : TypeId × Value → H) :
    ∃ (w : World) (tape : Tape) (i : Input), w.os = os ∧ (w.forCall tape i).Shaped Try.checked.prog ∧ i.vars = [] ∧ Input.okWide Try.checked.prog (w.forCall tape i) .any w.heap.size 5 i ∧
      Rows.fnAppendCodeExactSpec.pre6 enc Try.checked.prog Try.f5 Rows.fnAppendCodeExactRow.domain false (w.forCall tape i).memory i.args ∧ ({} : Assume).holds Try.checked.prog (lone (Frame.enter Try.checked.prog 5 i.args .normal) [] (w.forCall tape i)) := by
  refine ⟨World.holding Try.checked.prog os ⟨#[], args0, []⟩, fun _ _ => 0, ⟨#[], args0, []⟩, rfl, World.shaped_of_B ?_ ?_, rfl, ⟨?_, ?_, ?_, Try.f5, Try.func5, ?_, ?_, ?_, ?_, ?_⟩, ⟨⟨_, _, _, whole0 enc _, rfl⟩, ?_, _, _, _, whole0 enc _, ?_⟩, ?_⟩
  · kernel_rfl
  · kernel_rfl
  · intro o ho; simp at ho
  · intro gv hgv; simp at hgv
  · kernel_rfl
  · kernel_rfl
  · kernel_rfl
  · kernel_rfl
  · show args0.size = Try.f5.params.size
    rw [Try.params5]; rfl
  · exact argsOk _ _
  · kernel_rfl
  · show (DataW.weightsEach Try.prog (Try.f5.params.toList ++ []) _).all (· ≤ reachBytes) = true
    rw [Try.params5, List.append_nil]
    exact weights0
  · simp only [Assume.holds]
    exact ⟨by simp, by simp, by simp, by simp, by simp⟩
end Go.Proofs.Qxb6602675a
