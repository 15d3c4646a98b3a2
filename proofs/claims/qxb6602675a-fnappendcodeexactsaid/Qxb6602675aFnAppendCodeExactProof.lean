/- 'Rows.FnAppendCodeExactSaid': the walk is Qxb6602675aAll's; here the row. -/
import Derived.Test.Qxb6602675aRows
import Derived.Test.Qxb6602675aAll
import Derived.Test.Qxb6602675aOpen
import Derived.Test.Qxb6602675aWit
import Derived.WalkKit
import Derived.ProofKit
import Derived.OpenShut
import Derived.ShutString
import Derived.ChangeOld
import Derived.Below
namespace Go.Proofs.Qxb6602675a.fnAppendCodeExact
open Go.ChangeShapes Go.WideShapes Go.ChangeAt Go.RowKit
set_option linter.unusedVariables false

theorem own : ownKnob Try.prog.godebug = none := by kernel_rfl
theorem laidOut : laidOutB Try.prog = true := by kernel_rfl

theorem okWide_codes {w : World} {base : Nat} {v : Value} (h : Value.okWide Try.prog w .any base 29 v) : ∃ C, v = .agg C := by
  unfold Value.okWide at h
  rw [Try.underlying29] at h
  obtain ⟨C, hC, _⟩ := h
  exact ⟨C, hC⟩

set_option maxRecDepth 100000 in
theorem lifted (os : Os) (started : os.Started) (H : Type) (enc : TypeId × Value → H) :
    ReturnsInHanded {} Try.checked os 5 .any (Rows.fnAppendCodeExactSpec.pre6 enc Try.prog Try.f5 Rows.fnAppendCodeExactRow.domain false) (Rows.fnAppendCodeExactSpec.post enc Try.prog Try.f5 false true false false) := by
  refine returnsInHanded_of_change (C := Try.checked) own started (by kernel_rfl) Try.func5
    (witness0 os enc) ?_
  intro W base args ds gs before hval0 hW hcnd _
  have hval : ∀ (j : Nat) t v, Try.f5.params[j]? = some t → args[j]? = some v → Value.okWide Try.prog W .any base t v := hval0
  have hW' := hW
  obtain ⟨p, q, hA0, hV, rfl, hfz, hnd⟩ := hW
  have hA : DataW.TrodAll enc Try.prog W 0 (fun _ => true) true Try.f5.params.toList args.toList ds p := hA0
  rw [Try.params5] at hA hval
  obtain ⟨v0, vs0, d0, ds0, p0, q0, hargs, rfl, rfl, h0, r0⟩ := trodAll_cons hA
  obtain ⟨v1, vs1, d1, ds1, p1, q1, rfl, rfl, rfl, h1, r1⟩ := trodAll_cons r0
  obtain ⟨v2, vs2, d2, ds2, p2, q2, rfl, rfl, rfl, h2, r2⟩ := trodAll_cons r1
  obtain ⟨v3, vs3, d3, ds3, p3, q3, rfl, rfl, rfl, h3, r3⟩ := trodAll_cons r2
  obtain ⟨rfl, rfl, rfl⟩ := trodAll_nil r3
  obtain rfl : args = #[v0, v1, v2, v3] := by cases args; simp_all
  obtain ⟨rfl, rfl⟩ := trodVars_none hV
  obtain ⟨C, rfl⟩ := okWide_codes (hval 0 29 v0 rfl rfl)
  obtain ⟨m, rfl⟩ := okWide_map Try.underlying30 (hval 1 30 v1 rfl rfl)
  obtain ⟨a, len, cap, rfl⟩ := okWide_slice Try.underlying31 (hval 2 31 v2 rfl rfl)
  have k0 := h0
  have k1 := h1
  have k2 := h2
  have k3 := h3
  have lt0 : ∀ x ∈ p0, x.block < W.heap.size := by obtain ⟨m, hm⟩ := k0; exact DataW.trod_lt m _ _ _ hm
  have lt1 : ∀ x ∈ p1, x.block < W.heap.size := by obtain ⟨m, hm⟩ := k1; exact DataW.trod_lt m _ _ _ hm
  have lt2 : ∀ x ∈ p2, x.block < W.heap.size := by obtain ⟨m, hm⟩ := k2; exact DataW.trod_lt m _ _ _ hm
  have lt3 : ∀ x ∈ p3, x.block < W.heap.size := by obtain ⟨m, hm⟩ := k3; exact DataW.trod_lt m _ _ _ hm
  obtain ⟨r, rfl, _, _, wr⟩ := open_int Try.underlying21 (hval 3 21 v3 rfl rfl) h3
  obtain ⟨hsz, hcode⟩ : C.size = 65536 ∧ ∀ i, i < 65536 → ∃ g, C[i]? = some (.int .u32 g) ∧ 0 ≤ g ∧ g < 4294967296 := by
    obtain ⟨f, hf⟩ := h0
    exact open_codes (C := C) hf
  obtain ⟨L, gm, hgm, hlen, hlook⟩ : ∃ (L : Nat) (gm : Int), (0 ≤ gm ∧ gm < 4294967296) ∧
      (∀ W', Below W.heap.size W W' → (Builtin.len_ #[30] 3 #[.map m]).run Try.prog W' = .ok (.int .i64 (L : Int)) W') ∧
      (∀ W', Below W.heap.size W W' → (Instr.lookup 30 (.map m) (.int .i32 r) false).run Try.prog W' = .ok (.int .u32 gm) W') := by
    obtain ⟨f, hf⟩ := h1
    exact open_beyond hf r
  obtain ⟨zs, rfl, hin, hmx⟩ : ∃ ys : List Int, ys.length = len ∧ InU .u8 W a ys ∧ ys.length ≤ maxLen := by
    obtain ⟨fuel, hf⟩ := h2
    rcases open_ints Try.underlying31 Try.underlying5 (by kernel_rfl) hf with ⟨hcs, _⟩ | ⟨x, l, c, zs, hcs, _, hl, hm, hz, _, hcell, hwz⟩
    · simp [Value.cells] at hcs
      obtain ⟨rfl, rfl, rfl⟩ := hcs
      exact open_dst (cap := 0) (zs := []) (.inl ⟨rfl, rfl, rfl, rfl⟩)
    · simp [Value.cells] at hcs
      obtain ⟨rfl, rfl, rfl⟩ := hcs
      exact open_dst (.inr ⟨_, rfl, hl, hm, by simpa using hz, hcell, hwz⟩)
  clear hA0 hval0
  refine (law_walk W C a zs cap m r L gm ⟨hsz, hcode, hin, hmx, hlen, hlook, hgm⟩).mono fun e W' ⟨he, bel⟩ => ?_
  subst he
  exact ⟨_, rfl, _, _, _, [], _, [], hW', trodAll_mk1 (shut_bool Try.underlying4 _), (trodAll_cons_mk (Below.trod laidOut (by kernel_rfl) (of_decide_eq_true (by kernel_rfl)) k0 bel lt0) (trodAll_cons_mk (Below.trod laidOut (by kernel_rfl) (of_decide_eq_true (by kernel_rfl)) k1 bel lt1) (trodAll_cons_mk (Below.trod laidOut (by kernel_rfl) (of_decide_eq_true (by kernel_rfl)) k2 bel lt2) (trodAll_cons_mk (Below.trod laidOut (by kernel_rfl) (of_decide_eq_true (by kernel_rfl)) k3 bel lt3) trodAll_mk0)))), rfl, bel.frame _, fun h => by cases h⟩

theorem over : Rows.fnAppendCodeExactRow.holds Try.pinned (OpenSpec.ofChange Rows.fnAppendCodeExactSpec) :=
  OpenClaim.holds_of_wide 5 Try.f5 rfl rfl rfl rfl rfl rfl rfl ⟨rfl, rfl, rfl, rfl, rfl⟩ rfl rfl rfl rfl rfl (by kernel_rfl) Try.func5 (by kernel_rfl)
    (of_decide_eq_true (by kernel_rfl)) (by unfold Func.isWrapper; first | (rw [if_pos (by decide +kernel)]; kernel_rfl) | (rw [if_neg (by decide +kernel)]; exact ⟨rfl, rfl⟩))
    (fun os started H enc _ => lifted os started H enc)

/-- The statement. -/
theorem proved : Rows.FnAppendCodeExactSaid := over
end Go.Proofs.Qxb6602675a.fnAppendCodeExact
