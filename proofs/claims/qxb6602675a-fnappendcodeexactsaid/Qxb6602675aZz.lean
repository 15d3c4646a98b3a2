/- The exported appending: the table made, then appendCode. -/
import Derived.Test.Qxb6602675aTable
namespace Go.Proofs.Qxb6602675a
open Go.RowKit

theorem wpList_build_run {P : Program} {ops : Array Oper} {rest : List Oper} {o : Oper} {a : Act} {w : World} {Q : Exit → Act → World → Prop} (hg : o.guard = none) (t : TypeId) (parts : Array (Nat × Operand)) (ho : o.op = .build t parts) (vs : Array (Nat × Value)) (hv : (parts.toList.map fun (i, x) => (i, a.eval x)) = vs.toList) (T : Array Value)
    (hr : (Instr.build t vs).run P w = .ok (.agg T) w) (h : wpList P ops Q rest (a.put o.dst (.agg T)) w) : wpList P ops Q (o :: rest) a w :=
  wpList_plain hg fun _ hK => by
    have hv' : (parts.map fun (i, x) => (i, a.eval x)) = vs := by
      apply Array.ext'
      rw [Array.toList_map]
      exact hv
    unfold Oper.wp execOp
    simp only [ho, hv', Sem.run_bind, Sem.run_pure, Result.andThen_ok, hr]
    exact hK _ _ h

set_option maxHeartbeats 400000 in
theorem zz_of (w : World) (C : Array Value) (hC : C.size = 65536) (a : Option Addr) (n c : Nat) (m : Option Nat) (r : Int) (Q : Ending → World → Prop)
    (h : ∀ W B, Below w.heap.size w W → (∀ i, i < 65536 → W.cell? ⟨B, 23941 + i, none⟩ = C[i]?) → W.cell? ⟨B, 89477, none⟩ = some (.map m) → Calls Try.prog 18 #[.pointer (some ⟨B, 0, none⟩), .slice a n c, .int .i32 r] W fun e w' => ∃ ra rn rc ok, e = .returned (.tuple #[.slice ra rn rc, .bool ok]) ∧ Q e w') :
    Calls Try.prog 14 #[.agg C, .map m, .slice a n c, .int .i32 r] w Q := by
  obtain ⟨T, t1, t2, hbd⟩ := built45 C hC m
  have hra : (w.alloc (.cells C 29)).rangeAt w.heap.size 0 C.toList := by
    have := World.rangeAt_of_block (heap_alloc_new w (.cells C 29)) 0 C.size
    simpa using this
  have hsz : (Try.prog.info? 29).map (·.size) = some C.toList.length := by rw [size29, Array.length_toList, hC]
  have hblk : ((w.alloc (.cells C 29)).alloc (.cells T 45)).heap[w.heap.size + 1]? = some (.cells T 45) := by
    have := heap_alloc_new (w.alloc (.cells C 29)) (.cells T 45)
    rwa [World.size_alloc] at this
  have hcl : ∀ j, ((w.alloc (.cells C 29)).alloc (.cells T 45)).cell? ⟨w.heap.size + 1, j, none⟩ = T[j]? := fun j => by
    unfold World.cell?
    show (match ((w.alloc (.cells C 29)).alloc (.cells T 45)).heap[w.heap.size + 1]? with | some (.cells c _ _) => c[j]? | _ => none) = _
    rw [hblk]
  have HCL := hid hcl
  have HRA := hid hra
  have HSZ := hid hsz
  have HBD := hid hbd
  have H := hid h
  have T1 := hid t1
  have T2 := hid t2
  clear h t1 t2 hC hra hsz hbd hblk hcl
  go_enter Try.func14, Try.ntmps14
  go_wp2_with (first
    | refine wpList_load_mid rfl 29 _ rfl _ _ rfl C.toList _ HRA.out Try.underlying29 rfl HSZ.out ?_
    | refine wpList_build_run rfl 45 _ rfl _ rfl T (HBD.out _) ?_)
  refine (H.out _ (w.heap.size + 1) (((Below.refl _ _).alloc (Nat.le_refl _) _).alloc (by simp) _) (fun i hi => by rw [HCL.out]; exact T1.out i hi) (by rw [HCL.out]; exact T2.out)).mono ?_
  rintro e w2 ⟨ra, rn, rc, ok, rfl, hq⟩
  have HQ := hid hq
  clear hq
  go_wp2_with fail
  exact HQ.out
end Go.Proofs.Qxb6602675a
