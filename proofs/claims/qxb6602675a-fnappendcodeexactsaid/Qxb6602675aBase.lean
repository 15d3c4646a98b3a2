/- The copy of the bytes that came in. -/
import Derived.Test.Qxb6602675aProg
import Derived.WalkKit
import Derived.Below
import Derived.BigQuiet
import Derived.Deep.QuietTactic
import Derived.Deep.OwnRows
import Derived.Laws.CopyOwn
import Derived.Laws.BytesArg
import Derived.Lib.SliceRun
import Derived.WalkSpells
namespace Go.Proofs.Qxb6602675a
open Go.RowKit

theorem hid {p : Prop} (h : p) : Hid p := h

theorem info5 : (Try.prog.info? 5).map (fun i => (i.zero, i.size, i.bytes)) = some (some (.int .u8 0), 1, 1) := by kernel_rfl

theorem mk_run {P : Program} (t e : TypeId) (z : Value) (size bytes : Nat) (ht : P.underlying t = some (.slice e)) (hinfo : (P.info? e).map (fun i => (i.zero, i.size, i.bytes)) = some (some z, size, bytes))
    (l c : Nat) (hlc : l ≤ c) (hb : bytes * c ≤ 281474976710656) (h63 : c ≤ 9223372036854775807) (w : World) :
    Sem.run P (Instr.makeSlice t (.int .i64 (l : Int)) (.int .i64 (c : Int))) w = .ok (.slice (some ⟨w.heap.size, 0, none⟩) l c) (w.alloc (.cells (madeCells z.cells (c * size)) e)) := by
  obtain ⟨i, hi, hz, hs, hby⟩ := info_parts hinfo
  have hb' : (i.bytes : Int) * (c : Int) ≤ 281474976710656 := by
    rw [hby]
    have h : ((bytes * c : Nat) : Int) ≤ 281474976710656 := by omega
    rwa [Int.natCast_mul] at h
  have := run_make (P := P) w t e i z ht hi hz .i64 .i64 l c (by omega) (by omega) hb' (by omega)
  simpa [hs] using this

/-- A slice of bytes. -/
def InU (k : IntKind) (w : World) (ao : Option Addr) (zs : List Int) : Prop :=
  zs = [] ∨ ∃ b off, ao = some ⟨b, off, none⟩ ∧ ∀ i (h : i < zs.length), w.cell? ⟨b, off + i, none⟩ = some (.int k zs[i])

theorem InU.at {k : IntKind} {w : World} {ao : Option Addr} {zs : List Int} (hr : InU k w ao zs) {i : Nat} (h : i < zs.length) : ∃ b off, ao = some ⟨b, off, none⟩ ∧ w.cell? ⟨b, off + i, none⟩ = some (.int k zs[i]) := by
  rcases hr with rfl | ⟨b, off, e, hc⟩
  · simp at h
  · exact ⟨b, off, e, hc i h⟩

theorem InU.below {k : IntKind} {w w' : World} {ao : Option Addr} {zs : List Int} (hr : InU k w ao zs) (hb : Below w.heap.size w w') : InU k w' ao zs := by
  rcases hr with rfl | ⟨b, off, e, hc⟩
  · exact .inl rfl
  · exact .inr ⟨b, off, e, fun i hi => (hb.cell (World.block_lt_of_cell? _ _ (hc i hi))).trans (hc i hi)⟩

theorem q31 (w : World) (a : Option Addr) (n c n' c' : Nat) : (binOp .eql 31 (.slice a n c) (.slice none n' c')).run Try.prog w = .ok (.bool a.isNone) w := Lib.run_eql_slice_nil w _ _ a n c n' c' Try.underlying31

theorem clone_nil (w : World) (n c : Nat) :
    Calls Try.prog 13 #[.slice none n c] w fun e w' => e = .returned (.slice none 0 0) ∧ w' = w := by
  have q := q31
  go_enter Try.func13, Try.ntmps13
  go_wp2
  go_ret
  exact ⟨rfl, rfl⟩

theorem clone_some (w : World) (a : Addr) (cap : Nat) (zs : List Int) (hr : InU .u8 w (some a) zs) (hl : zs.length ≤ 1048576) :
    Calls Try.prog 13 #[.slice (some a) zs.length cap] w fun e w' => e = .returned (.slice (some ⟨w.heap.size, 0, none⟩) zs.length zs.length) ∧ w'.rowIs w.heap.size 5 zs.length (fun j => .int .u8 (zs.getD j 0)) ∧ Below w.heap.size w w' := by
  have hmk := mk_run (P := Try.prog) 31 5 _ 1 1 Try.underlying31 info5 zs.length zs.length (Nat.le_refl _) (by omega) (by omega)
  have q := q31
  go_enter Try.func13, Try.ntmps13
  go_wp2
  clear hmk
  go_loopw [4] (fun i wr => ∃ k : Nat, k ≤ zs.length ∧ i = .int .i64 k ∧ wr.rowIs w.heap.size 5 zs.length (fun j => .int .u8 (if j < k then zs.getD j 0 else 0)) ∧ Below w.heap.size w wr) (fun i _ => zs.length - (intOf i).toNat)
  case atStart => exact ⟨0, Nat.zero_le _, rfl, by simpa using World.rowIs_made _ _ _ _, (Below.refl _ _).alloc (Nat.le_refl _) _⟩
  case round =>
    obtain ⟨k, hk, rfl, hrow, hb⟩ := hrel
    by_cases hlt : k < zs.length
    · obtain ⟨b, off, hab, hcell⟩ := hr.at hlt
      simp only [Option.some.injEq] at hab
      subst hab
      have hcell' : wr.cell? ⟨b, off + k, none⟩ = some (.int .u8 zs[k]) := (hb.cell (p := ⟨b, off + k, none⟩) (World.block_lt_of_cell? _ _ hcell)).trans hcell
      have hg : Hid (zs.getD k 0 = zs[k]) := by simp [Hid, List.getD, hlt]
      have h1 := hrow.cell hlt
      have h2 := hrow.frozen k
      have HR := hid hrow
      have HB := hid hb
      clear hr hcell hrow hb
      generalize zs[k] = L at *
      go_wp2
      go_roundw
      case rel =>
        refine ⟨k + 1, by omega, by go_num, (HR.out.set k _).congr fun j hj => ?_, HB.out.setCell (Nat.le_refl _) _⟩
        by_cases e : j = k
        · subst e; rw [if_pos rfl, if_pos (by omega), hg.out]
        · have : (j < k) ↔ (j < k + 1) := by omega
          simp [e, this]
      case measure => simp [intOf]; omega
    · go_wp2
      go_ret
      exact ⟨rfl, hrow.congr fun j hj => by rw [if_pos (by omega)], hb⟩

theorem clone_any (w : World) (a : Option Addr) (cap : Nat) (zs : List Int) (hr : InU .u8 w a zs) (hl : zs.length ≤ 1048576) :
    Calls Try.prog 13 #[.slice a zs.length cap] w fun e w' => (a = none ∧ e = .returned (.slice none 0 0) ∧ w' = w) ∨
      (a ≠ none ∧ e = .returned (.slice (some ⟨w.heap.size, 0, none⟩) zs.length zs.length) ∧ w'.rowIs w.heap.size 5 zs.length (fun j => .int .u8 (zs.getD j 0)) ∧ Below w.heap.size w w') := by
  cases a with
  | none =>
    refine (clone_nil w _ cap).mono ?_
    rintro e w' ⟨rfl, rfl⟩
    exact .inl ⟨rfl, rfl, rfl⟩
  | some a =>
    refine (clone_some w a cap zs hr hl).mono ?_
    rintro e w' ⟨rfl, h2, h3⟩
    exact .inr ⟨by simp, rfl, h2, h3⟩
end Go.Proofs.Qxb6602675a
