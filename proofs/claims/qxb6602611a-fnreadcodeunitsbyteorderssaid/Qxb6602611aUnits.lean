/- The two byte orders' units. -/
import Derived.Test.Qxb6602611aBase
import Derived.Deep.RegionHeld3
import Derived.Laws.BitsLemmas
namespace Go.Proofs.Qxb6602611a
open Go.RowKit

theorem wr16 (n : Int) (h₀ : 0 ≤ n) (h₁ : n < 2 ^ 16) : IntKind.u16.wrap n = n := by
  simp [IntKind.wrap, IntKind.bits, IntKind.signed]
  omega
theorem join8 (a b : Int) (ha : 0 ≤ a ∧ a < 256) (hb : 0 ≤ b ∧ b < 256) : bits .or .u16 a (b * 256) = a + 256 * b := by
  have hc : bits .or .u16 a (b * 256) = bits .or .u16 (b * 256) a := by simp only [bits, BitVec.or_comm]
  rw [hc, bits_join .u16 16 (by decide) wr16 8 (b * 256) a (by omega) (by omega) (by omega) ha.1 (by omega) (by omega)]
  omega
theorem wr64 (x : Int) (h0 : 0 ≤ x) (h1 : x ≤ 9223372036854775807) : IntKind.i64.wrap x = x := by rw [IntKind.wrap_i64]; omega

/-- The cells of an empty answer. -/
def zeroU : Nat → Value
  | 0 => .slice none 0 0
  | 1 => .int .i64 0
  | 2 => .int .i64 0
  | _ => .slice none 0 0

/-- Unit i of the text zs, the low byte at the offset low of each pair. -/
def unit (zs : List Int) (low i : Nat) : Int := zs.getD (2 * i + low) 0 + 256 * zs.getD (2 * i + 1 - low) 0

theorem unit_bd {zs : List Int} (hz : ∀ z ∈ zs, 0 ≤ z ∧ z < 256) (low i : Nat) : 0 ≤ unit zs low i ∧ unit zs low i < 65536 := by
  have g : ∀ j, 0 ≤ zs.getD j 0 ∧ zs.getD j 0 < 256 := fun j => by
    rw [List.getD_eq_getElem?_getD]
    by_cases h : j < zs.length
    · rw [List.getElem?_eq_getElem h]; exact hz _ (List.getElem_mem h)
    · rw [List.getElem?_eq_none (by omega)]; simp
  have h1 := g (2 * i + low)
  have h2 := g (2 * i + 1 - low)
  unfold unit
  omega

set_option maxHeartbeats 1000000 in
theorem units_any (w : World) (ao : Option Addr) (cap low : Nat) (zs : List Int) (hr : InU .u8 w ao zs) (hz : ∀ z ∈ zs, 0 ≤ z ∧ z < 256) (hl : zs.length ≤ 1048578) (hlow : low ≤ 1) :
    Calls Try.prog 11 #[.slice ao zs.length cap, .int .i64 (low : Int)] w fun e w' => e = .returned (.agg #[.slice (some ⟨w.heap.size + 2, 0, none⟩) (zs.length / 2) (zs.length / 2), .int .i64 (2 + low : Int), .int .i64 2, .slice (some ⟨w.heap.size + 1, 0, none⟩) (zs.length / 2) (zs.length / 2)]) ∧
      (∀ i, i < zs.length / 2 → w'.cell? ⟨w.heap.size + 1, i, none⟩ = some (.int .u16 (unit zs low i)) ∧ w'.cell? ⟨w.heap.size + 2, i, none⟩ = some (.int .u8 (min (unit zs low i) 128))) ∧ Below w.heap.size w w' := by
  have hq : (zs.length : Int) / 2 = ((zs.length / 2 : Nat) : Int) := by omega
  have h2m : 2 * (zs.length / 2) ≤ zs.length := by omega
  generalize zs.length / 2 = m at *
  have hm1 : ∀ w, Sem.run Try.prog (Instr.makeSlice 25 (.int .i64 ((zs.length : Int) / 2)) (.int .i64 ((zs.length : Int) / 2))) w = .ok (.slice (some ⟨w.heap.size, 0, none⟩) m m) (w.alloc (.cells (madeCells #[.int .u16 0] m) 28)) := by
    intro w
    rw [hq]
    have := mk_run (P := Try.prog) 25 28 _ 1 2 Try.underlying25 info28 m m (Nat.le_refl _) (by omega) (by omega) w
    rwa [Nat.mul_one] at this
  have hm2 : ∀ w, Sem.run Try.prog (Instr.makeSlice 22 (.int .i64 (m : Int)) (.int .i64 (m : Int))) w = .ok (.slice (some ⟨w.heap.size, 0, none⟩) m m) (w.alloc (.cells (madeCells #[.int .u8 0] m) 5)) := by
    intro w
    have := mk_run (P := Try.prog) 22 5 _ 1 1 Try.underlying22 info5 m m (Nat.le_refl _) (by omega) (by omega) w
    rwa [Nat.mul_one] at this
  clear hq
  go_enter Try.func11, Try.ntmps11
  go_wp2
  clear hm1 hm2
  go_loopw [17] (fun i wr => ∃ k : Nat, k ≤ m ∧ i = .int .i64 k ∧ wr.rowIs w.heap.size 31 4 zeroU ∧ wr.rowIs (w.heap.size + 1) 28 m (fun j => .int .u16 (if j < k then unit zs low j else 0)) ∧ wr.rowIs (w.heap.size + 1 + 1) 5 m (fun j => .int .u8 (if j < k then min (unit zs low j) 128 else 0)) ∧ Below w.heap.size w wr) (fun i _ => m - (intOf i).toNat)
  case atStart =>
    refine ⟨0, Nat.zero_le _, rfl, ?_, ?_, ?_, (((Below.refl _ _).alloc (Nat.le_refl _) _).alloc (by simp) _).alloc (by simp; omega) _⟩
    · refine ((World.rowIs_alloc w #[.slice none 0 0, .int .i64 0, .int .i64 0, .slice none 0 0] 31 zeroU ?_).alloc _).alloc _
      intro i hi
      match i, hi with
      | 0, _ => rfl
      | 1, _ => rfl
      | 2, _ => rfl
      | 3, _ => rfl
    · have h := World.rowIs_made (w.alloc (.cells #[.slice none 0 0, .int .i64 0, .int .i64 0, .slice none 0 0] 31)) (.int .u16 0) m 28
      rw [World.size_alloc] at h
      simpa using h.alloc _
    · have h := World.rowIs_made ((w.alloc (.cells #[.slice none 0 0, .int .i64 0, .int .i64 0, .slice none 0 0] 31)).alloc (.cells (madeCells #[.int .u16 0] m) 28)) (.int .u8 0) m 5
      rw [World.size_alloc, World.size_alloc] at h
      simpa using h
  case round =>
    obtain ⟨k, hk, rfl, hst, hrow, hrow2, hb⟩ := hrel
    by_cases hlt : k < m
    · obtain ⟨b, off, rfl, hc1⟩ := hr.at (i := 2 * k + low) (by omega)
      obtain ⟨b', off', hab, hc2⟩ := hr.at (i := 2 * k + 1 - low) (by omega)
      simp only [Option.some.injEq, Addr.mk.injEq, and_true] at hab
      obtain ⟨rfl, rfl⟩ := hab
      have hbl : b < w.heap.size := World.block_lt_of_cell? _ _ hc1
      have hd1 := (hb.cell (p := ⟨b, off + (2 * k + low), none⟩) hbl).trans hc1
      have hd2 := (hb.cell (p := ⟨b, off + (2 * k + 1 - low), none⟩) hbl).trans hc2
      have hu : Hid (unit zs low k = zs[2 * k + low]'(by omega) + 256 * zs[2 * k + 1 - low]'(by omega)) := by
        simp only [Hid, unit, List.getD_eq_getElem?_getD]
        rw [List.getElem?_eq_getElem (by omega), List.getElem?_eq_getElem (by omega)]
        rfl
      have hz1 := hz _ (List.getElem_mem (show 2 * k + low < zs.length by omega))
      have hz2 := hz _ (List.getElem_mem (show 2 * k + 1 - low < zs.length by omega))
      generalize zs[2 * k + low]'(by omega) = z1 at *
      generalize zs[2 * k + 1 - low]'(by omega) = z2 at *
      have h1 := hrow.cell hlt
      have h2 := hrow.frozen k
      have h3 := hrow2.cell hlt
      have h4 := hrow2.frozen k
      rw [if_neg (by omega)] at h1 h3
      have HR := hid hrow
      have HR2 := hid hrow2
      have HB := hid hb
      have HS := hid hst
      clear hr hc1 hc2 hrow hrow2 hb hst
      have i0 : (0 : Int) ≤ 2 * (k : Int) + (low : Int) := by omega
      have i1 : 2 * (k : Int) + (low : Int) < (zs.length : Int) := by omega
      have j0 : (0 : Int) ≤ 2 * (k : Int) + 1 - (low : Int) := by omega
      have j1 : 2 * (k : Int) + 1 - (low : Int) < (zs.length : Int) := by omega
      have t1 : (2 * (k : Int) + (low : Int)).toNat = 2 * k + low := by omega
      have t2 : (2 * (k : Int) + 1 - (low : Int)).toNat = 2 * k + 1 - low := by omega
      have j0' : (low : Int) ≤ 2 * (k : Int) + 1 := by omega
      have n1 : b ≠ w.heap.size + 1 := by omega
      have n1' : w.heap.size + 1 ≠ b := by omega
      have n2 : b ≠ w.heap.size + 1 + 1 := by omega
      have n3 : w.heap.size + 1 ≠ w.heap.size + 1 + 1 := by omega
      have n4 : w.heap.size + 1 + 1 ≠ w.heap.size + 1 := by omega
      have v1 := wr16 z1 hz1.1 (by omega)
      have v2 := wr16 z2 hz2.1 (by omega)
      have v3 := wr16 (z2 * 256) (by omega) (by omega)
      have v4 := join8 z1 z2 hz1 hz2
      have hU := hu.out.symm
      rw [hU] at v4
      have hub := unit_bd hz low k
      clear hU
      have HU : Hid (∃ U, U = unit zs low k) := ⟨_, rfl⟩
      obtain ⟨U, hU⟩ := HU.out
      rw [← hU] at v4 hub
      have HU2 := hid hU
      clear hU hz
      have w1 := wr64 (2 * (k : Int)) (by omega) (by omega)
      have w2 := wr64 (2 * (k : Int) + (low : Int)) (by omega) (by omega)
      have w3 := wr64 (2 * (k : Int) + 1) (by omega) (by omega)
      have w4 := wr64 (2 * (k : Int) + 1 - (low : Int)) (by omega) (by omega)
      go_wp2_with fail
      go_region_held3 (fun w' => w'.cell? ⟨b, off + (2 * k + low), none⟩ = some (.int .u8 z1) ∧ w'.cell? ⟨b, off + (2 * k + 1 - low), none⟩ = some (.int .u8 z2)) (go_keep) (fail)
      clear w1 w2 w3 w4 v1 v2 v3 v4
      go_wp2_with fail
      go_roundw
      case rel =>
        have hmin : (if 128 < U then 128 else U) = min U 128 := by split <;> omega
        refine ⟨k + 1, by omega, by go_num, (((HS.out.setOther (by simp) _).setOther (by simp; omega) _).drew), (((HR.out.set k _).setOther (by simp) _).drew).congr fun j hj => ?_, (((HR2.out.setOther (by simp) _).set k _).drew).congr fun j hj => ?_, ((HB.out.setCell (by simp) _).setCell (by simp; omega) _).drew⟩
        · by_cases e : j = k
          · subst e; rw [if_pos rfl, if_pos (by omega), HU2.out]
          · have : (j < k) ↔ (j < k + 1) := by omega
            simp [e, this]
        · by_cases e : j = k
          · subst e; rw [if_pos rfl, hmin, if_pos (by omega), HU2.out]
          · have : (j < k) ↔ (j < k + 1) := by omega
            simp [e, this]
      case measure => simp [intOf]; omega
    · have hkm : k = m := by omega
      subst hkm
      have x0 := hst.cell (i := 0) (by omega)
      have x1 := hst.cell (i := 1) (by omega)
      have x2 := hst.cell (i := 2) (by omega)
      have x3 := hst.cell (i := 3) (by omega)
      have y0 := hst.frozen 0
      have y1 := hst.frozen 1
      have y2 := hst.frozen 2
      have y3 := hst.frozen 3
      have HR := hid hrow
      have HR2 := hid hrow2
      have HB := hid hb
      clear hrow hrow2 hb hst hlt
      go_wp2_with fail
      refine bodyPost_ret (v := .agg #[.slice (some ⟨w.heap.size + 2, 0, none⟩) k k, .int .i64 (2 + low : Int), .int .i64 2, .slice (some ⟨w.heap.size + 1, 0, none⟩) k k]) (by simp [results, Try.results11, go_sem, x0, x1, x2, x3]) rfl ⟨rfl, fun i hi => ⟨?_, ?_⟩, ?_⟩
      · have h := ((((HR.out.setOther (a := ⟨w.heap.size, 0, none⟩) (by simp) (.slice (some ⟨w.heap.size + 1 + 1, 0, none⟩) k k)).setOther (a := ⟨w.heap.size, 1, none⟩) (by simp) (.int .i64 (2 + low : Int))).setOther (a := ⟨w.heap.size, 2, none⟩) (by simp) (.int .i64 2)).setOther (a := ⟨w.heap.size, 3, none⟩) (by simp) (.slice (some ⟨w.heap.size + 1, 0, none⟩) k k)).cell hi
        rw [h, if_pos hi]
      · have h := ((((HR2.out.setOther (a := ⟨w.heap.size, 0, none⟩) (by simp; omega) (.slice (some ⟨w.heap.size + 1 + 1, 0, none⟩) k k)).setOther (a := ⟨w.heap.size, 1, none⟩) (by simp; omega) (.int .i64 (2 + low : Int))).setOther (a := ⟨w.heap.size, 2, none⟩) (by simp; omega) (.int .i64 2)).setOther (a := ⟨w.heap.size, 3, none⟩) (by simp; omega) (.slice (some ⟨w.heap.size + 1, 0, none⟩) k k)).cell hi
        rw [if_pos hi] at h
        exact h
      · exact (((HB.out.setCell (Nat.le_refl _) _).setCell (Nat.le_refl _) _).setCell (Nat.le_refl _) _).setCell (Nat.le_refl _) _
end Go.Proofs.Qxb6602611a
