/- The second law, walked. -/
import Derived.Test.Qxb6602611aSpec
import Derived.Test.Qxb6602611aXor
namespace Go.Proofs.Qxb6602611a
open Go.RowKit

/-- Cell j of a row of n + 2 bytes of which the two marks and k bytes of the payload are laid. -/
def laid (x y : Int) (ds : List Int) (k j : Nat) : Value := .int .u8 (if j = 0 then x else if j = 1 then y else if j < 2 + k then ds.getD (j - 2) 0 else 0)

theorem laid_in {w : World} {b N : Nat} {x y : Int} {ds : List Int} (hN : ds.length = N) (h : w.rowIs b 5 (N + 2) (laid x y ds N)) : InU .u8 w (some ⟨b, 0, none⟩) (x :: y :: ds) := by
  refine .inr ⟨b, 0, rfl, fun i hi => ?_⟩
  simp only [List.length_cons] at hi
  rw [Nat.zero_add, h.cell (by omega)]
  unfold laid
  match i, hi with
  | 0, _ => rfl
  | 1, _ => rfl
  | i + 2, hi =>
    rw [if_neg (by omega), if_neg (by omega), if_pos (by omega)]
    have : i < ds.length := by omega
    simp [List.getD, this]

theorem laid_step (x y : Int) (ds : List Int) (k : Nat) (z : Int) (hz : ds.getD k 0 = z) (j : Nat) : (if j = 2 + k then Value.int .u8 z else laid x y ds k j) = laid x y ds (k + 1) j := by
  unfold laid
  by_cases e : j = 2 + k
  · subst e
    rw [if_pos rfl, if_neg (by omega), if_neg (by omega), if_pos (by omega), show 2 + k - 2 = k by omega, hz]
  · rw [if_neg e]
    have : (j < 2 + k) ↔ (j < 2 + (k + 1)) := by omega
    simp [this]

theorem made_at {N j : Nat} (hj : j < N + 2) : (madeCells #[.int .u8 0] (N + 2))[j]? = some (.int .u8 0) := by simp [madeCells, hj, Nat.mod_one]

theorem laid_start (W : World) (N : Nat) (x y : Int) (ds : List Int) : (W.alloc (.cells (((madeCells #[.int .u8 0] (N + 2)).setIfInBounds 0 (.int .u8 x)).setIfInBounds 1 (.int .u8 y)) 5)).rowIs W.heap.size 5 (N + 2) (laid x y ds 0) := by
  have hs : (((madeCells #[.int .u8 0] (N + 2)).setIfInBounds 0 (.int .u8 x)).setIfInBounds 1 (.int .u8 y)).size = N + 2 := by simp [madeCells]
  have h := World.rowIs_alloc W (((madeCells #[.int .u8 0] (N + 2)).setIfInBounds 0 (.int .u8 x)).setIfInBounds 1 (.int .u8 y)) 5 (laid x y ds 0) (fun i hi => by
    rw [hs] at hi
    rw [Array.getElem?_setIfInBounds, Array.getElem?_setIfInBounds, made_at hi]
    unfold laid
    by_cases e1 : i = 1
    · subst e1
      simp [madeCells]
    by_cases e0 : i = 0
    · subst e0
      simp [madeCells]
    · rw [if_neg (fun h => e1 h.symm), if_neg (fun h => e0 h.symm), if_neg e0, if_neg e1, if_neg (by omega)])
  rw [hs] at h
  exact h

/-- What the exported reading hands back of a payload ds behind a mark. -/
def Got (w : World) (ds : List Int) (low m : Nat) (e : Ending) (w' : World) : Prop :=
  ∃ bt bu, e = .returned (.tuple #[.slice (some ⟨bt, 0, none⟩) m m, .int .i64 (2 + low : Int), .int .i64 2, .slice (some ⟨bu, 0, none⟩) m m]) ∧
    (∀ i, i < m → w'.cell? ⟨bu, i, none⟩ = some (.int .u16 (unit ds low i)) ∧ w'.cell? ⟨bt, i, none⟩ = some (.int .u8 (min (unit ds low i) 128))) ∧ Below w.heap.size w w'

theorem marked_bytes {x y : Int} {ds : List Int} (hx : 0 ≤ x ∧ x < 256) (hy : 0 ≤ y ∧ y < 256) (hz : ∀ z ∈ ds, 0 ≤ z ∧ z < 256) : ∀ z ∈ x :: y :: ds, 0 ≤ z ∧ z < 256 := by
  intro z h
  simp only [List.mem_cons] at h
  rcases h with rfl | rfl | h
  · exact hx
  · exact hy
  · exact hz z h

theorem got_of {w : World} {b N m low : Nat} {x y : Int} {ds : List Int} (hN : ds.length = N) (hm : N / 2 = m) (h : ∀ c, (x :: y :: ds).length ≤ c → Calls Try.prog 9 #[.slice (some ⟨b, 0, none⟩) (x :: y :: ds).length c] w fun e w' => ∃ v, e = .returned v ∧ Rd16 w (x :: y :: ds) low v w') :
    Calls Try.prog 7 #[.slice (some ⟨b, 0, none⟩) (N + 2) (N + 2)] w (Got w ds low m) := by
  have hL : (x :: y :: ds).length = N + 2 := by simp [hN]
  have h7 := zz16 (h (N + 2) (by omega))
  rw [hL, show (N + 2 - 2) / 2 = m by omega] at h7
  exact h7

theorem swapped_bytes {ys : List Int} (hz : ∀ z ∈ ys, 0 ≤ z ∧ z < 256) : ∀ z ∈ swapped ys, 0 ≤ z ∧ z < 256 := by
  intro z h
  simp only [swapped, List.mem_map] at h
  obtain ⟨i, _, rfl⟩ := h
  rw [List.getD_eq_getElem?_getD]
  by_cases hi : swp ys.length i < ys.length
  · rw [List.getElem?_eq_getElem hi]; exact hz _ (List.getElem_mem hi)
  · rw [List.getElem?_eq_none (by omega)]; simp

theorem unit_swapped {ys : List Int} {i : Nat} (h : i < ys.length / 2) : unit (swapped ys) 1 i = unit ys 0 i := by
  have hs := swp_even ys.length i (by omega)
  unfold unit
  rw [swapped_getD ys _ (by omega), swapped_getD ys _ (by omega), show 2 * i + 1 - 1 = 2 * i by omega, hs.1, hs.2]
  rfl

set_option maxHeartbeats 2000000 in
set_option maxRecDepth 100000 in
theorem orders_good (w : World) (a : Option Addr) (cap N : Nat) (ys : List Int) (hN : ys.length = N) (hr : InU .u8 w a ys) (hz : ∀ z ∈ ys, 0 ≤ z ∧ z < 256) (hl : N ≤ 1048576) :
    Calls Try.prog 4 #[.slice a N cap] w fun e w' => e = .returned (.bool true) ∧ Below w.heap.size w w' := by
  have H8 := hid (bytes8_any w a N cap (by unfold maxLen; omega))
  have HCL := hid (clone_any w a cap ys hr (by omega))
  rw [hN] at HCL
  have HN := hid hN
  have HZ := hid hz
  have hmk : ∀ w, Sem.run Try.prog (Instr.makeSlice 22 (.int .i64 ((N : Int) + 2)) (.int .i64 ((N : Int) + 2))) w = .ok (.slice (some ⟨w.heap.size, 0, none⟩) (N + 2) (N + 2)) (w.alloc (.cells (madeCells #[.int .u8 0] (N + 2)) 5)) := by
    intro w
    have := mk_run (P := Try.prog) 22 5 _ 1 1 Try.underlying22 info5 (N + 2) (N + 2) (Nat.le_refl _) (by omega) (by omega) w
    rw [Nat.mul_one, show ((N + 2 : Nat) : Int) = (N : Int) + 2 by omega] at this
    exact this
  have hmc : ∀ j, j < N + 2 → (madeCells #[.int .u8 0] (N + 2))[j]? = some (.int .u8 0) := fun j hj => made_at (by omega)
  have mc0 := hmc 0 (by omega)
  have mc1 := hmc 1 (by omega)
  clear hr hN hz hmc
  go_enter Try.func4, Try.ntmps4
  go_wp2_with fail
  refine H8.out.mono ?_
  rintro e w1 ⟨rfl, h5⟩
  obtain rfl : e = .returned (.bool true) := by
    rcases h5 with h | h
    · exact h.2
    · omega
  clear h5
  go_wp2_with fail
  refine HCL.out.mono ?_
  rintro e w2 ⟨da, c, rfl, hcc, hin, hb2⟩
  have HIN := hid hin
  have HB2 := hid hb2
  clear hin hb2 hcc
  go_wp2_with fail
  clear hmk mc0 mc1
  go_loopw [6] (fun i wr => ∃ k : Nat, k ≤ N ∧ i = .int .i64 k ∧ wr.rowIs w2.heap.size 5 (N + 2) (laid 255 254 ys k) ∧ wr.rowIs (w2.heap.size + 1) 5 (N + 2) (laid 254 255 (swapped ys) k) ∧ Below w2.heap.size w2 wr) (fun i _ => N - (intOf i).toNat)
  case atStart =>
    refine ⟨0, Nat.zero_le _, rfl, (laid_start w2 N 255 254 ys).alloc _, ?_, ((Below.refl _ _).alloc (Nat.le_refl _) _).alloc (by simp) _⟩
    have h := laid_start (w2.alloc (.cells (((madeCells #[.int .u8 0] (N + 2)).setIfInBounds 0 (.int .u8 255)).setIfInBounds 1 (.int .u8 254)) 5)) N 254 255 (swapped ys)
    rw [World.size_alloc] at h
    exact h
  case round =>
    obtain ⟨k, hk, rfl, hrow, hrow2, hb⟩ := hrel
    by_cases hlt : k < N
    · obtain ⟨b, o, rfl, hc1⟩ := HIN.out.at (i := k) (by rw [HN.out]; exact hlt)
      have hbl : b < w2.heap.size := World.block_lt_of_cell? _ _ hc1
      have hci : ∀ i, i < N → wr.cell? ⟨b, o + i, none⟩ = some (.int .u8 (ys.getD i 0)) := fun i hi => by
        have := HIN.out.cells hb i (by rw [HN.out]; exact hi)
        exact this
      have d1 := hci k hlt
      have hx := xor1 k (by omega)
      have hsw : Hid ((swapped ys).getD k 0 = ys.getD (swp N k) 0) := by
        have := swapped_getD ys k (by rw [HN.out]; exact hlt)
        rw [HN.out] at this
        exact this
      have h1 := hrow.cell (i := 2 + k) (by omega)
      have h2 := hrow.frozen (2 + k)
      have h3 := hrow2.cell (i := 2 + k) (by omega)
      have h4 := hrow2.frozen (2 + k)
      have HR := hid hrow
      have HR2 := hid hrow2
      have HB := hid hb
      have n1 : b ≠ w2.heap.size := by omega
      have n2 : w2.heap.size ≠ b := by omega
      have n3 : b ≠ w2.heap.size + 1 := by omega
      have t1 : (2 + (k : Int)).toNat = 2 + k := by omega
      clear hrow hrow2 hb hc1
      have hg : ∀ z2, (swapped ys).getD k 0 = z2 → ∀ z1, ys.getD k 0 = z1 → ((wr.setCell ⟨w2.heap.size, 2 + k, none⟩ (.int .u8 z1)).setCell ⟨w2.heap.size + 1, 2 + k, none⟩ (.int .u8 z2)).rowIs w2.heap.size 5 (N + 2) (laid 255 254 ys (k + 1)) ∧ ((wr.setCell ⟨w2.heap.size, 2 + k, none⟩ (.int .u8 z1)).setCell ⟨w2.heap.size + 1, 2 + k, none⟩ (.int .u8 z2)).rowIs (w2.heap.size + 1) 5 (N + 2) (laid 254 255 (swapped ys) (k + 1)) ∧ Below w2.heap.size w2 ((wr.setCell ⟨w2.heap.size, 2 + k, none⟩ (.int .u8 z1)).setCell ⟨w2.heap.size + 1, 2 + k, none⟩ (.int .u8 z2)) := by
        intro z2 e2 z1 e1
        refine ⟨((HR.out.set (2 + k) _).setOther (by simp) _).congr fun j _ => laid_step 255 254 ys k z1 e1 j, ((HR2.out.setOther (by simp) _).set (2 + k) _).congr fun j _ => laid_step 254 255 (swapped ys) k z2 e2 j, (HB.out.setCell (Nat.le_refl _) _).setCell (by simp) _⟩
      have HG := hid hg
      clear hg HR HR2 HB
      by_cases ht : twin k < N
      · have d2 := hci (twin k) ht
        have hs2 : Hid (swp N k = twin k) := by simp [Hid, swp, ht]
        rw [hs2.out] at hsw
        clear hci hs2
        generalize hz1 : ys.getD k 0 = z1 at *
        have HZ1 := hid hz1
        clear hz1
        generalize ys.getD (twin k) 0 = z2 at *
        generalize twin k = t at *
        go_wp2_with fail
        go_roundw
        case rel => exact ⟨k + 1, by omega, by go_num, HG.out z2 hsw.out z1 rfl⟩
        case measure => simp [intOf]; omega
      · have hs2 : Hid (swp N k = k) := by simp [Hid, swp, ht]
        rw [hs2.out] at hsw
        clear hci hs2
        generalize hz1 : ys.getD k 0 = z1 at *
        have HZ1 := hid hz1
        clear hz1
        generalize twin k = t at *
        go_wp2_with fail
        go_roundw
        case rel => exact ⟨k + 1, by omega, by go_num, HG.out z1 hsw.out z1 rfl⟩
        case measure => simp [intOf]; omega
    · have hkm : k = N := by omega
      subst hkm
      have i1 := laid_in HN.out hrow
      have i2 := laid_in (by rw [swapped_length]; exact HN.out) hrow2
      have HI1 := hid i1
      have HI2 := hid i2
      have HB := hid (HB2.out.trans (hb.mono HB2.out.size))
      clear i1 i2 hrow hrow2 hb
      have hm0 : Hid (∃ m, k / 2 = m) := ⟨_, rfl⟩
      obtain ⟨m, hm⟩ := hm0.out
      have HM := hid hm
      have hmi : (k : Int) / 2 = (m : Int) := by omega
      have hmk : m ≤ k := by omega
      clear hm hm0
      go_wp2_with fail
      refine (got_of HN.out HM.out (fun c hc => rcu_le wr _ _ c (255 :: 254 :: ys) HI1.out (marked_bytes (by omega) (by omega) HZ.out) (by simp; have := HN.out; omega) hc (pre_le ys))).mono ?_
      rintro e w3 ⟨bt, bu, rfl, hc3, hb3⟩
      have HI4 := hid (HI2.out.below hb3)
      have HC3 := hid hc3
      have HB3 := hid (HB.out.trans (hb3.mono HB.out.size))
      clear hc3 hb3
      go_wp2_with fail
      refine (got_of (by rw [swapped_length]; exact HN.out) HM.out (fun c hc => rcu_be w3 _ _ c (254 :: 255 :: swapped ys) HI4.out (marked_bytes (by omega) (by omega) (swapped_bytes HZ.out)) (by simp [swapped_length]; have := HN.out; omega) hc (pre_be _).1 (pre_be _).2)).mono ?_
      rintro e w4 ⟨bt', bu', rfl, hc4, hb4⟩
      have hcs : ∀ i, i < m → (w4.cell? ⟨bu, i, none⟩ = some (.int .u16 (unit ys 0 i)) ∧ w4.cell? ⟨bt, i, none⟩ = some (.int .u8 (min (unit ys 0 i) 128))) ∧ (w4.cell? ⟨bu', i, none⟩ = some (.int .u16 (unit ys 0 i)) ∧ w4.cell? ⟨bt', i, none⟩ = some (.int .u8 (min (unit ys 0 i) 128))) := by
        intro i hi
        have h1 := HC3.out i hi
        have h2 := hc4 i hi
        rw [unit_swapped (by rw [HN.out, HM.out]; exact hi)] at h2
        exact ⟨⟨(hb4.cell (World.block_lt_of_cell? _ _ h1.1)).trans h1.1, (hb4.cell (World.block_lt_of_cell? _ _ h1.2)).trans h1.2⟩, h2⟩
      have HCS := hid hcs
      have HB4 := hid (HB3.out.trans (hb4.mono HB3.out.size))
      clear hcs hc4 hb4
      go_wp2_with fail
      clear hmi
      go_loopw [17] (fun i wz => ∃ j q : Nat, j ≤ m ∧ i = .int .i64 j ∧ wz = w4.drewN q) (fun i _ => m - (intOf i).toNat)
      case atStart => exact ⟨0, 0, Nat.zero_le _, rfl, rfl⟩
      case round =>
        obtain ⟨j, q, hj, rfl, rfl⟩ := hrel
        by_cases hjl : j < m
        · obtain ⟨⟨c1, c2⟩, c3, c4⟩ := HCS.out j hjl
          generalize unit ys 0 j = U at *
          generalize min U 128 = V at *
          have e1 : (w4.drewN q).cell? ⟨bu, j, none⟩ = some (.int .u16 U) := c1
          have e2 : (w4.drewN q).cell? ⟨bt, j, none⟩ = some (.int .u8 V) := c2
          have e3 : (w4.drewN q).cell? ⟨bu', j, none⟩ = some (.int .u16 U) := c3
          have e4 : (w4.drewN q).cell? ⟨bt', j, none⟩ = some (.int .u8 V) := c4
          have i0 : (0 : Int) ≤ (j : Int) := by omega
          have i1 : (j : Int) < (m : Int) := by omega
          have b1 : (U != U) = false := by simp
          have b2 : (V != V) = false := by simp
          go_wp2_with fail
          go_quiet (fail)
          go_wp2_with fail
          go_roundw
          case rel => exact ⟨j + 1, _, by omega, by go_num, rfl⟩
          case measure => simp [intOf]; omega
        · have hjm : j = m := by omega
          subst hjm
          go_wp2_with fail
          go_ret
          exact ⟨rfl, HB4.out.trans ⟨rfl, rfl, rfl, Nat.le_refl _, fun _ _ => rfl⟩⟩

set_option maxRecDepth 100000 in
theorem orders_long (w : World) (a : Option Addr) (cap N : Nat) (hm : N ≤ maxLen) (hl : ¬ N ≤ 1048576) :
    Calls Try.prog 4 #[.slice a N cap] w fun e w' => e = .returned (.bool true) ∧ Below w.heap.size w w' := by
  have H8 := hid (bytes8_any w a N cap hm)
  go_enter Try.func4, Try.ntmps4
  go_wp2_with fail
  refine H8.out.mono ?_
  rintro e w1 ⟨rfl, h5⟩
  obtain rfl : e = .returned (.bool false) := by
    rcases h5 with h | h
    · omega
    · exact h.2
  go_wp2_with fail
  go_ret
  exact ⟨rfl, Below.refl _ _⟩

theorem orders_walk (w : World) (a : Option Addr) (cap : Nat) (ys : List Int) (hr : InU .u8 w a ys) (hz : ∀ z ∈ ys, 0 ≤ z ∧ z < 256) (hm : ys.length ≤ maxLen) :
    Calls Try.prog 4 #[.slice a ys.length cap] w fun e w' => e = .returned (.bool true) ∧ Below w.heap.size w w' := by
  by_cases hl : ys.length ≤ 1048576
  · exact orders_good w a cap _ ys rfl hr hz hl
  · exact orders_long w a cap _ hm hl
end Go.Proofs.Qxb6602611a
