/- The first law, walked. -/
import Derived.Test.Qxb6602611aZz
namespace Go.Proofs.Qxb6602611a
open Go.RowKit

theorem pre_le (rest : List Int) : Lib.hasPrefix (Lib.bytesOf (255 :: 254 :: rest)) (Lib.bytesOf [255, 254]) = true := by simp [Lib.hasPrefix, Lib.bytesOf]
theorem pre_be (rest : List Int) : Lib.hasPrefix (Lib.bytesOf (254 :: 255 :: rest)) (Lib.bytesOf [255, 254]) = false ∧ Lib.hasPrefix (Lib.bytesOf (254 :: 255 :: rest)) (Lib.bytesOf [254, 255]) = true := by
  constructor
  · simp [Lib.hasPrefix, Lib.bytesOf, List.isPrefixOf]
  · simp [Lib.hasPrefix, Lib.bytesOf]

/-- How the cells of a slice of bytes lie behind calls that keep them. -/
theorem InU.cells {w w' : World} {b o : Nat} {zs : List Int} (h : InU .u8 w (some ⟨b, o, none⟩) zs) (hb : Below w.heap.size w w') : ∀ i, i < zs.length → w'.cell? ⟨b, o + i, none⟩ = some (.int .u8 (zs.getD i 0)) := by
  intro i hi
  obtain ⟨b', o', e, h'⟩ := (h.below hb).at hi
  simp only [Option.some.injEq, Addr.mk.injEq, and_true] at e
  obtain ⟨rfl, rfl⟩ := e
  rw [h']
  simp [List.getD, hi]

set_option maxHeartbeats 2000000 in
set_option maxRecDepth 100000 in
theorem spec_le (w : World) (a : Option Addr) (cap N : Nat) (zs rest : List Int) (hzr : zs = 255 :: 254 :: rest) (hN : zs.length = N) (hr : InU .u8 w a zs) (hz : ∀ z ∈ zs, 0 ≤ z ∧ z < 256) (hl : N ≤ 1048576) :
    Calls Try.prog 3 #[.slice a N cap] w fun e w' => e = .returned (.bool true) ∧ Below w.heap.size w w' := by
  have H5 := hid (bytes5_any w a N cap (by unfold maxLen; omega))
  have HCL := hid (clone_any w a cap zs hr (by omega))
  have hc := fun (w1 : World) (b o c : Nat) (hd : InU .u8 w1 (some ⟨b, o, none⟩) zs) (hcc : zs.length ≤ c) => zz16 (rcu_le w1 b o c zs hd hz (by omega) hcc (by rw [hzr]; exact pre_le rest))
  have HC := hid hc
  have h2 : 2 ≤ N := by rw [← hN, hzr]; simp
  have HZR := hid hzr
  have HZ := hid hz
  rw [hN] at HCL HC
  have HN := hid hN
  clear hc hz hr hzr hN
  go_enter Try.func3, Try.ntmps3
  go_wp2_with fail
  refine H5.out.mono ?_
  rintro e w1 ⟨rfl, h5⟩
  obtain rfl : e = .returned (.bool true) := by
    rcases h5 with h | h
    · exact h.2
    · omega
  clear h5
  go_wp2_with fail
  refine HCL.out.mono ?_
  rintro e w2 ⟨da, c, rfl, hcc, hin, hb2⟩
  obtain ⟨b, o, rfl, -⟩ := hin.at (i := 0) (by rw [HN.out]; omega)
  have HIN := hid hin
  have HB2 := hid hb2
  have HCC := hid hcc
  clear hin hb2 hcc
  go_wp2_with fail
  refine (HC.out w2 b o c HIN.out HCC.out).mono ?_
  rintro e w3 ⟨bt, bu, rfl, hcell, hb3⟩
  have hci := HIN.out.cells hb3
  rw [HN.out] at hci
  have d0 := hci 0 (by omega)
  have d1 := hci 1 (by omega)
  rw [HZR.out] at d0 d1
  simp only [List.getD_cons_zero, List.getD_cons_succ, Nat.add_zero] at d0 d1
  have HCI := hid hci
  have HCE := hid hcell
  have HB3 := hid (HB2.out.trans (hb3.mono HB2.out.size))
  have q25 : ∀ (w : World) (a : Option Addr) (n c n' c' : Nat), (binOp .eql 25 (.slice a n c) (.slice none n' c')).run Try.prog w = .ok (.bool a.isNone) w := fun w a n c n' c' => Lib.run_eql_slice_nil w _ _ a n c n' c' Try.underlying25
  have hm : ((N : Int) - 2) / 2 = (((N - 2) / 2 : Nat) : Int) := by omega
  have h2m : 2 * ((N - 2) / 2) + 2 ≤ N := by omega
  generalize (N - 2) / 2 = m at *
  clear hci hcell hb3
  go_wp2_with fail
  simp only [hm]
  clear hm d0 d1 q25
  go_loopw [12] (fun i wr => ∃ k q : Nat, k ≤ m ∧ i = .int .i64 k ∧ wr = w3.drewN q) (fun i _ => m - (intOf i).toNat)
  case atStart => exact ⟨0, 0, Nat.zero_le _, rfl, rfl⟩
  case round =>
    obtain ⟨k, q, hk, rfl, rfl⟩ := hrel
    by_cases hlt : k < m
    · have c1 : (w3.drewN q).cell? ⟨b, o + (2 + k * 2), none⟩ = _ := HCI.out (2 + k * 2) (by omega)
      have c2 : (w3.drewN q).cell? ⟨b, o + (2 + k * 2 + 1), none⟩ = _ := HCI.out (2 + k * 2 + 1) (by omega)
      have c3 : (w3.drewN q).cell? ⟨bu, k, none⟩ = _ := (HCE.out k hlt).1
      have c4 : (w3.drewN q).cell? ⟨bt, k, none⟩ = _ := (HCE.out k hlt).2
      have hU : Hid (unit (zs.drop 2) 0 k = zs.getD (2 + k * 2) 0 + 256 * zs.getD (2 + k * 2 + 1) 0) := by
        simp only [Hid, unit, List.getD_eq_getElem?_getD, List.getElem?_drop]
        rw [show 2 + (2 * k + 0) = 2 + k * 2 by omega, show 2 + (2 * k + 1 - 0) = 2 + k * 2 + 1 by omega]
      have g : ∀ j, j < N → 0 ≤ zs.getD j 0 ∧ zs.getD j 0 < 256 := fun j hj => by
        rw [List.getD_eq_getElem?_getD, List.getElem?_eq_getElem (by rw [HN.out]; exact hj)]
        exact HZ.out _ (List.getElem_mem _)
      have g1 := g (2 + k * 2) (by omega)
      have g2 := g (2 + k * 2 + 1) (by omega)
      generalize zs.getD (2 + k * 2) 0 = z1 at *
      generalize zs.getD (2 + k * 2 + 1) 0 = z2 at *
      generalize unit (zs.drop 2) 0 k = U at *
      have u1 : U % 256 = z1 := by have := hU.out; omega
      have u2 : U / 256 = z2 := by have := hU.out; omega
      have u3 : 0 ≤ U ∧ U < 65536 := by have := hU.out; omega
      clear g
      by_cases hU8 : U < 128
      · rw [Int.min_eq_left (by omega)] at c4
        have u4 : U % 256 = U := by omega
        have u5 : z1 = U := by omega
        subst u5
        have i0 : (0 : Int) ≤ (k : Int) := by omega
        have i1 : (k : Int) < (m : Int) := by omega
        have e3 : w3.cell? ⟨bu, k, none⟩ = some (.int .u16 z1) := c3
        have e4 : w3.cell? ⟨bt, k, none⟩ = some (.int .u8 z1) := c4
        go_wp2_with fail
        go_quiet (fail)
        go_wp2_with fail
        go_roundw
        case rel => exact ⟨k + 1, _, by omega, by go_num, rfl⟩
        case measure => simp [intOf]; omega
      · rw [Int.min_eq_right (by omega)] at c4
        go_wp2_with fail
        go_roundw
        case rel => exact ⟨k + 1, _, by omega, by go_num, rfl⟩
        case measure => simp [intOf]; omega
    · have hkm : k = m := by omega
      subst hkm
      go_wp2_with fail
      go_ret
      exact ⟨rfl, HB3.out.trans ⟨rfl, rfl, rfl, Nat.le_refl _, fun _ _ => rfl⟩⟩

set_option maxHeartbeats 2000000 in
set_option maxRecDepth 100000 in
theorem spec_be (w : World) (a : Option Addr) (cap N : Nat) (zs rest : List Int) (hzr : zs = 254 :: 255 :: rest) (hN : zs.length = N) (hr : InU .u8 w a zs) (hz : ∀ z ∈ zs, 0 ≤ z ∧ z < 256) (hl : N ≤ 1048576) :
    Calls Try.prog 3 #[.slice a N cap] w fun e w' => e = .returned (.bool true) ∧ Below w.heap.size w w' := by
  have H5 := hid (bytes5_any w a N cap (by unfold maxLen; omega))
  have HCL := hid (clone_any w a cap zs hr (by omega))
  have hc := fun (w1 : World) (b o c : Nat) (hd : InU .u8 w1 (some ⟨b, o, none⟩) zs) (hcc : zs.length ≤ c) => zz16 (rcu_be w1 b o c zs hd hz (by omega) hcc (by rw [hzr]; exact (pre_be rest).1) (by rw [hzr]; exact (pre_be rest).2))
  have HC := hid hc
  have h2 : 2 ≤ N := by rw [← hN, hzr]; simp
  have HZR := hid hzr
  have HZ := hid hz
  rw [hN] at HCL HC
  have HN := hid hN
  clear hc hz hr hzr hN
  go_enter Try.func3, Try.ntmps3
  go_wp2_with fail
  refine H5.out.mono ?_
  rintro e w1 ⟨rfl, h5⟩
  obtain rfl : e = .returned (.bool true) := by
    rcases h5 with h | h
    · exact h.2
    · omega
  clear h5
  go_wp2_with fail
  refine HCL.out.mono ?_
  rintro e w2 ⟨da, c, rfl, hcc, hin, hb2⟩
  obtain ⟨b, o, rfl, -⟩ := hin.at (i := 0) (by rw [HN.out]; omega)
  have HIN := hid hin
  have HB2 := hid hb2
  have HCC := hid hcc
  clear hin hb2 hcc
  go_wp2_with fail
  refine (HC.out w2 b o c HIN.out HCC.out).mono ?_
  rintro e w3 ⟨bt, bu, rfl, hcell, hb3⟩
  have hci := HIN.out.cells hb3
  rw [HN.out] at hci
  have d0 := hci 0 (by omega)
  have d1 := hci 1 (by omega)
  rw [HZR.out] at d0 d1
  simp only [List.getD_cons_zero, List.getD_cons_succ, Nat.add_zero] at d0 d1
  have HCI := hid hci
  have HCE := hid hcell
  have HB3 := hid (HB2.out.trans (hb3.mono HB2.out.size))
  have q25 : ∀ (w : World) (a : Option Addr) (n c n' c' : Nat), (binOp .eql 25 (.slice a n c) (.slice none n' c')).run Try.prog w = .ok (.bool a.isNone) w := fun w a n c n' c' => Lib.run_eql_slice_nil w _ _ a n c n' c' Try.underlying25
  have hm : ((N : Int) - 2) / 2 = (((N - 2) / 2 : Nat) : Int) := by omega
  have h2m : 2 * ((N - 2) / 2) + 2 ≤ N := by omega
  generalize (N - 2) / 2 = m at *
  clear hci hcell hb3
  go_wp2_with fail
  simp only [hm]
  clear hm d0 d1 q25
  go_loopw [12] (fun i wr => ∃ k q : Nat, k ≤ m ∧ i = .int .i64 k ∧ wr = w3.drewN q) (fun i _ => m - (intOf i).toNat)
  case atStart => exact ⟨0, 0, Nat.zero_le _, rfl, rfl⟩
  case round =>
    obtain ⟨k, q, hk, rfl, rfl⟩ := hrel
    by_cases hlt : k < m
    · have c1 : (w3.drewN q).cell? ⟨b, o + (3 + k * 2), none⟩ = _ := HCI.out (3 + k * 2) (by omega)
      have c2 : (w3.drewN q).cell? ⟨b, o + (2 + k * 2), none⟩ = _ := HCI.out (2 + k * 2) (by omega)
      have c3 : (w3.drewN q).cell? ⟨bu, k, none⟩ = _ := (HCE.out k hlt).1
      have c4 : (w3.drewN q).cell? ⟨bt, k, none⟩ = _ := (HCE.out k hlt).2
      have hU : Hid (unit (zs.drop 2) 1 k = zs.getD (3 + k * 2) 0 + 256 * zs.getD (2 + k * 2) 0) := by
        simp only [Hid, unit, List.getD_eq_getElem?_getD, List.getElem?_drop]
        rw [show 2 + (2 * k + 1) = 3 + k * 2 by omega, show 2 + (2 * k + 1 - 1) = 2 + k * 2 by omega]
      have g : ∀ j, j < N → 0 ≤ zs.getD j 0 ∧ zs.getD j 0 < 256 := fun j hj => by
        rw [List.getD_eq_getElem?_getD, List.getElem?_eq_getElem (by rw [HN.out]; exact hj)]
        exact HZ.out _ (List.getElem_mem _)
      have g1 := g (3 + k * 2) (by omega)
      have g2 := g (2 + k * 2) (by omega)
      generalize zs.getD (3 + k * 2) 0 = z1 at *
      generalize zs.getD (2 + k * 2) 0 = z2 at *
      have t1 : (3 + (k : Int) * 2 + -1).toNat = 2 + k * 2 := by omega
      generalize unit (zs.drop 2) 1 k = U at *
      have u1 : U % 256 = z1 := by have := hU.out; omega
      have u2 : U / 256 = z2 := by have := hU.out; omega
      have u3 : 0 ≤ U ∧ U < 65536 := by have := hU.out; omega
      clear g
      by_cases hU8 : U < 128
      · rw [Int.min_eq_left (by omega)] at c4
        have u4 : U % 256 = U := by omega
        have u5 : z1 = U := by omega
        subst u5
        have i0 : (0 : Int) ≤ (k : Int) := by omega
        have i1 : (k : Int) < (m : Int) := by omega
        have e3 : w3.cell? ⟨bu, k, none⟩ = some (.int .u16 z1) := c3
        have e4 : w3.cell? ⟨bt, k, none⟩ = some (.int .u8 z1) := c4
        go_wp2_with fail
        go_quiet (fail)
        go_wp2_with fail
        go_roundw
        case rel => exact ⟨k + 1, _, by omega, by go_num, rfl⟩
        case measure => simp [intOf]; omega
      · rw [Int.min_eq_right (by omega)] at c4
        go_wp2_with fail
        go_roundw
        case rel => exact ⟨k + 1, _, by omega, by go_num, rfl⟩
        case measure => simp [intOf]; omega
    · have hkm : k = m := by omega
      subst hkm
      go_wp2_with fail
      go_ret
      exact ⟨rfl, HB3.out.trans ⟨rfl, rfl, rfl, Nat.le_refl _, fun _ _ => rfl⟩⟩
end Go.Proofs.Qxb6602611a
