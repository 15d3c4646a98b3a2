/- The first law, walked where no mark leads. -/
import Derived.Test.Qxb6602611aSpec8
namespace Go.Proofs.Qxb6602611a
open Go.RowKit

set_option maxHeartbeats 4000000 in
set_option maxRecDepth 100000 in
theorem spec_p0 (w : World) (a : Option Addr) (cap N : Nat) (zs : List Int) (hA : Lib.hasPrefix (Lib.bytesOf zs) (Lib.bytesOf [255, 254]) = false) (hB : Lib.hasPrefix (Lib.bytesOf zs) (Lib.bytesOf [254, 255]) = false) (hC : Lib.hasPrefix (Lib.bytesOf zs) (Lib.bytesOf [239, 187, 191]) = false) (hN : zs.length = N) (hr : InU .u8 w a zs) (hl : N ≤ 1048576) (h2 : N < 2) :
    Calls Try.prog 3 #[.slice a N cap] w fun e w' => e = .returned (.bool true) ∧ Below w.heap.size w w' := by
  have H5 := hid (bytes5_any w a N cap (by unfold maxLen; omega))
  have HCL := hid (clone_any w a cap zs hr (by omega))
  have hc := fun (w1 : World) (da : Option Addr) (c : Nat) (hd : InU .u8 w1 da zs) (hcc : zs.length ≤ c) => zz8 (rcu_plain w1 da c zs hd hcc hA hB hC)
  have HC := hid hc
  rw [hN] at HCL HC
  have HN := hid hN
  clear hc hr hN hA hB hC
  go_enter Try.func3, Try.ntmps3
  go_wp2_with fail
  refine H5.out.mono ?_
  rintro e w1 ⟨rfl, h5⟩
  obtain rfl : e = .returned (.bool true) := by
    rcases h5 with h | h
    · exact h.2
    · omega
  clear h5
  go_wp2_with fail
  refine HCL.out.mono ?_
  rintro e w2 ⟨da, c, rfl, hcc, hin, hb2⟩
  have HIN := hid hin
  have HB2 := hid hb2
  have HCC := hid hcc
  clear hin hb2 hcc
  go_wp2_with fail
  refine (HC.out w2 _ c HIN.out HCC.out).mono ?_
  rintro e w3 ⟨ra, c', rfl, hin3, hb3⟩
  have HIN4 := hid (HIN.out.below hb3)
  have HIN3 := hid hin3
  have HB3 := hid (HB2.out.trans (hb3.mono HB2.out.size))
  have q25 : ∀ (w : World) (a : Option Addr) (n c n' c' : Nat), (binOp .neq 25 (.slice a n c) (.slice none n' c')).run Try.prog w = .ok (.bool (!a.isNone)) w := fun w a n c n' c' => run_neq_slice_nil_any w _ _ a n c n' c' Try.underlying25
  rw [Nat.sub_zero]
  clear hin3 hb3
  go_wp2_with fail
  go_loopw [16] (fun i wr => ∃ k q : Nat, k ≤ N ∧ i = .int .i64 k ∧ wr = w3.drewN q) (fun i _ => N - (intOf i).toNat)
  case atStart => exact ⟨0, 0, Nat.zero_le _, rfl, rfl⟩
  case round =>
    obtain ⟨k, q, hk, rfl, rfl⟩ := hrel
    by_cases hlt : k < N
    · have hlen : (zs.drop 0).length = N := by rw [List.drop_zero, HN.out]
      obtain ⟨b', o', rfl, c2⟩ := HIN3.out.at (i := k) (by rw [hlen]; exact hlt)
      obtain ⟨b, o, rfl, c1⟩ := HIN4.out.at (i := k) (by rw [HN.out]; exact hlt)
      have hg : zs[k]'(by rw [HN.out]; exact hlt) = (zs.drop 0)[k]'(by rw [hlen]; exact hlt) := by simp
      rw [hg] at c1
      clear hg
      generalize (zs.drop 0)[k]'(by rw [hlen]; exact hlt) = z at *
      clear hlen
      have i0 : (0 : Int) ≤ (k : Int) := by omega
      have i1 : (k : Int) < (N : Int) := by omega
      have t1 : ((k : Int)).toNat = k := by omega
      have w1' := wr64 (k : Int) (by omega) (by omega)
      go_wp2_with fail
      go_quiet (fail)
      clear w1'
      go_wp2_with fail
      go_roundw
      case rel => exact ⟨k + 1, _, by omega, by go_num, rfl⟩
      case measure => simp [intOf]; omega
    · have hkm : k = N := by omega
      clear hkm
      go_wp2_with fail
      go_ret
      exact ⟨rfl, HB3.out.trans ⟨rfl, rfl, rfl, Nat.le_refl _, fun _ _ => rfl⟩⟩

set_option maxHeartbeats 4000000 in
set_option maxRecDepth 100000 in
theorem spec_p2A (w : World) (a : Option Addr) (cap N : Nat) (zs : List Int) (hA : Lib.hasPrefix (Lib.bytesOf zs) (Lib.bytesOf [255, 254]) = false) (hB : Lib.hasPrefix (Lib.bytesOf zs) (Lib.bytesOf [254, 255]) = false) (hC : Lib.hasPrefix (Lib.bytesOf zs) (Lib.bytesOf [239, 187, 191]) = false) (f0 : zs.getD 0 0 = 255) (f1 : zs.getD 1 0 ≠ 254) (hN : zs.length = N) (hr : InU .u8 w a zs) (hl : N ≤ 1048576) (h2 : 2 ≤ N) (h3 : N < 3) :
    Calls Try.prog 3 #[.slice a N cap] w fun e w' => e = .returned (.bool true) ∧ Below w.heap.size w w' := by
  have H5 := hid (bytes5_any w a N cap (by unfold maxLen; omega))
  have HCL := hid (clone_any w a cap zs hr (by omega))
  have hc := fun (w1 : World) (da : Option Addr) (c : Nat) (hd : InU .u8 w1 da zs) (hcc : zs.length ≤ c) => zz8 (rcu_plain w1 da c zs hd hcc hA hB hC)
  have HC := hid hc
  rw [hN] at HCL HC
  have HN := hid hN
  clear hc hr hN hA hB hC
  go_enter Try.func3, Try.ntmps3
  go_wp2_with fail
  refine H5.out.mono ?_
  rintro e w1 ⟨rfl, h5⟩
  obtain rfl : e = .returned (.bool true) := by
    rcases h5 with h | h
    · exact h.2
    · omega
  clear h5
  go_wp2_with fail
  refine HCL.out.mono ?_
  rintro e w2 ⟨da, c, rfl, hcc, hin, hb2⟩
  obtain ⟨b, o, rfl, -⟩ := hin.at (i := 0) (by rw [HN.out]; omega)
  have HIN := hid hin
  have HB2 := hid hb2
  have HCC := hid hcc
  clear hin hb2 hcc
  go_wp2_with fail
  refine (HC.out w2 _ c HIN.out HCC.out).mono ?_
  rintro e w3 ⟨ra, c', rfl, hin3, hb3⟩
  have hci := HIN.out.cells hb3
  rw [HN.out] at hci
  have d0 := hci 0 (by omega)
  have d1 := hci 1 (by omega)
  simp only [Nat.add_zero] at d0
  have HCI := hid hci
  have HIN3 := hid hin3
  have HB3 := hid (HB2.out.trans (hb3.mono HB2.out.size))
  have q25 : ∀ (w : World) (a : Option Addr) (n c n' c' : Nat), (binOp .neq 25 (.slice a n c) (.slice none n' c')).run Try.prog w = .ok (.bool (!a.isNone)) w := fun w a n c n' c' => run_neq_slice_nil_any w _ _ a n c n' c' Try.underlying25
  rw [Nat.sub_zero]
  clear hci hin3 hb3
  rw [f0] at d0
  clear f0
  have f1' : (zs.getD 1 0 == 254) = false := beq_eq_false_iff_ne.2 f1
  clear f1
  generalize zs.getD 0 0 = z0 at *
  generalize zs.getD 1 0 = z1 at *
  go_wp2_with fail
  go_loopw [16] (fun i wr => ∃ k q : Nat, k ≤ N ∧ i = .int .i64 k ∧ wr = w3.drewN q) (fun i _ => N - (intOf i).toNat)
  case atStart => exact ⟨0, 0, Nat.zero_le _, rfl, rfl⟩
  case round =>
    obtain ⟨k, q, hk, rfl, rfl⟩ := hrel
    by_cases hlt : k < N
    · have hlen : (zs.drop 0).length = N := by rw [List.drop_zero, HN.out]
      obtain ⟨b', o', rfl, c2⟩ := HIN3.out.at (i := k) (by rw [hlen]; exact hlt)
      have c1 : w3.cell? ⟨b, o + k, none⟩ = _ := HCI.out k (by omega)
      have hg : zs.getD k 0 = (zs.drop 0)[k]'(by rw [hlen]; exact hlt) := by
        rw [List.getD_eq_getElem?_getD, List.getElem?_eq_getElem (by rw [HN.out]; omega)]
        simp
      rw [hg] at c1
      clear hg
      generalize (zs.drop 0)[k]'(by rw [hlen]; exact hlt) = z at *
      clear hlen
      have i0 : (0 : Int) ≤ (k : Int) := by omega
      have i1 : (k : Int) < (N : Int) := by omega
      have t1 : ((k : Int)).toNat = k := by omega
      have w1' := wr64 (k : Int) (by omega) (by omega)
      go_wp2_with fail
      go_quiet (fail)
      clear w1'
      go_wp2_with fail
      go_roundw
      case rel => exact ⟨k + 1, _, by omega, by go_num, rfl⟩
      case measure => simp [intOf]; omega
    · have hkm : k = N := by omega
      clear hkm
      go_wp2_with fail
      go_ret
      exact ⟨rfl, HB3.out.trans ⟨rfl, rfl, rfl, Nat.le_refl _, fun _ _ => rfl⟩⟩

set_option maxHeartbeats 4000000 in
set_option maxRecDepth 100000 in
theorem spec_p2B (w : World) (a : Option Addr) (cap N : Nat) (zs : List Int) (hA : Lib.hasPrefix (Lib.bytesOf zs) (Lib.bytesOf [255, 254]) = false) (hB : Lib.hasPrefix (Lib.bytesOf zs) (Lib.bytesOf [254, 255]) = false) (hC : Lib.hasPrefix (Lib.bytesOf zs) (Lib.bytesOf [239, 187, 191]) = false) (f0 : zs.getD 0 0 = 254) (f1 : zs.getD 1 0 ≠ 255) (hN : zs.length = N) (hr : InU .u8 w a zs) (hl : N ≤ 1048576) (h2 : 2 ≤ N) (h3 : N < 3) :
    Calls Try.prog 3 #[.slice a N cap] w fun e w' => e = .returned (.bool true) ∧ Below w.heap.size w w' := by
  have H5 := hid (bytes5_any w a N cap (by unfold maxLen; omega))
  have HCL := hid (clone_any w a cap zs hr (by omega))
  have hc := fun (w1 : World) (da : Option Addr) (c : Nat) (hd : InU .u8 w1 da zs) (hcc : zs.length ≤ c) => zz8 (rcu_plain w1 da c zs hd hcc hA hB hC)
  have HC := hid hc
  rw [hN] at HCL HC
  have HN := hid hN
  clear hc hr hN hA hB hC
  go_enter Try.func3, Try.ntmps3
  go_wp2_with fail
  refine H5.out.mono ?_
  rintro e w1 ⟨rfl, h5⟩
  obtain rfl : e = .returned (.bool true) := by
    rcases h5 with h | h
    · exact h.2
    · omega
  clear h5
  go_wp2_with fail
  refine HCL.out.mono ?_
  rintro e w2 ⟨da, c, rfl, hcc, hin, hb2⟩
  obtain ⟨b, o, rfl, -⟩ := hin.at (i := 0) (by rw [HN.out]; omega)
  have HIN := hid hin
  have HB2 := hid hb2
  have HCC := hid hcc
  clear hin hb2 hcc
  go_wp2_with fail
  refine (HC.out w2 _ c HIN.out HCC.out).mono ?_
  rintro e w3 ⟨ra, c', rfl, hin3, hb3⟩
  have hci := HIN.out.cells hb3
  rw [HN.out] at hci
  have d0 := hci 0 (by omega)
  have d1 := hci 1 (by omega)
  simp only [Nat.add_zero] at d0
  have HCI := hid hci
  have HIN3 := hid hin3
  have HB3 := hid (HB2.out.trans (hb3.mono HB2.out.size))
  have q25 : ∀ (w : World) (a : Option Addr) (n c n' c' : Nat), (binOp .neq 25 (.slice a n c) (.slice none n' c')).run Try.prog w = .ok (.bool (!a.isNone)) w := fun w a n c n' c' => run_neq_slice_nil_any w _ _ a n c n' c' Try.underlying25
  rw [Nat.sub_zero]
  clear hci hin3 hb3
  rw [f0] at d0
  clear f0
  have f1' : (zs.getD 1 0 == 255) = false := beq_eq_false_iff_ne.2 f1
  clear f1
  generalize zs.getD 0 0 = z0 at *
  generalize zs.getD 1 0 = z1 at *
  go_wp2_with fail
  go_loopw [16] (fun i wr => ∃ k q : Nat, k ≤ N ∧ i = .int .i64 k ∧ wr = w3.drewN q) (fun i _ => N - (intOf i).toNat)
  case atStart => exact ⟨0, 0, Nat.zero_le _, rfl, rfl⟩
  case round =>
    obtain ⟨k, q, hk, rfl, rfl⟩ := hrel
    by_cases hlt : k < N
    · have hlen : (zs.drop 0).length = N := by rw [List.drop_zero, HN.out]
      obtain ⟨b', o', rfl, c2⟩ := HIN3.out.at (i := k) (by rw [hlen]; exact hlt)
      have c1 : w3.cell? ⟨b, o + k, none⟩ = _ := HCI.out k (by omega)
      have hg : zs.getD k 0 = (zs.drop 0)[k]'(by rw [hlen]; exact hlt) := by
        rw [List.getD_eq_getElem?_getD, List.getElem?_eq_getElem (by rw [HN.out]; omega)]
        simp
      rw [hg] at c1
      clear hg
      generalize (zs.drop 0)[k]'(by rw [hlen]; exact hlt) = z at *
      clear hlen
      have i0 : (0 : Int) ≤ (k : Int) := by omega
      have i1 : (k : Int) < (N : Int) := by omega
      have t1 : ((k : Int)).toNat = k := by omega
      have w1' := wr64 (k : Int) (by omega) (by omega)
      go_wp2_with fail
      go_quiet (fail)
      clear w1'
      go_wp2_with fail
      go_roundw
      case rel => exact ⟨k + 1, _, by omega, by go_num, rfl⟩
      case measure => simp [intOf]; omega
    · have hkm : k = N := by omega
      clear hkm
      go_wp2_with fail
      go_ret
      exact ⟨rfl, HB3.out.trans ⟨rfl, rfl, rfl, Nat.le_refl _, fun _ _ => rfl⟩⟩

set_option maxHeartbeats 4000000 in
set_option maxRecDepth 100000 in
theorem spec_p2C (w : World) (a : Option Addr) (cap N : Nat) (zs : List Int) (hA : Lib.hasPrefix (Lib.bytesOf zs) (Lib.bytesOf [255, 254]) = false) (hB : Lib.hasPrefix (Lib.bytesOf zs) (Lib.bytesOf [254, 255]) = false) (hC : Lib.hasPrefix (Lib.bytesOf zs) (Lib.bytesOf [239, 187, 191]) = false) (f0 : zs.getD 0 0 ≠ 255) (f1 : zs.getD 0 0 ≠ 254) (f2 : zs.getD 0 0 ≠ 239) (hN : zs.length = N) (hr : InU .u8 w a zs) (hl : N ≤ 1048576) (h2 : 2 ≤ N) (h3 : N < 3) :
    Calls Try.prog 3 #[.slice a N cap] w fun e w' => e = .returned (.bool true) ∧ Below w.heap.size w w' := by
  have H5 := hid (bytes5_any w a N cap (by unfold maxLen; omega))
  have HCL := hid (clone_any w a cap zs hr (by omega))
  have hc := fun (w1 : World) (da : Option Addr) (c : Nat) (hd : InU .u8 w1 da zs) (hcc : zs.length ≤ c) => zz8 (rcu_plain w1 da c zs hd hcc hA hB hC)
  have HC := hid hc
  rw [hN] at HCL HC
  have HN := hid hN
  clear hc hr hN hA hB hC
  go_enter Try.func3, Try.ntmps3
  go_wp2_with fail
  refine H5.out.mono ?_
  rintro e w1 ⟨rfl, h5⟩
  obtain rfl : e = .returned (.bool true) := by
    rcases h5 with h | h
    · exact h.2
    · omega
  clear h5
  go_wp2_with fail
  refine HCL.out.mono ?_
  rintro e w2 ⟨da, c, rfl, hcc, hin, hb2⟩
  obtain ⟨b, o, rfl, -⟩ := hin.at (i := 0) (by rw [HN.out]; omega)
  have HIN := hid hin
  have HB2 := hid hb2
  have HCC := hid hcc
  clear hin hb2 hcc
  go_wp2_with fail
  refine (HC.out w2 _ c HIN.out HCC.out).mono ?_
  rintro e w3 ⟨ra, c', rfl, hin3, hb3⟩
  have hci := HIN.out.cells hb3
  rw [HN.out] at hci
  have d0 := hci 0 (by omega)
  have d1 := hci 1 (by omega)
  simp only [Nat.add_zero] at d0
  have HCI := hid hci
  have HIN3 := hid hin3
  have HB3 := hid (HB2.out.trans (hb3.mono HB2.out.size))
  have q25 : ∀ (w : World) (a : Option Addr) (n c n' c' : Nat), (binOp .neq 25 (.slice a n c) (.slice none n' c')).run Try.prog w = .ok (.bool (!a.isNone)) w := fun w a n c n' c' => run_neq_slice_nil_any w _ _ a n c n' c' Try.underlying25
  rw [Nat.sub_zero]
  clear hci hin3 hb3
  have f0' : (zs.getD 0 0 == 255) = false := beq_eq_false_iff_ne.2 f0
  clear f0
  have f1' : (zs.getD 0 0 == 254) = false := beq_eq_false_iff_ne.2 f1
  clear f1
  have f2' : (zs.getD 0 0 == 239) = false := beq_eq_false_iff_ne.2 f2
  clear f2
  generalize zs.getD 0 0 = z0 at *
  generalize zs.getD 1 0 = z1 at *
  go_wp2_with fail
  go_loopw [16] (fun i wr => ∃ k q : Nat, k ≤ N ∧ i = .int .i64 k ∧ wr = w3.drewN q) (fun i _ => N - (intOf i).toNat)
  case atStart => exact ⟨0, 0, Nat.zero_le _, rfl, rfl⟩
  case round =>
    obtain ⟨k, q, hk, rfl, rfl⟩ := hrel
    by_cases hlt : k < N
    · have hlen : (zs.drop 0).length = N := by rw [List.drop_zero, HN.out]
      obtain ⟨b', o', rfl, c2⟩ := HIN3.out.at (i := k) (by rw [hlen]; exact hlt)
      have c1 : w3.cell? ⟨b, o + k, none⟩ = _ := HCI.out k (by omega)
      have hg : zs.getD k 0 = (zs.drop 0)[k]'(by rw [hlen]; exact hlt) := by
        rw [List.getD_eq_getElem?_getD, List.getElem?_eq_getElem (by rw [HN.out]; omega)]
        simp
      rw [hg] at c1
      clear hg
      generalize (zs.drop 0)[k]'(by rw [hlen]; exact hlt) = z at *
      clear hlen
      have i0 : (0 : Int) ≤ (k : Int) := by omega
      have i1 : (k : Int) < (N : Int) := by omega
      have t1 : ((k : Int)).toNat = k := by omega
      have w1' := wr64 (k : Int) (by omega) (by omega)
      go_wp2_with fail
      go_quiet (fail)
      clear w1'
      go_wp2_with fail
      go_roundw
      case rel => exact ⟨k + 1, _, by omega, by go_num, rfl⟩
      case measure => simp [intOf]; omega
    · have hkm : k = N := by omega
      clear hkm
      go_wp2_with fail
      go_ret
      exact ⟨rfl, HB3.out.trans ⟨rfl, rfl, rfl, Nat.le_refl _, fun _ _ => rfl⟩⟩

set_option maxHeartbeats 4000000 in
set_option maxRecDepth 100000 in
theorem spec_p2D (w : World) (a : Option Addr) (cap N : Nat) (zs : List Int) (hA : Lib.hasPrefix (Lib.bytesOf zs) (Lib.bytesOf [255, 254]) = false) (hB : Lib.hasPrefix (Lib.bytesOf zs) (Lib.bytesOf [254, 255]) = false) (hC : Lib.hasPrefix (Lib.bytesOf zs) (Lib.bytesOf [239, 187, 191]) = false) (f0 : zs.getD 0 0 = 239) (hN : zs.length = N) (hr : InU .u8 w a zs) (hl : N ≤ 1048576) (h2 : 2 ≤ N) (h3 : N < 3) :
    Calls Try.prog 3 #[.slice a N cap] w fun e w' => e = .returned (.bool true) ∧ Below w.heap.size w w' := by
  have H5 := hid (bytes5_any w a N cap (by unfold maxLen; omega))
  have HCL := hid (clone_any w a cap zs hr (by omega))
  have hc := fun (w1 : World) (da : Option Addr) (c : Nat) (hd : InU .u8 w1 da zs) (hcc : zs.length ≤ c) => zz8 (rcu_plain w1 da c zs hd hcc hA hB hC)
  have HC := hid hc
  rw [hN] at HCL HC
  have HN := hid hN
  clear hc hr hN hA hB hC
  go_enter Try.func3, Try.ntmps3
  go_wp2_with fail
  refine H5.out.mono ?_
  rintro e w1 ⟨rfl, h5⟩
  obtain rfl : e = .returned (.bool true) := by
    rcases h5 with h | h
    · exact h.2
    · omega
  clear h5
  go_wp2_with fail
  refine HCL.out.mono ?_
  rintro e w2 ⟨da, c, rfl, hcc, hin, hb2⟩
  obtain ⟨b, o, rfl, -⟩ := hin.at (i := 0) (by rw [HN.out]; omega)
  have HIN := hid hin
  have HB2 := hid hb2
  have HCC := hid hcc
  clear hin hb2 hcc
  go_wp2_with fail
  refine (HC.out w2 _ c HIN.out HCC.out).mono ?_
  rintro e w3 ⟨ra, c', rfl, hin3, hb3⟩
  have hci := HIN.out.cells hb3
  rw [HN.out] at hci
  have d0 := hci 0 (by omega)
  have d1 := hci 1 (by omega)
  simp only [Nat.add_zero] at d0
  have HCI := hid hci
  have HIN3 := hid hin3
  have HB3 := hid (HB2.out.trans (hb3.mono HB2.out.size))
  have q25 : ∀ (w : World) (a : Option Addr) (n c n' c' : Nat), (binOp .neq 25 (.slice a n c) (.slice none n' c')).run Try.prog w = .ok (.bool (!a.isNone)) w := fun w a n c n' c' => run_neq_slice_nil_any w _ _ a n c n' c' Try.underlying25
  rw [Nat.sub_zero]
  clear hci hin3 hb3
  rw [f0] at d0
  clear f0
  generalize zs.getD 0 0 = z0 at *
  generalize zs.getD 1 0 = z1 at *
  go_wp2_with fail
  go_loopw [16] (fun i wr => ∃ k q : Nat, k ≤ N ∧ i = .int .i64 k ∧ wr = w3.drewN q) (fun i _ => N - (intOf i).toNat)
  case atStart => exact ⟨0, 0, Nat.zero_le _, rfl, rfl⟩
  case round =>
    obtain ⟨k, q, hk, rfl, rfl⟩ := hrel
    by_cases hlt : k < N
    · have hlen : (zs.drop 0).length = N := by rw [List.drop_zero, HN.out]
      obtain ⟨b', o', rfl, c2⟩ := HIN3.out.at (i := k) (by rw [hlen]; exact hlt)
      have c1 : w3.cell? ⟨b, o + k, none⟩ = _ := HCI.out k (by omega)
      have hg : zs.getD k 0 = (zs.drop 0)[k]'(by rw [hlen]; exact hlt) := by
        rw [List.getD_eq_getElem?_getD, List.getElem?_eq_getElem (by rw [HN.out]; omega)]
        simp
      rw [hg] at c1
      clear hg
      generalize (zs.drop 0)[k]'(by rw [hlen]; exact hlt) = z at *
      clear hlen
      have i0 : (0 : Int) ≤ (k : Int) := by omega
      have i1 : (k : Int) < (N : Int) := by omega
      have t1 : ((k : Int)).toNat = k := by omega
      have w1' := wr64 (k : Int) (by omega) (by omega)
      go_wp2_with fail
      go_quiet (fail)
      clear w1'
      go_wp2_with fail
      go_roundw
      case rel => exact ⟨k + 1, _, by omega, by go_num, rfl⟩
      case measure => simp [intOf]; omega
    · have hkm : k = N := by omega
      clear hkm
      go_wp2_with fail
      go_ret
      exact ⟨rfl, HB3.out.trans ⟨rfl, rfl, rfl, Nat.le_refl _, fun _ _ => rfl⟩⟩

set_option maxHeartbeats 4000000 in
set_option maxRecDepth 100000 in
theorem spec_p3A (w : World) (a : Option Addr) (cap N : Nat) (zs : List Int) (hA : Lib.hasPrefix (Lib.bytesOf zs) (Lib.bytesOf [255, 254]) = false) (hB : Lib.hasPrefix (Lib.bytesOf zs) (Lib.bytesOf [254, 255]) = false) (hC : Lib.hasPrefix (Lib.bytesOf zs) (Lib.bytesOf [239, 187, 191]) = false) (f0 : zs.getD 0 0 = 255) (f1 : zs.getD 1 0 ≠ 254) (hN : zs.length = N) (hr : InU .u8 w a zs) (hl : N ≤ 1048576) (h2 : 3 ≤ N) :
    Calls Try.prog 3 #[.slice a N cap] w fun e w' => e = .returned (.bool true) ∧ Below w.heap.size w w' := by
  have H5 := hid (bytes5_any w a N cap (by unfold maxLen; omega))
  have HCL := hid (clone_any w a cap zs hr (by omega))
  have hc := fun (w1 : World) (da : Option Addr) (c : Nat) (hd : InU .u8 w1 da zs) (hcc : zs.length ≤ c) => zz8 (rcu_plain w1 da c zs hd hcc hA hB hC)
  have HC := hid hc
  rw [hN] at HCL HC
  have HN := hid hN
  clear hc hr hN hA hB hC
  go_enter Try.func3, Try.ntmps3
  go_wp2_with fail
  refine H5.out.mono ?_
  rintro e w1 ⟨rfl, h5⟩
  obtain rfl : e = .returned (.bool true) := by
    rcases h5 with h | h
    · exact h.2
    · omega
  clear h5
  go_wp2_with fail
  refine HCL.out.mono ?_
  rintro e w2 ⟨da, c, rfl, hcc, hin, hb2⟩
  obtain ⟨b, o, rfl, -⟩ := hin.at (i := 0) (by rw [HN.out]; omega)
  have HIN := hid hin
  have HB2 := hid hb2
  have HCC := hid hcc
  clear hin hb2 hcc
  go_wp2_with fail
  refine (HC.out w2 _ c HIN.out HCC.out).mono ?_
  rintro e w3 ⟨ra, c', rfl, hin3, hb3⟩
  have hci := HIN.out.cells hb3
  rw [HN.out] at hci
  have d0 := hci 0 (by omega)
  have d1 := hci 1 (by omega)
  have d2 := hci 2 (by omega)
  simp only [Nat.add_zero] at d0
  have HCI := hid hci
  have HIN3 := hid hin3
  have HB3 := hid (HB2.out.trans (hb3.mono HB2.out.size))
  have q25 : ∀ (w : World) (a : Option Addr) (n c n' c' : Nat), (binOp .neq 25 (.slice a n c) (.slice none n' c')).run Try.prog w = .ok (.bool (!a.isNone)) w := fun w a n c n' c' => run_neq_slice_nil_any w _ _ a n c n' c' Try.underlying25
  rw [Nat.sub_zero]
  clear hci hin3 hb3
  rw [f0] at d0
  clear f0
  have f1' : (zs.getD 1 0 == 254) = false := beq_eq_false_iff_ne.2 f1
  clear f1
  generalize zs.getD 0 0 = z0 at *
  generalize zs.getD 1 0 = z1 at *
  generalize zs.getD 2 0 = z2 at *
  go_wp2_with fail
  go_loopw [16] (fun i wr => ∃ k q : Nat, k ≤ N ∧ i = .int .i64 k ∧ wr = w3.drewN q) (fun i _ => N - (intOf i).toNat)
  case atStart => exact ⟨0, 0, Nat.zero_le _, rfl, rfl⟩
  case round =>
    obtain ⟨k, q, hk, rfl, rfl⟩ := hrel
    by_cases hlt : k < N
    · have hlen : (zs.drop 0).length = N := by rw [List.drop_zero, HN.out]
      obtain ⟨b', o', rfl, c2⟩ := HIN3.out.at (i := k) (by rw [hlen]; exact hlt)
      have c1 : w3.cell? ⟨b, o + k, none⟩ = _ := HCI.out k (by omega)
      have hg : zs.getD k 0 = (zs.drop 0)[k]'(by rw [hlen]; exact hlt) := by
        rw [List.getD_eq_getElem?_getD, List.getElem?_eq_getElem (by rw [HN.out]; omega)]
        simp
      rw [hg] at c1
      clear hg
      generalize (zs.drop 0)[k]'(by rw [hlen]; exact hlt) = z at *
      clear hlen
      have i0 : (0 : Int) ≤ (k : Int) := by omega
      have i1 : (k : Int) < (N : Int) := by omega
      have t1 : ((k : Int)).toNat = k := by omega
      have w1' := wr64 (k : Int) (by omega) (by omega)
      go_wp2_with fail
      go_quiet (fail)
      clear w1'
      go_wp2_with fail
      go_roundw
      case rel => exact ⟨k + 1, _, by omega, by go_num, rfl⟩
      case measure => simp [intOf]; omega
    · have hkm : k = N := by omega
      clear hkm
      go_wp2_with fail
      go_ret
      exact ⟨rfl, HB3.out.trans ⟨rfl, rfl, rfl, Nat.le_refl _, fun _ _ => rfl⟩⟩

set_option maxHeartbeats 4000000 in
set_option maxRecDepth 100000 in
theorem spec_p3B (w : World) (a : Option Addr) (cap N : Nat) (zs : List Int) (hA : Lib.hasPrefix (Lib.bytesOf zs) (Lib.bytesOf [255, 254]) = false) (hB : Lib.hasPrefix (Lib.bytesOf zs) (Lib.bytesOf [254, 255]) = false) (hC : Lib.hasPrefix (Lib.bytesOf zs) (Lib.bytesOf [239, 187, 191]) = false) (f0 : zs.getD 0 0 = 254) (f1 : zs.getD 1 0 ≠ 255) (hN : zs.length = N) (hr : InU .u8 w a zs) (hl : N ≤ 1048576) (h2 : 3 ≤ N) :
    Calls Try.prog 3 #[.slice a N cap] w fun e w' => e = .returned (.bool true) ∧ Below w.heap.size w w' := by
  have H5 := hid (bytes5_any w a N cap (by unfold maxLen; omega))
  have HCL := hid (clone_any w a cap zs hr (by omega))
  have hc := fun (w1 : World) (da : Option Addr) (c : Nat) (hd : InU .u8 w1 da zs) (hcc : zs.length ≤ c) => zz8 (rcu_plain w1 da c zs hd hcc hA hB hC)
  have HC := hid hc
  rw [hN] at HCL HC
  have HN := hid hN
  clear hc hr hN hA hB hC
  go_enter Try.func3, Try.ntmps3
  go_wp2_with fail
  refine H5.out.mono ?_
  rintro e w1 ⟨rfl, h5⟩
  obtain rfl : e = .returned (.bool true) := by
    rcases h5 with h | h
    · exact h.2
    · omega
  clear h5
  go_wp2_with fail
  refine HCL.out.mono ?_
  rintro e w2 ⟨da, c, rfl, hcc, hin, hb2⟩
  obtain ⟨b, o, rfl, -⟩ := hin.at (i := 0) (by rw [HN.out]; omega)
  have HIN := hid hin
  have HB2 := hid hb2
  have HCC := hid hcc
  clear hin hb2 hcc
  go_wp2_with fail
  refine (HC.out w2 _ c HIN.out HCC.out).mono ?_
  rintro e w3 ⟨ra, c', rfl, hin3, hb3⟩
  have hci := HIN.out.cells hb3
  rw [HN.out] at hci
  have d0 := hci 0 (by omega)
  have d1 := hci 1 (by omega)
  have d2 := hci 2 (by omega)
  simp only [Nat.add_zero] at d0
  have HCI := hid hci
  have HIN3 := hid hin3
  have HB3 := hid (HB2.out.trans (hb3.mono HB2.out.size))
  have q25 : ∀ (w : World) (a : Option Addr) (n c n' c' : Nat), (binOp .neq 25 (.slice a n c) (.slice none n' c')).run Try.prog w = .ok (.bool (!a.isNone)) w := fun w a n c n' c' => run_neq_slice_nil_any w _ _ a n c n' c' Try.underlying25
  rw [Nat.sub_zero]
  clear hci hin3 hb3
  rw [f0] at d0
  clear f0
  have f1' : (zs.getD 1 0 == 255) = false := beq_eq_false_iff_ne.2 f1
  clear f1
  generalize zs.getD 0 0 = z0 at *
  generalize zs.getD 1 0 = z1 at *
  generalize zs.getD 2 0 = z2 at *
  go_wp2_with fail
  go_loopw [16] (fun i wr => ∃ k q : Nat, k ≤ N ∧ i = .int .i64 k ∧ wr = w3.drewN q) (fun i _ => N - (intOf i).toNat)
  case atStart => exact ⟨0, 0, Nat.zero_le _, rfl, rfl⟩
  case round =>
    obtain ⟨k, q, hk, rfl, rfl⟩ := hrel
    by_cases hlt : k < N
    · have hlen : (zs.drop 0).length = N := by rw [List.drop_zero, HN.out]
      obtain ⟨b', o', rfl, c2⟩ := HIN3.out.at (i := k) (by rw [hlen]; exact hlt)
      have c1 : w3.cell? ⟨b, o + k, none⟩ = _ := HCI.out k (by omega)
      have hg : zs.getD k 0 = (zs.drop 0)[k]'(by rw [hlen]; exact hlt) := by
        rw [List.getD_eq_getElem?_getD, List.getElem?_eq_getElem (by rw [HN.out]; omega)]
        simp
      rw [hg] at c1
      clear hg
      generalize (zs.drop 0)[k]'(by rw [hlen]; exact hlt) = z at *
      clear hlen
      have i0 : (0 : Int) ≤ (k : Int) := by omega
      have i1 : (k : Int) < (N : Int) := by omega
      have t1 : ((k : Int)).toNat = k := by omega
      have w1' := wr64 (k : Int) (by omega) (by omega)
      go_wp2_with fail
      go_quiet (fail)
      clear w1'
      go_wp2_with fail
      go_roundw
      case rel => exact ⟨k + 1, _, by omega, by go_num, rfl⟩
      case measure => simp [intOf]; omega
    · have hkm : k = N := by omega
      clear hkm
      go_wp2_with fail
      go_ret
      exact ⟨rfl, HB3.out.trans ⟨rfl, rfl, rfl, Nat.le_refl _, fun _ _ => rfl⟩⟩

set_option maxHeartbeats 4000000 in
set_option maxRecDepth 100000 in
theorem spec_p3C (w : World) (a : Option Addr) (cap N : Nat) (zs : List Int) (hA : Lib.hasPrefix (Lib.bytesOf zs) (Lib.bytesOf [255, 254]) = false) (hB : Lib.hasPrefix (Lib.bytesOf zs) (Lib.bytesOf [254, 255]) = false) (hC : Lib.hasPrefix (Lib.bytesOf zs) (Lib.bytesOf [239, 187, 191]) = false) (f0 : zs.getD 0 0 ≠ 255) (f1 : zs.getD 0 0 ≠ 254) (f2 : zs.getD 0 0 ≠ 239) (hN : zs.length = N) (hr : InU .u8 w a zs) (hl : N ≤ 1048576) (h2 : 3 ≤ N) :
    Calls Try.prog 3 #[.slice a N cap] w fun e w' => e = .returned (.bool true) ∧ Below w.heap.size w w' := by
  have H5 := hid (bytes5_any w a N cap (by unfold maxLen; omega))
  have HCL := hid (clone_any w a cap zs hr (by omega))
  have hc := fun (w1 : World) (da : Option Addr) (c : Nat) (hd : InU .u8 w1 da zs) (hcc : zs.length ≤ c) => zz8 (rcu_plain w1 da c zs hd hcc hA hB hC)
  have HC := hid hc
  rw [hN] at HCL HC
  have HN := hid hN
  clear hc hr hN hA hB hC
  go_enter Try.func3, Try.ntmps3
  go_wp2_with fail
  refine H5.out.mono ?_
  rintro e w1 ⟨rfl, h5⟩
  obtain rfl : e = .returned (.bool true) := by
    rcases h5 with h | h
    · exact h.2
    · omega
  clear h5
  go_wp2_with fail
  refine HCL.out.mono ?_
  rintro e w2 ⟨da, c, rfl, hcc, hin, hb2⟩
  obtain ⟨b, o, rfl, -⟩ := hin.at (i := 0) (by rw [HN.out]; omega)
  have HIN := hid hin
  have HB2 := hid hb2
  have HCC := hid hcc
  clear hin hb2 hcc
  go_wp2_with fail
  refine (HC.out w2 _ c HIN.out HCC.out).mono ?_
  rintro e w3 ⟨ra, c', rfl, hin3, hb3⟩
  have hci := HIN.out.cells hb3
  rw [HN.out] at hci
  have d0 := hci 0 (by omega)
  have d1 := hci 1 (by omega)
  have d2 := hci 2 (by omega)
  simp only [Nat.add_zero] at d0
  have HCI := hid hci
  have HIN3 := hid hin3
  have HB3 := hid (HB2.out.trans (hb3.mono HB2.out.size))
  have q25 : ∀ (w : World) (a : Option Addr) (n c n' c' : Nat), (binOp .neq 25 (.slice a n c) (.slice none n' c')).run Try.prog w = .ok (.bool (!a.isNone)) w := fun w a n c n' c' => run_neq_slice_nil_any w _ _ a n c n' c' Try.underlying25
  rw [Nat.sub_zero]
  clear hci hin3 hb3
  have f0' : (zs.getD 0 0 == 255) = false := beq_eq_false_iff_ne.2 f0
  clear f0
  have f1' : (zs.getD 0 0 == 254) = false := beq_eq_false_iff_ne.2 f1
  clear f1
  have f2' : (zs.getD 0 0 == 239) = false := beq_eq_false_iff_ne.2 f2
  clear f2
  generalize zs.getD 0 0 = z0 at *
  generalize zs.getD 1 0 = z1 at *
  generalize zs.getD 2 0 = z2 at *
  go_wp2_with fail
  go_loopw [16] (fun i wr => ∃ k q : Nat, k ≤ N ∧ i = .int .i64 k ∧ wr = w3.drewN q) (fun i _ => N - (intOf i).toNat)
  case atStart => exact ⟨0, 0, Nat.zero_le _, rfl, rfl⟩
  case round =>
    obtain ⟨k, q, hk, rfl, rfl⟩ := hrel
    by_cases hlt : k < N
    · have hlen : (zs.drop 0).length = N := by rw [List.drop_zero, HN.out]
      obtain ⟨b', o', rfl, c2⟩ := HIN3.out.at (i := k) (by rw [hlen]; exact hlt)
      have c1 : w3.cell? ⟨b, o + k, none⟩ = _ := HCI.out k (by omega)
      have hg : zs.getD k 0 = (zs.drop 0)[k]'(by rw [hlen]; exact hlt) := by
        rw [List.getD_eq_getElem?_getD, List.getElem?_eq_getElem (by rw [HN.out]; omega)]
        simp
      rw [hg] at c1
      clear hg
      generalize (zs.drop 0)[k]'(by rw [hlen]; exact hlt) = z at *
      clear hlen
      have i0 : (0 : Int) ≤ (k : Int) := by omega
      have i1 : (k : Int) < (N : Int) := by omega
      have t1 : ((k : Int)).toNat = k := by omega
      have w1' := wr64 (k : Int) (by omega) (by omega)
      go_wp2_with fail
      go_quiet (fail)
      clear w1'
      go_wp2_with fail
      go_roundw
      case rel => exact ⟨k + 1, _, by omega, by go_num, rfl⟩
      case measure => simp [intOf]; omega
    · have hkm : k = N := by omega
      clear hkm
      go_wp2_with fail
      go_ret
      exact ⟨rfl, HB3.out.trans ⟨rfl, rfl, rfl, Nat.le_refl _, fun _ _ => rfl⟩⟩

set_option maxHeartbeats 4000000 in
set_option maxRecDepth 100000 in
theorem spec_p3E (w : World) (a : Option Addr) (cap N : Nat) (zs : List Int) (hA : Lib.hasPrefix (Lib.bytesOf zs) (Lib.bytesOf [255, 254]) = false) (hB : Lib.hasPrefix (Lib.bytesOf zs) (Lib.bytesOf [254, 255]) = false) (hC : Lib.hasPrefix (Lib.bytesOf zs) (Lib.bytesOf [239, 187, 191]) = false) (f0 : zs.getD 0 0 = 239) (f1 : zs.getD 1 0 ≠ 187) (hN : zs.length = N) (hr : InU .u8 w a zs) (hl : N ≤ 1048576) (h2 : 3 ≤ N) :
    Calls Try.prog 3 #[.slice a N cap] w fun e w' => e = .returned (.bool true) ∧ Below w.heap.size w w' := by
  have H5 := hid (bytes5_any w a N cap (by unfold maxLen; omega))
  have HCL := hid (clone_any w a cap zs hr (by omega))
  have hc := fun (w1 : World) (da : Option Addr) (c : Nat) (hd : InU .u8 w1 da zs) (hcc : zs.length ≤ c) => zz8 (rcu_plain w1 da c zs hd hcc hA hB hC)
  have HC := hid hc
  rw [hN] at HCL HC
  have HN := hid hN
  clear hc hr hN hA hB hC
  go_enter Try.func3, Try.ntmps3
  go_wp2_with fail
  refine H5.out.mono ?_
  rintro e w1 ⟨rfl, h5⟩
  obtain rfl : e = .returned (.bool true) := by
    rcases h5 with h | h
    · exact h.2
    · omega
  clear h5
  go_wp2_with fail
  refine HCL.out.mono ?_
  rintro e w2 ⟨da, c, rfl, hcc, hin, hb2⟩
  obtain ⟨b, o, rfl, -⟩ := hin.at (i := 0) (by rw [HN.out]; omega)
  have HIN := hid hin
  have HB2 := hid hb2
  have HCC := hid hcc
  clear hin hb2 hcc
  go_wp2_with fail
  refine (HC.out w2 _ c HIN.out HCC.out).mono ?_
  rintro e w3 ⟨ra, c', rfl, hin3, hb3⟩
  have hci := HIN.out.cells hb3
  rw [HN.out] at hci
  have d0 := hci 0 (by omega)
  have d1 := hci 1 (by omega)
  have d2 := hci 2 (by omega)
  simp only [Nat.add_zero] at d0
  have HCI := hid hci
  have HIN3 := hid hin3
  have HB3 := hid (HB2.out.trans (hb3.mono HB2.out.size))
  have q25 : ∀ (w : World) (a : Option Addr) (n c n' c' : Nat), (binOp .neq 25 (.slice a n c) (.slice none n' c')).run Try.prog w = .ok (.bool (!a.isNone)) w := fun w a n c n' c' => run_neq_slice_nil_any w _ _ a n c n' c' Try.underlying25
  rw [Nat.sub_zero]
  clear hci hin3 hb3
  rw [f0] at d0
  clear f0
  have f1' : (zs.getD 1 0 == 187) = false := beq_eq_false_iff_ne.2 f1
  clear f1
  generalize zs.getD 0 0 = z0 at *
  generalize zs.getD 1 0 = z1 at *
  generalize zs.getD 2 0 = z2 at *
  go_wp2_with fail
  go_loopw [16] (fun i wr => ∃ k q : Nat, k ≤ N ∧ i = .int .i64 k ∧ wr = w3.drewN q) (fun i _ => N - (intOf i).toNat)
  case atStart => exact ⟨0, 0, Nat.zero_le _, rfl, rfl⟩
  case round =>
    obtain ⟨k, q, hk, rfl, rfl⟩ := hrel
    by_cases hlt : k < N
    · have hlen : (zs.drop 0).length = N := by rw [List.drop_zero, HN.out]
      obtain ⟨b', o', rfl, c2⟩ := HIN3.out.at (i := k) (by rw [hlen]; exact hlt)
      have c1 : w3.cell? ⟨b, o + k, none⟩ = _ := HCI.out k (by omega)
      have hg : zs.getD k 0 = (zs.drop 0)[k]'(by rw [hlen]; exact hlt) := by
        rw [List.getD_eq_getElem?_getD, List.getElem?_eq_getElem (by rw [HN.out]; omega)]
        simp
      rw [hg] at c1
      clear hg
      generalize (zs.drop 0)[k]'(by rw [hlen]; exact hlt) = z at *
      clear hlen
      have i0 : (0 : Int) ≤ (k : Int) := by omega
      have i1 : (k : Int) < (N : Int) := by omega
      have t1 : ((k : Int)).toNat = k := by omega
      have w1' := wr64 (k : Int) (by omega) (by omega)
      go_wp2_with fail
      go_quiet (fail)
      clear w1'
      go_wp2_with fail
      go_roundw
      case rel => exact ⟨k + 1, _, by omega, by go_num, rfl⟩
      case measure => simp [intOf]; omega
    · have hkm : k = N := by omega
      clear hkm
      go_wp2_with fail
      go_ret
      exact ⟨rfl, HB3.out.trans ⟨rfl, rfl, rfl, Nat.le_refl _, fun _ _ => rfl⟩⟩

set_option maxHeartbeats 4000000 in
set_option maxRecDepth 100000 in
theorem spec_p3F (w : World) (a : Option Addr) (cap N : Nat) (zs : List Int) (hA : Lib.hasPrefix (Lib.bytesOf zs) (Lib.bytesOf [255, 254]) = false) (hB : Lib.hasPrefix (Lib.bytesOf zs) (Lib.bytesOf [254, 255]) = false) (hC : Lib.hasPrefix (Lib.bytesOf zs) (Lib.bytesOf [239, 187, 191]) = false) (f0 : zs.getD 0 0 = 239) (f1 : zs.getD 1 0 = 187) (f2 : zs.getD 2 0 ≠ 191) (hN : zs.length = N) (hr : InU .u8 w a zs) (hl : N ≤ 1048576) (h2 : 3 ≤ N) :
    Calls Try.prog 3 #[.slice a N cap] w fun e w' => e = .returned (.bool true) ∧ Below w.heap.size w w' := by
  have H5 := hid (bytes5_any w a N cap (by unfold maxLen; omega))
  have HCL := hid (clone_any w a cap zs hr (by omega))
  have hc := fun (w1 : World) (da : Option Addr) (c : Nat) (hd : InU .u8 w1 da zs) (hcc : zs.length ≤ c) => zz8 (rcu_plain w1 da c zs hd hcc hA hB hC)
  have HC := hid hc
  rw [hN] at HCL HC
  have HN := hid hN
  clear hc hr hN hA hB hC
  go_enter Try.func3, Try.ntmps3
  go_wp2_with fail
  refine H5.out.mono ?_
  rintro e w1 ⟨rfl, h5⟩
  obtain rfl : e = .returned (.bool true) := by
    rcases h5 with h | h
    · exact h.2
    · omega
  clear h5
  go_wp2_with fail
  refine HCL.out.mono ?_
  rintro e w2 ⟨da, c, rfl, hcc, hin, hb2⟩
  obtain ⟨b, o, rfl, -⟩ := hin.at (i := 0) (by rw [HN.out]; omega)
  have HIN := hid hin
  have HB2 := hid hb2
  have HCC := hid hcc
  clear hin hb2 hcc
  go_wp2_with fail
  refine (HC.out w2 _ c HIN.out HCC.out).mono ?_
  rintro e w3 ⟨ra, c', rfl, hin3, hb3⟩
  have hci := HIN.out.cells hb3
  rw [HN.out] at hci
  have d0 := hci 0 (by omega)
  have d1 := hci 1 (by omega)
  have d2 := hci 2 (by omega)
  simp only [Nat.add_zero] at d0
  have HCI := hid hci
  have HIN3 := hid hin3
  have HB3 := hid (HB2.out.trans (hb3.mono HB2.out.size))
  have q25 : ∀ (w : World) (a : Option Addr) (n c n' c' : Nat), (binOp .neq 25 (.slice a n c) (.slice none n' c')).run Try.prog w = .ok (.bool (!a.isNone)) w := fun w a n c n' c' => run_neq_slice_nil_any w _ _ a n c n' c' Try.underlying25
  rw [Nat.sub_zero]
  clear hci hin3 hb3
  rw [f0] at d0
  clear f0
  rw [f1] at d1
  clear f1
  have f2' : (zs.getD 2 0 == 191) = false := beq_eq_false_iff_ne.2 f2
  clear f2
  generalize zs.getD 0 0 = z0 at *
  generalize zs.getD 1 0 = z1 at *
  generalize zs.getD 2 0 = z2 at *
  go_wp2_with fail
  go_loopw [16] (fun i wr => ∃ k q : Nat, k ≤ N ∧ i = .int .i64 k ∧ wr = w3.drewN q) (fun i _ => N - (intOf i).toNat)
  case atStart => exact ⟨0, 0, Nat.zero_le _, rfl, rfl⟩
  case round =>
    obtain ⟨k, q, hk, rfl, rfl⟩ := hrel
    by_cases hlt : k < N
    · have hlen : (zs.drop 0).length = N := by rw [List.drop_zero, HN.out]
      obtain ⟨b', o', rfl, c2⟩ := HIN3.out.at (i := k) (by rw [hlen]; exact hlt)
      have c1 : w3.cell? ⟨b, o + k, none⟩ = _ := HCI.out k (by omega)
      have hg : zs.getD k 0 = (zs.drop 0)[k]'(by rw [hlen]; exact hlt) := by
        rw [List.getD_eq_getElem?_getD, List.getElem?_eq_getElem (by rw [HN.out]; omega)]
        simp
      rw [hg] at c1
      clear hg
      generalize (zs.drop 0)[k]'(by rw [hlen]; exact hlt) = z at *
      clear hlen
      have i0 : (0 : Int) ≤ (k : Int) := by omega
      have i1 : (k : Int) < (N : Int) := by omega
      have t1 : ((k : Int)).toNat = k := by omega
      have w1' := wr64 (k : Int) (by omega) (by omega)
      go_wp2_with fail
      go_quiet (fail)
      clear w1'
      go_wp2_with fail
      go_roundw
      case rel => exact ⟨k + 1, _, by omega, by go_num, rfl⟩
      case measure => simp [intOf]; omega
    · have hkm : k = N := by omega
      clear hkm
      go_wp2_with fail
      go_ret
      exact ⟨rfl, HB3.out.trans ⟨rfl, rfl, rfl, Nat.le_refl _, fun _ _ => rfl⟩⟩
end Go.Proofs.Qxb6602611a
