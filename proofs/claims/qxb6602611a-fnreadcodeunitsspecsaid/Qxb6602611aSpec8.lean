/- The first law, walked where no mark of UTF-16 leads. -/
import Derived.Test.Qxb6602611aSpec
namespace Go.Proofs.Qxb6602611a
open Go.RowKit

theorem pre_bom (rest : List Int) : Lib.hasPrefix (Lib.bytesOf (239 :: 187 :: 191 :: rest)) (Lib.bytesOf [255, 254]) = false ∧ Lib.hasPrefix (Lib.bytesOf (239 :: 187 :: 191 :: rest)) (Lib.bytesOf [254, 255]) = false ∧ Lib.hasPrefix (Lib.bytesOf (239 :: 187 :: 191 :: rest)) (Lib.bytesOf [239, 187, 191]) = true := by
  refine ⟨?_, ?_, ?_⟩ <;> simp [Lib.hasPrefix, Lib.bytesOf, List.isPrefixOf]

set_option maxHeartbeats 2000000 in
set_option maxRecDepth 100000 in
theorem spec_bom (w : World) (a : Option Addr) (cap N : Nat) (zs rest : List Int) (hzr : zs = 239 :: 187 :: 191 :: rest) (hN : zs.length = N) (hr : InU .u8 w a zs) (hl : N ≤ 1048576) :
    Calls Try.prog 3 #[.slice a N cap] w fun e w' => e = .returned (.bool true) ∧ Below w.heap.size w w' := by
  have H5 := hid (bytes5_any w a N cap (by unfold maxLen; omega))
  have HCL := hid (clone_any w a cap zs hr (by omega))
  have hc := fun (w1 : World) (b o c : Nat) (hd : InU .u8 w1 (some ⟨b, o, none⟩) zs) (hcc : zs.length ≤ c) => zz8 (rcu_bom w1 b o c zs hd hcc (by rw [hzr]; exact (pre_bom rest).1) (by rw [hzr]; exact (pre_bom rest).2.1) (by rw [hzr]; exact (pre_bom rest).2.2))
  have HC := hid hc
  have h2 : 3 ≤ N := by rw [← hN, hzr]; simp
  have HZR := hid hzr
  rw [hN] at HCL HC
  have HN := hid hN
  clear hc hr hzr hN
  go_enter Try.func3, Try.ntmps3
  go_wp2_with fail
  refine H5.out.mono ?_
  rintro e w1 ⟨rfl, h5⟩
  obtain rfl : e = .returned (.bool true) := by
    rcases h5 with h | h
    · exact h.2
    · omega
  clear h5
  go_wp2_with fail
  refine HCL.out.mono ?_
  rintro e w2 ⟨da, c, rfl, hcc, hin, hb2⟩
  obtain ⟨b, o, rfl, -⟩ := hin.at (i := 0) (by rw [HN.out]; omega)
  have HIN := hid hin
  have HB2 := hid hb2
  have HCC := hid hcc
  clear hin hb2 hcc
  go_wp2_with fail
  refine (HC.out w2 b o c HIN.out HCC.out).mono ?_
  rintro e w3 ⟨ra, c', rfl, hin3, hb3⟩
  have hci := HIN.out.cells hb3
  rw [HN.out] at hci
  have d0 := hci 0 (by omega)
  have d1 := hci 1 (by omega)
  have d2 := hci 2 (by omega)
  rw [HZR.out] at d0 d1 d2
  simp only [List.getD_cons_zero, List.getD_cons_succ, Nat.add_zero] at d0 d1 d2
  have HCI := hid hci
  have HIN3 := hid hin3
  have HB3 := hid (HB2.out.trans (hb3.mono HB2.out.size))
  have q25 : ∀ (w : World) (a : Option Addr) (n c n' c' : Nat), (binOp .neq 25 (.slice a n c) (.slice none n' c')).run Try.prog w = .ok (.bool (!a.isNone)) w := fun w a n c n' c' => run_neq_slice_nil_any w _ _ a n c n' c' Try.underlying25
  have hm : ((N - 3 : Nat) : Int) = (N : Int) - 3 := by omega
  have h3m : N - 3 + 3 = N := by omega
  generalize N - 3 = m at *
  have hmn : ((m : Int) != (N : Int) - 3) = false := by simp; omega
  clear hci hin3 hb3
  go_wp2_with fail
  clear d0 d1 d2 q25 hmn
  go_loopw [16] (fun i wr => ∃ k q : Nat, k ≤ m ∧ i = .int .i64 k ∧ wr = w3.drewN q) (fun i _ => m - (intOf i).toNat)
  case atStart => exact ⟨0, 0, Nat.zero_le _, rfl, rfl⟩
  case round =>
    obtain ⟨k, q, hk, rfl, rfl⟩ := hrel
    by_cases hlt : k < m
    · have hlen : (zs.drop 3).length = m := by rw [List.length_drop, HN.out]; omega
      obtain ⟨b', o', rfl, c2⟩ := HIN3.out.at (i := k) (by rw [hlen]; exact hlt)
      have c1 : w3.cell? ⟨b, o + (3 + k), none⟩ = _ := HCI.out (3 + k) (by omega)
      have hg : zs.getD (3 + k) 0 = (zs.drop 3)[k]'(by rw [hlen]; exact hlt) := by
        rw [List.getElem_drop, List.getD_eq_getElem?_getD, List.getElem?_eq_getElem (by rw [HN.out]; omega)]
        rfl
      rw [hg] at c1
      clear hg
      generalize (zs.drop 3)[k]'(by rw [hlen]; exact hlt) = z at *
      clear hlen
      have i0 : (0 : Int) ≤ (k : Int) := by omega
      have i1 : (k : Int) < (m : Int) := by omega
      have j0 : (0 : Int) ≤ 3 + (k : Int) := by omega
      have j1 : 3 + (k : Int) < (N : Int) := by omega
      have t1 : (3 + (k : Int)).toNat = 3 + k := by omega
      have w1' := wr64 (k : Int) (by omega) (by omega)
      have w2' := wr64 (3 + (k : Int)) (by omega) (by omega)
      go_wp2_with fail
      go_quiet (fail)
      clear w1' w2'
      go_wp2_with fail
      go_roundw
      case rel => exact ⟨k + 1, _, by omega, by go_num, rfl⟩
      case measure => simp [intOf]; omega
    · have hkm : k = m := by omega
      subst hkm
      go_wp2_with fail
      go_ret
      exact ⟨rfl, HB3.out.trans ⟨rfl, rfl, rfl, Nat.le_refl _, fun _ _ => rfl⟩⟩
end Go.Proofs.Qxb6602611a
