/- The law, walked at the inputs that are not let by. -/
import Derived.Test.Qxb6602675aLaw
namespace Go.Proofs.Qxb6602675a
open Go.RowKit


set_option maxHeartbeats 1000000 in
theorem good_none (w : World) (C : Array Value) (a : Option Addr) (zs : List Int) (c : Nat) (m : Option Nat) (r : Int) (L : Nat) (gm : Int) (hr : 128 ≤ r ∧ r < 65536) (hc : C[r.toNat]? = some (.int .u32 0)) (N : Nat) (hN : zs.length = N) (h : Inp w C a zs m r L gm)
    (hg : (N : Int) ≤ 1048576 ∧ (L : Int) ≤ 131072 ∧ (N : Int) + 8 * L ≤ 1048576) :
    Calls Try.prog 5 #[.agg C, .map m, .slice a N c, .int .i32 r] w fun e w' => e = .returned (.bool true) ∧ Below w.heap.size w w' := by
  have hlen := h.len _ (alloc_below w (.cells C 29))
  have HCL := hid (clone_uni (w.alloc (.cells C 29)) a c N zs hN (h.dst.below (alloc_below w _)) (by omega))
  have hra : (w.alloc (.cells C 29)).rangeAt w.heap.size 0 C.toList := by
    have := World.rangeAt_of_block (heap_alloc_new w (.cells C 29)) 0 C.size
    simpa using this
  have hsz : (Try.prog.info? 29).map (·.size) = some C.toList.length := by rw [size29, Array.length_toList, h.size]
  have HSZ := hid hsz
  have HRA := hid hra
  have HI := hid h
  have HN := hid hN
  have HC := hid hc
  have hgc : (N : Int) ≤ 1048576 := hg.1
  clear h hN hra hsz hc
  go_enter Try.func5, Try.ntmps5
  go_wp2_with fail
  refine HCL.out.mono ?_
  rintro e w2 ⟨da, rfl, hda, hdn, hin, hb2⟩
  clear hlen
  have HZZ := hid (zz_none w2 C HI.out.size da N N m r hr HC.out)
  have hra2 : w2.rangeAt w.heap.size 0 C.toList := fun j v hv => by
    have h1 := HRA.out j v hv
    exact (hb2.cell (World.block_lt_of_cell? _ _ h1)).trans h1
  have HRA2 := hid hra2
  have HIN := hid hin
  have HB2 := hid hb2
  clear hin hb2 hra2 hdn
  go_wp2_with (refine wpList_load_mid rfl 29 _ rfl _ _ rfl C.toList _ HRA2.out Try.underlying29 rfl HSZ.out ?_)
  refine HZZ.out.mono ?_
  rintro e w3 ⟨rfl, hb3⟩
  have HIN4 := hid (HIN.out.below hb3)
  have HB3 := hid (((alloc_below w (.cells C 29)).trans (HB2.out.mono (by simp))).trans (hb3.mono (by have := HB2.out.size; simp at this; omega)))
  have hcode : w3.cell? ⟨w.heap.size, r.toNat, none⟩ = some (.int .u32 0) := by
    have h1 := HRA2.out r.toNat (.int .u32 0) (by rw [Array.getElem?_toList]; exact HC.out)
    rw [Nat.zero_add] at h1
    exact (hb3.cell (World.block_lt_of_cell? _ _ h1)).trans h1
  have HCODE := hid hcode
  have HDA := hid hda
  clear hcode hb3 hda
  go_wp2_with fail
  go_loopw [12] (fun i wr => ∃ k q : Nat, k ≤ N ∧ i = .int .i64 k ∧ wr = w3.drewN q) (fun i _ => N - (intOf i).toNat)
  case atStart => exact ⟨0, 0, Nat.zero_le _, rfl, rfl⟩
  case round =>
    obtain ⟨k, q, hk, rfl, rfl⟩ := hrel
    by_cases hlt : k < N
    · obtain ⟨b, o, rfl, c1⟩ := HIN4.out.at (i := k) (by rw [HN.out]; exact hlt)
      generalize zs[k]'(by rw [HN.out]; exact hlt) = z at *
      have i0 : (0 : Int) ≤ (k : Int) := by omega
      have i1 : (k : Int) < (N : Int) := by omega
      have zz : (z != z) = false := by simp
      go_wp2_with fail
      go_quiet (fail)
      go_wp2_with fail
      go_roundw
      case rel => exact ⟨k + 1, _, by omega, by go_num, rfl⟩
      case measure => simp [intOf]; omega
    · have hkm : k = N := by omega
      subst hkm
      have hcode : w3.cell? ⟨w.heap.size, r.toNat, none⟩ = some (.int .u32 0) := HCODE.out
      have hq1 := fun w => q31 w da k k 0 0
      rcases HDA.out with rfl | ⟨b, o, rfl⟩
      · go_wp2_with fail
        go_ret; exact ⟨rfl, HB3.out.trans ⟨rfl, rfl, rfl, Nat.le_refl _, fun _ _ => rfl⟩⟩
      · go_wp2_with fail
        go_ret; exact ⟨rfl, HB3.out.trans ⟨rfl, rfl, rfl, Nat.le_refl _, fun _ _ => rfl⟩⟩
end Go.Proofs.Qxb6602675a
