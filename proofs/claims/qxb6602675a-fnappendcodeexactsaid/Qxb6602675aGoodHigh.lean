/- The law, walked at the inputs that are not let by. -/
import Derived.Test.Qxb6602675aGood
namespace Go.Proofs.Qxb6602675a
open Go.RowKit


set_option maxHeartbeats 1000000 in
theorem good_high (w : World) (C : Array Value) (a : Option Addr) (zs : List Int) (c : Nat) (m : Option Nat) (r : Int) (L : Nat) (gm : Int) (hr : 65536 ≤ r ∧ r ≤ 1114111) (hc : True) (hgb : 0 < gm ∧ gm < 4294967296) (N : Nat) (hN : zs.length = N) (h : Inp w C a zs m r L gm)
    (hg : (N : Int) ≤ 1048576 ∧ (L : Int) ≤ 131072 ∧ (N : Int) + 8 * L ≤ 1048576) :
    Calls Try.prog 5 #[.agg C, .map m, .slice a N c, .int .i32 r] w fun e w' => e = .returned (.bool true) ∧ Below w.heap.size w w' := by
  have hlen := h.len _ (alloc_below w (.cells C 29))
  have HCL := hid (clone_uni (w.alloc (.cells C 29)) a c N zs hN (h.dst.below (alloc_below w _)) (by omega))
  have hra : (w.alloc (.cells C 29)).rangeAt w.heap.size 0 C.toList := by
    have := World.rangeAt_of_block (heap_alloc_new w (.cells C 29)) 0 C.size
    simpa using this
  have hsz : (Try.prog.info? 29).map (·.size) = some C.toList.length := by rw [size29, Array.length_toList, h.size]
  have HSZ := hid hsz
  have HRA := hid hra
  have HI := hid h
  have HN := hid hN
  have HC := hid hc
  have hgc : (N : Int) ≤ 1048576 := hg.1
  clear h hN hra hsz hc
  go_enter Try.func5, Try.ntmps5
  go_wp2_with fail
  refine HCL.out.mono ?_
  rintro e w2 ⟨da, rfl, hda, hdn, hin, hb2⟩
  clear hlen
  have hbw : Below w.heap.size w w2 := (alloc_below w (.cells C 29)).trans (hb2.mono (by simp))
  have HZZ := hid (zz_high w2 C da m zs r gm HI.out.size hin hda hdn (by rw [HN.out]; omega) hr (fun W hW => HI.out.look W (hbw.trans (hW.mono hbw.size))) hgb)
  rw [HN.out] at HZZ
  have hra2 : w2.rangeAt w.heap.size 0 C.toList := fun j v hv => by
    have h1 := HRA.out j v hv
    exact (hb2.cell (World.block_lt_of_cell? _ _ h1)).trans h1
  have HRA2 := hid hra2
  have HIN := hid hin
  have HB2 := hid hb2
  clear hin hb2 hra2 hda hdn hbw
  go_wp2_with (refine wpList_load_mid rfl 29 _ rfl _ _ rfl C.toList _ HRA2.out Try.underlying29 rfl HSZ.out ?_)
  refine HZZ.out.mono ?_
  rintro e w3 ⟨gb, cap, rfl, hcap, hin3, hb3⟩
  have HIN3 := hid hin3
  have HIN4 := hid (HIN.out.below hb3)
  have HB3 := hid (((alloc_below w (.cells C 29)).trans (HB2.out.mono (by simp))).trans (hb3.mono (by have := HB2.out.size; simp at this; omega)))

  rw [HN.out] at hcap ⊢
  clear hin3 hb3
  have hK : Hid (∃ K, K = (codeB gm).length) := ⟨_, rfl⟩
  obtain ⟨K, hK⟩ := hK.out
  rw [← hK] at hcap ⊢
  have hK4 : K = 2 ∨ K = 4 := by rw [hK]; unfold codeB; split <;> simp
  have hKle : (K : Int) ≤ 4 := by omega
  have HK4 := hid hK4
  have HK := hid hK
  clear hK hK4
  go_wp2_with fail
  go_loopw [12] (fun i wr => ∃ k q : Nat, k ≤ N ∧ i = .int .i64 k ∧ wr = w3.drewN q) (fun i _ => N - (intOf i).toNat)
  case atStart => exact ⟨0, 0, Nat.zero_le _, rfl, rfl⟩
  case round =>
    obtain ⟨k, q, hk, rfl, rfl⟩ := hrel
    by_cases hlt : k < N
    · obtain ⟨b, o, rfl, c1⟩ := HIN4.out.at (i := k) (by rw [HN.out]; exact hlt)
      obtain ⟨b', o', hab, c2⟩ := HIN3.out.at (i := k) (by rw [List.length_append, HN.out]; omega)
      rw [List.getElem_append_left (by rw [HN.out]; exact hlt)] at c2
      simp only [Option.some.injEq, Addr.mk.injEq, and_true] at hab
      obtain ⟨rfl, rfl⟩ := hab
      rw [Nat.zero_add] at c2
      generalize zs[k]'(by rw [HN.out]; exact hlt) = z at *
      have i0 : (0 : Int) ≤ (k : Int) := by omega
      have i1 : (k : Int) < (N : Int) := by omega
      have i2 : (k : Int) < (N : Int) + (K : Int) := by omega
      have zz : (z != z) = false := by simp
      go_wp2_with fail
      go_quiet (fail)
      go_wp2_with fail
      go_roundw
      case rel => exact ⟨k + 1, _, by omega, by go_num, rfl⟩
      case measure => simp [intOf]; omega
    · have hkm : k = N := by omega
      subst hkm
      have hlook := HI.out.look (w3.drewN q) (HB3.out.trans ⟨rfl, rfl, rfl, Nat.le_refl _, fun _ _ => rfl⟩)
      have hg0 : (gm != 0) = true := by simp; omega
      have tl := tail_cells HIN3.out HN.out
      by_cases h16 : gm < 65536
      · have hcb : codeB gm = [gm / 256, gm % 256] := if_pos h16
        rw [hcb] at tl
        have e0 := tl 0 (by simp)
        have e1 := tl 1 (by simp)
        have hK2 : K = 2 := by rw [HK.out, hcb]; rfl
        subst hK2
        simp only [List.getD_cons_zero, List.getD_cons_succ, Nat.add_zero] at e0 e1
        have HW := hid (fun q => written2 (w3.drewN q) gb k (cap - k) gm _ _ rfl rfl e0 e1 ⟨by omega, h16⟩)
        clear tl e0 e1 hcb
        go_wp2_with (go_at_call 15; refine (HW.out _).mono ?_; rintro e w5 ⟨rfl, q5, rfl⟩)
        go_ret; exact ⟨rfl, HB3.out.trans ⟨rfl, rfl, rfl, Nat.le_refl _, fun _ _ => rfl⟩⟩
      · have hcb : codeB gm = [gm / 16777216, gm / 65536 % 256, gm / 256 % 256, gm % 256] := if_neg h16
        rw [hcb] at tl
        have e0 := tl 0 (by simp)
        have e1 := tl 1 (by simp)
        have e2 := tl 2 (by simp)
        have e3 := tl 3 (by simp)
        have hK4 : K = 4 := by rw [HK.out, hcb]; rfl
        subst hK4
        simp only [List.getD_cons_zero, List.getD_cons_succ, Nat.add_zero] at e0 e1 e2 e3
        have HW := hid (fun q => written4 (w3.drewN q) gb k (cap - k) gm _ _ _ _ rfl rfl rfl rfl e0 e1 e2 e3 ⟨by omega, hgb.2⟩)
        clear tl e0 e1 e2 e3 hcb
        go_wp2_with (go_at_call 15; refine (HW.out _).mono ?_; rintro e w5 ⟨rfl, q5, rfl⟩)
        go_ret; exact ⟨rfl, HB3.out.trans ⟨rfl, rfl, rfl, Nat.le_refl _, fun _ _ => rfl⟩⟩

set_option maxHeartbeats 1000000 in
theorem good_four (w : World) (C : Array Value) (a : Option Addr) (zs : List Int) (c : Nat) (m : Option Nat) (r : Int) (L : Nat) (gm : Int) (hr : 65536 ≤ r ∧ r ≤ 1114111) (hc : True) (hgb : gm = 0) (N : Nat) (hN : zs.length = N) (h : Inp w C a zs m r L gm)
    (hg : (N : Int) ≤ 1048576 ∧ (L : Int) ≤ 131072 ∧ (N : Int) + 8 * L ≤ 1048576) :
    Calls Try.prog 5 #[.agg C, .map m, .slice a N c, .int .i32 r] w fun e w' => e = .returned (.bool true) ∧ Below w.heap.size w w' := by
  have hlen := h.len _ (alloc_below w (.cells C 29))
  have HCL := hid (clone_uni (w.alloc (.cells C 29)) a c N zs hN (h.dst.below (alloc_below w _)) (by omega))
  have hra : (w.alloc (.cells C 29)).rangeAt w.heap.size 0 C.toList := by
    have := World.rangeAt_of_block (heap_alloc_new w (.cells C 29)) 0 C.size
    simpa using this
  have hsz : (Try.prog.info? 29).map (·.size) = some C.toList.length := by rw [size29, Array.length_toList, h.size]
  have HSZ := hid hsz
  have HRA := hid hra
  have HI := hid h
  have HN := hid hN
  have HC := hid hc
  have hgc : (N : Int) ≤ 1048576 := hg.1
  clear h hN hra hsz hc
  go_enter Try.func5, Try.ntmps5
  go_wp2_with fail
  refine HCL.out.mono ?_
  rintro e w2 ⟨da, rfl, hda, hdn, hin, hb2⟩
  clear hlen
  have hbw : Below w.heap.size w w2 := (alloc_below w (.cells C 29)).trans (hb2.mono (by simp))
  have HZZ := hid (zz_four w2 C da m zs r HI.out.size hin hda hdn (by rw [HN.out]; omega) hr (fun W hW => by have := HI.out.look W (hbw.trans (hW.mono hbw.size)); rwa [hgb] at this))
  rw [HN.out] at HZZ
  have hra2 : w2.rangeAt w.heap.size 0 C.toList := fun j v hv => by
    have h1 := HRA.out j v hv
    exact (hb2.cell (World.block_lt_of_cell? _ _ h1)).trans h1
  have HRA2 := hid hra2
  have HIN := hid hin
  have HB2 := hid hb2
  clear hin hb2 hra2 hda hdn hbw
  go_wp2_with (refine wpList_load_mid rfl 29 _ rfl _ _ rfl C.toList _ HRA2.out Try.underlying29 rfl HSZ.out ?_)
  refine HZZ.out.mono ?_
  rintro e w3 ⟨gb, cap, rfl, hcap, hin3, hb3⟩
  have HIN3 := hid hin3
  have HIN4 := hid (HIN.out.below hb3)
  have HB3 := hid (((alloc_below w (.cells C 29)).trans (HB2.out.mono (by simp))).trans (hb3.mono (by have := HB2.out.size; simp at this; omega)))

  rw [HN.out] at hcap ⊢
  clear hin3 hb3
  have hK : Hid (∃ K, K = (codeB (fourC (189000 + (r - 65536)))).length) := ⟨_, rfl⟩
  obtain ⟨K, hK⟩ := hK.out
  rw [← hK] at hcap ⊢
  have hK4 : K = 2 ∨ K = 4 := by rw [hK]; unfold codeB; split <;> simp
  have hKle : (K : Int) ≤ 4 := by omega
  have HK4 := hid hK4
  have HK := hid hK
  clear hK hK4
  go_wp2_with fail
  go_loopw [12] (fun i wr => ∃ k q : Nat, k ≤ N ∧ i = .int .i64 k ∧ wr = w3.drewN q) (fun i _ => N - (intOf i).toNat)
  case atStart => exact ⟨0, 0, Nat.zero_le _, rfl, rfl⟩
  case round =>
    obtain ⟨k, q, hk, rfl, rfl⟩ := hrel
    by_cases hlt : k < N
    · obtain ⟨b, o, rfl, c1⟩ := HIN4.out.at (i := k) (by rw [HN.out]; exact hlt)
      obtain ⟨b', o', hab, c2⟩ := HIN3.out.at (i := k) (by rw [List.length_append, HN.out]; omega)
      rw [List.getElem_append_left (by rw [HN.out]; exact hlt)] at c2
      simp only [Option.some.injEq, Addr.mk.injEq, and_true] at hab
      obtain ⟨rfl, rfl⟩ := hab
      rw [Nat.zero_add] at c2
      generalize zs[k]'(by rw [HN.out]; exact hlt) = z at *
      have i0 : (0 : Int) ≤ (k : Int) := by omega
      have i1 : (k : Int) < (N : Int) := by omega
      have i2 : (k : Int) < (N : Int) + (K : Int) := by omega
      have zz : (z != z) = false := by simp
      go_wp2_with fail
      go_quiet (fail)
      go_wp2_with fail
      go_roundw
      case rel => exact ⟨k + 1, _, by omega, by go_num, rfl⟩
      case measure => simp [intOf]; omega
    · have hkm : k = N := by omega
      subst hkm
      have hlook := HI.out.look (w3.drewN q) (HB3.out.trans ⟨rfl, rfl, rfl, Nat.le_refl _, fun _ _ => rfl⟩)
      rw [hgb] at hlook
      have tl := tail_cells HIN3.out HN.out
      have hcb := fourC_bytes (189000 + (r - 65536)) (by omega)
      rw [hcb] at tl
      have e0 := tl 0 (by simp)
      have e1 := tl 1 (by simp)
      have e2 := tl 2 (by simp)
      have e3 := tl 3 (by simp)
      have hK4 : K = 4 := by rw [HK.out, hcb]; rfl
      subst hK4
      simp only [List.getD_cons_zero, List.getD_cons_succ, Nat.add_zero] at e0 e1 e2 e3
      have HW := hid (fun q => isFour_yes (w3.drewN q) gb k (cap - k) (189000 + (r - 65536)) _ _ _ _ rfl rfl rfl rfl e0 e1 e2 e3 (by omega))
      clear tl e0 e1 e2 e3 hcb hgb
      go_wp2_with (go_at_call 16; refine (HW.out _).mono ?_; rintro e w5 ⟨rfl, q5, rfl⟩)
      go_ret; exact ⟨rfl, HB3.out.trans ⟨rfl, rfl, rfl, Nat.le_refl _, fun _ _ => rfl⟩⟩
end Go.Proofs.Qxb6602675a
