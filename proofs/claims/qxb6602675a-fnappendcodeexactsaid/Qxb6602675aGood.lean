/- The law, walked at the inputs that are not let by. -/
import Derived.Test.Qxb6602675aLaw
namespace Go.Proofs.Qxb6602675a
open Go.RowKit

theorem tail_cells {w : World} {g N : Nat} {zs ds : List Int} (h : InU .u8 w (some ⟨g, 0, none⟩) (zs ++ ds)) (hN : zs.length = N) : ∀ j, j < ds.length → w.cell? ⟨g, N + j, none⟩ = some (.int .u8 (ds.getD j 0)) := by
  intro j hj
  obtain ⟨b, o, e, hc⟩ := h.at (i := N + j) (by rw [List.length_append, hN]; omega)
  simp only [Option.some.injEq, Addr.mk.injEq, and_true] at e
  obtain ⟨rfl, rfl⟩ := e
  rw [Nat.zero_add] at hc
  rw [hc, List.getElem_append_right (by omega)]
  have : N + j - zs.length = j := by omega
  simp [List.getD, this, hj]

set_option maxHeartbeats 1000000 in
theorem good_low (w : World) (C : Array Value) (a : Option Addr) (zs : List Int) (c : Nat) (m : Option Nat) (r : Int) (L : Nat) (gm : Int) (g : Int) (hr : 128 ≤ r ∧ r < 65536) (hc : C[r.toNat]? = some (.int .u32 g)) (hgb : 0 < g ∧ g < 4294967296) (N : Nat) (hN : zs.length = N) (h : Inp w C a zs m r L gm)
    (hg : (N : Int) ≤ 1048576 ∧ (L : Int) ≤ 131072 ∧ (N : Int) + 8 * L ≤ 1048576) :
    Calls Try.prog 5 #[.agg C, .map m, .slice a N c, .int .i32 r] w fun e w' => e = .returned (.bool true) ∧ Below w.heap.size w w' := by
  have hlen := h.len _ (alloc_below w (.cells C 29))
  have HCL := hid (clone_uni (w.alloc (.cells C 29)) a c N zs hN (h.dst.below (alloc_below w _)) (by omega))
  have hra : (w.alloc (.cells C 29)).rangeAt w.heap.size 0 C.toList := by
    have := World.rangeAt_of_block (heap_alloc_new w (.cells C 29)) 0 C.size
    simpa using this
  have hsz : (Try.prog.info? 29).map (·.size) = some C.toList.length := by rw [size29, Array.length_toList, h.size]
  have HSZ := hid hsz
  have HRA := hid hra
  have HI := hid h
  have HN := hid hN
  have HC := hid hc
  have hgc : (N : Int) ≤ 1048576 := hg.1
  clear h hN hra hsz hc
  go_enter Try.func5, Try.ntmps5
  go_wp2_with fail
  refine HCL.out.mono ?_
  rintro e w2 ⟨da, rfl, hda, hdn, hin, hb2⟩
  clear hlen
  have hbw : Below w.heap.size w w2 := (alloc_below w (.cells C 29)).trans (hb2.mono (by simp))
  have HZZ := hid (zz_low w2 C da m zs r g HI.out.size hin hda hdn (by rw [HN.out]; omega) hr HC.out hgb)
  rw [HN.out] at HZZ
  have hra2 : w2.rangeAt w.heap.size 0 C.toList := fun j v hv => by
    have h1 := HRA.out j v hv
    exact (hb2.cell (World.block_lt_of_cell? _ _ h1)).trans h1
  have HRA2 := hid hra2
  have HIN := hid hin
  have HB2 := hid hb2
  clear hin hb2 hra2 hda hdn hbw
  go_wp2_with (refine wpList_load_mid rfl 29 _ rfl _ _ rfl C.toList _ HRA2.out Try.underlying29 rfl HSZ.out ?_)
  refine HZZ.out.mono ?_
  rintro e w3 ⟨gb, cap, rfl, hcap, hin3, hb3⟩
  have HIN3 := hid hin3
  have HIN4 := hid (HIN.out.below hb3)
  have HB3 := hid (((alloc_below w (.cells C 29)).trans (HB2.out.mono (by simp))).trans (hb3.mono (by have := HB2.out.size; simp at this; omega)))
  have hcode : w3.cell? ⟨w.heap.size, r.toNat, none⟩ = some (.int .u32 g) := by
    have h1 := HRA2.out r.toNat (.int .u32 g) (by rw [Array.getElem?_toList]; exact HC.out)
    rw [Nat.zero_add] at h1
    exact (hb3.cell (World.block_lt_of_cell? _ _ h1)).trans h1
  have HCODE := hid hcode
  clear hcode
  rw [HN.out] at hcap ⊢
  clear hin3 hb3
  have hK : Hid (∃ K, K = (codeB g).length) := ⟨_, rfl⟩
  obtain ⟨K, hK⟩ := hK.out
  rw [← hK] at hcap ⊢
  have hK4 : K = 2 ∨ K = 4 := by rw [hK]; unfold codeB; split <;> simp
  have hKle : (K : Int) ≤ 4 := by omega
  have HK4 := hid hK4
  have HK := hid hK
  clear hK hK4
  go_wp2_with fail
  go_loopw [12] (fun i wr => ∃ k q : Nat, k ≤ N ∧ i = .int .i64 k ∧ wr = w3.drewN q) (fun i _ => N - (intOf i).toNat)
  case atStart => exact ⟨0, 0, Nat.zero_le _, rfl, rfl⟩
  case round =>
    obtain ⟨k, q, hk, rfl, rfl⟩ := hrel
    by_cases hlt : k < N
    · obtain ⟨b, o, rfl, c1⟩ := HIN4.out.at (i := k) (by rw [HN.out]; exact hlt)
      obtain ⟨b', o', hab, c2⟩ := HIN3.out.at (i := k) (by rw [List.length_append, HN.out]; omega)
      rw [List.getElem_append_left (by rw [HN.out]; exact hlt)] at c2
      simp only [Option.some.injEq, Addr.mk.injEq, and_true] at hab
      obtain ⟨rfl, rfl⟩ := hab
      rw [Nat.zero_add] at c2
      generalize zs[k]'(by rw [HN.out]; exact hlt) = z at *
      have i0 : (0 : Int) ≤ (k : Int) := by omega
      have i1 : (k : Int) < (N : Int) := by omega
      have i2 : (k : Int) < (N : Int) + (K : Int) := by omega
      have zz : (z != z) = false := by simp
      go_wp2_with fail
      go_quiet (fail)
      go_wp2_with fail
      go_roundw
      case rel => exact ⟨k + 1, _, by omega, by go_num, rfl⟩
      case measure => simp [intOf]; omega
    · have hkm : k = N := by omega
      subst hkm
      have hcode : w3.cell? ⟨w.heap.size, r.toNat, none⟩ = some (.int .u32 g) := HCODE.out
      have hg0 : (g != 0) = true := by simp; omega
      have tl := tail_cells HIN3.out HN.out
      by_cases h16 : g < 65536
      · have hcb : codeB g = [g / 256, g % 256] := if_pos h16
        rw [hcb] at tl
        have e0 := tl 0 (by simp)
        have e1 := tl 1 (by simp)
        have hK2 : K = 2 := by rw [HK.out, hcb]; rfl
        subst hK2
        simp only [List.getD_cons_zero, List.getD_cons_succ, Nat.add_zero] at e0 e1
        have HW := hid (fun q => written2 (w3.drewN q) gb k (cap - k) g _ _ rfl rfl e0 e1 ⟨by omega, h16⟩)
        clear tl e0 e1 hcb
        go_wp2_with (go_at_call 15; refine (HW.out _).mono ?_; rintro e w5 ⟨rfl, q5, rfl⟩)
        go_ret; exact ⟨rfl, HB3.out.trans ⟨rfl, rfl, rfl, Nat.le_refl _, fun _ _ => rfl⟩⟩
      · have hcb : codeB g = [g / 16777216, g / 65536 % 256, g / 256 % 256, g % 256] := if_neg h16
        rw [hcb] at tl
        have e0 := tl 0 (by simp)
        have e1 := tl 1 (by simp)
        have e2 := tl 2 (by simp)
        have e3 := tl 3 (by simp)
        have hK4 : K = 4 := by rw [HK.out, hcb]; rfl
        subst hK4
        simp only [List.getD_cons_zero, List.getD_cons_succ, Nat.add_zero] at e0 e1 e2 e3
        have HW := hid (fun q => written4 (w3.drewN q) gb k (cap - k) g _ _ _ _ rfl rfl rfl rfl e0 e1 e2 e3 ⟨by omega, hgb.2⟩)
        clear tl e0 e1 e2 e3 hcb
        go_wp2_with (go_at_call 15; refine (HW.out _).mono ?_; rintro e w5 ⟨rfl, q5, rfl⟩)
        go_ret; exact ⟨rfl, HB3.out.trans ⟨rfl, rfl, rfl, Nat.le_refl _, fun _ _ => rfl⟩⟩
end Go.Proofs.Qxb6602675a
