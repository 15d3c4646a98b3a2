import Derived.Test.Qxb6602566aPushLaw
import Derived.Test.Qxb6602566aPopAll
namespace Go.Proofs.Qxb6602566a
open Go.RowKit

theorem lastIs_push (bs : List (List Pk)) (p : Pk) : LastIs (pushB bs p) p := by
  unfold pushB
  split
  · refine ⟨by simp, ?_, ?_⟩ <;> simp [List.getD]
  · rename_i h
    have h0 : bs ≠ [] := fun e => h (.inl e)
    have hp : 0 < bs.length := List.length_pos_iff.2 h0
    have hg : (bs.set (bs.length - 1) (bs.getD (bs.length - 1) [] ++ [p])).getD ((bs.set (bs.length - 1) (bs.getD (bs.length - 1) [] ++ [p])).length - 1) [] = bs.getD (bs.length - 1) [] ++ [p] := by
      rw [List.length_set, List.getD_eq_getElem?_getD, List.getElem?_set_self (by omega)]
      rfl
    refine ⟨by simpa using h0, ?_, ?_⟩
    · rw [hg]; simp
    · rw [hg]; simp

theorem popB_pushB (bs : List (List Pk)) (p : Pk) (h0 : bs ≠ []) (h1 : 1 ≤ (bs.getD (bs.length - 1) []).length) : popB (pushB bs p) = bs := by
  have hp : 0 < bs.length := List.length_pos_iff.2 h0
  unfold pushB
  split
  · unfold popB
    rw [if_pos (by simp [List.getD])]
    simp
  · have hg : (bs.set (bs.length - 1) (bs.getD (bs.length - 1) [] ++ [p])).getD ((bs.set (bs.length - 1) (bs.getD (bs.length - 1) [] ++ [p])).length - 1) [] = bs.getD (bs.length - 1) [] ++ [p] := by
      rw [List.length_set, List.getD_eq_getElem?_getD, List.getElem?_set_self (by omega)]
      rfl
    unfold popB
    rw [hg, if_neg (by rw [List.length_append, List.length_singleton]; omega), List.length_set]
    rw [List.length_append, List.length_singleton, Nat.add_sub_cancel, List.take_left, List.set_set]
    have hlt : bs.length - 1 < bs.length := by omega
    rw [show bs.getD (bs.length - 1) [] = bs[bs.length - 1] by simp [List.getD, hlt]]
    exact List.set_getElem_self hlt

theorem shape_last (bs : List (List Pk)) (head n : Int) (h : ShapeP (bs.map List.length) head n) (h0 : bs ≠ []) : 1 ≤ (bs.getD (bs.length - 1) []).length := by
  have hp : 0 < bs.length := List.length_pos_iff.2 h0
  rcases h with ⟨e, _⟩ | ⟨_, hok, _⟩
  · simp at e; exact absurd e h0
  · have := (hok (bs.length - 1) (by simp; omega)).1
    have hlt : bs.length - 1 < bs.length := by omega
    simpa [List.getD, hlt] using this

theorem both_same {w : World} {b c : Nat} {fs : List Pk} (h1 : In5 w (some ⟨b, 0, none⟩) fs) (h2 : In5 w (some ⟨c, 0, none⟩) fs) {k : Nat} (hk : k < fs.length) :
    w.cell? ⟨b, k * 5, none⟩ = some (.int .u32 fs[k].a) ∧ w.cell? ⟨b, k * 5 + 1, none⟩ = some (.int .u32 fs[k].b) ∧ w.cell? ⟨b, k * 5 + 2, none⟩ = some (.int .u32 fs[k].c) ∧ w.cell? ⟨b, k * 5 + 3, none⟩ = some (.int .u32 fs[k].d) ∧ w.cell? ⟨b, k * 5 + 4, none⟩ = some (.int .u32 fs[k].e) ∧
    w.cell? ⟨c, k * 5, none⟩ = some (.int .u32 fs[k].a) ∧ w.cell? ⟨c, k * 5 + 1, none⟩ = some (.int .u32 fs[k].b) ∧ w.cell? ⟨c, k * 5 + 2, none⟩ = some (.int .u32 fs[k].c) ∧ w.cell? ⟨c, k * 5 + 3, none⟩ = some (.int .u32 fs[k].d) ∧ w.cell? ⟨c, k * 5 + 4, none⟩ = some (.int .u32 fs[k].e) := by
  obtain ⟨b', o', hb, a1, a2, a3, a4, a5⟩ := h1.at hk
  obtain ⟨c', p', hc, c1, c2, c3, c4, c5⟩ := h2.at hk
  simp only [Option.some.injEq, Addr.mk.injEq, and_true] at hb hc
  obtain ⟨rfl, rfl⟩ := hb
  obtain ⟨rfl, rfl⟩ := hc
  simp only [Nat.zero_add] at a1 a2 a3 a4 a5 c1 c2 c3 c4 c5
  exact ⟨a1, a2, a3, a4, a5, c1, c2, c3, c4, c5⟩

set_option maxHeartbeats 2000000 in
set_option maxRecDepth 100000 in
theorem roundTrip_walk (w : World) (ao : Option Addr) (cap : Nat) (bs : List (List Pk)) (hA : ArgRows w ao bs) (lc head n s o i att due : Int)
    (ha : 0 ≤ att ∧ att < 65536) (hd : -9223372036854775808 ≤ due ∧ due ≤ 9223372036854775807) :
    Calls Try.prog 7 #[.slice ao bs.length cap, .int .i64 lc, .int .i64 head, .int .i64 n, .int .u32 s, .int .u32 o, .int .u32 i, .int .u16 att, .int .i64 due] w fun e w' => e = .returned (.bool true) ∧ Below w.heap.size w w' := by
  have HA := hid hA
  clear hA
  go_enter Try.func7, Try.ntmps7
  go_wp2_with fail
  refine (bytes28_any w ao cap bs HA.out.rows HA.out.len HA.out.lens _ _ _ _ _ _ _ _).mono ?_
  rintro e w1 ⟨r1, rfl, rfl, -⟩
  cases r1
  · go_wp2
    go_ret
    exact ⟨rfl, Below.refl _ _⟩
  go_wp2_with fail
  refine (listBytesOK_any w1 ao cap bs HA.out.rows HA.out.len HA.out.lens).mono ?_
  rintro e w2 ⟨r2, rfl, rfl, hb⟩
  cases r2
  · go_wp2
    go_ret
    exact ⟨rfl, Below.refl _ _⟩
  have hb' := hb rfl
  clear hb
  have hlen : bs.length ≤ 1048577 := by omega
  go_wp2_with fail
  refine (lens_any w2 ao cap bs HA.out.rows hlen).mono ?_
  rintro e w3 ⟨rfl, hl3, hb3⟩
  have HL3 := hid hl3
  have HB3 := hid hb3
  clear hl3 hb3
  go_wp2_with fail
  refine (shape_bs w3 _ _ bs head n HL3.out hlen).mono ?_
  rintro e w4 ⟨r4, rfl, rfl, hs⟩
  cases r4
  · go_wp2
    go_ret
    exact ⟨rfl, HB3.out⟩
  have hsh := hs.1 rfl
  have HSH := hid hsh
  have hsm := shape_small bs head n hsh
  have HSM := hid hsm
  obtain ⟨hn1, hn2, hn3, hn4, hn5⟩ := shape_n bs head n hsh
  have HN4 := hid hn4
  have hR4 := HA.out.rows.below HB3.out
  have HR4 := hid hR4
  clear hs hsh hsm hn4 hR4 HL3
  go_wp2_with fail
  refine (lastCap_any w4 ao cap bs lc HR4.out HA.out.len).mono ?_
  rintro e w5 ⟨r5, rfl, rfl, hs⟩
  have HLC := hid hs.symm
  clear hs
  cases r5
  · go_wp2
    go_ret
    exact ⟨rfl, HB3.out⟩
  go_wp2_with fail
  refine (flat_any w5 ao cap bs HR4.out hlen (by omega)).mono ?_
  rintro e w6 ⟨rfl, hf6, hb6⟩
  have HF6 := hid hf6
  have HB6 := hid (HB3.out.trans (hb6.mono HB3.out.size))
  have HR6 := hid (HR4.out.below hb6)
  clear hf6 hb6
  go_wp2_with fail
  refine (makeList_all w6 ao cap bs HR6.out hlen lc HSM.out HLC.out head n).mono ?_
  rintro e w7 ⟨rfl, ⟨pt7, cp7, hv7, h7⟩, hb7⟩
  have H7 := hid h7
  have HF7 := hid (HF6.out.below hb7)
  have HB7 := hid (HB6.out.trans (hb7.mono HB6.out.size))
  clear h7 hb7
  go_wp2_with fail
  refine (zzpush_any w7 w6.heap.size w6.heap.size bs pt7 cp7 hv7 head n H7.out hlen (by omega) s o i att due ha hd).mono ?_
  rintro e w8 ⟨rfl, ⟨pt8, cp8, hv8, h8⟩, ⟨hb8, -⟩⟩
  have H8 := hid h8
  have HF8 := hid (HF7.out.belowB hb8 HF6.out.lt)
  have HB8 := hid (HB7.out.trans (hb8.mono HB6.out.size))
  have hln : (pushB bs (packOf s o i att due)).length ≤ bs.length + 1 := by
    unfold pushB; split <;> simp
  have HLAST := hid (lastIs_push bs (packOf s o i att due))
  have HF6L := hid HF6.out.lt
  have hB68 : w6.heap.size ≤ w8.heap.size := by have h1 := lt_of_block H7.out.own; have h2 := hb8.size; omega
  clear h8 hb8 H7 HF7 HF6 HR6 HR4 HB7 HB3 HLC HSM
  go_wp2_with fail
  refine (zzpop_any w8 w6.heap.size w6.heap.size _ pt8 cp8 hv8 head (n + 1) H8.out (by omega) _ HLAST.out (by omega) (by omega)).mono ?_
  rintro e w9 ⟨rfl, hp9, ⟨hb9, -⟩⟩
  have HP9 := hid hp9
  have HF9 := hid (HF8.out.belowB hb9 HF6L.out)
  have HB9 := hid (HB8.out.trans (hb9.mono HB6.out.size))
  clear hp9 hb9 HB8 HF8 H8
  go_wp2_with fail
  refine (packedOf_yes _ s o i att due ha hd).mono ?_
  rintro e w10 ⟨rfl, hb10⟩
  rw [World.size_alloc] at hb10
  have hb10' : Below w9.heap.size w9 w10 := ((Below.refl _ _).alloc (Nat.le_refl _) _).trans (hb10.mono (by omega))
  have HP10 := hid (popped_keep HP9.out hb10')
  have HF10 := hid (HF9.out.below hb10')
  have HB10 := hid (HB9.out.trans (hb10'.mono HB9.out.size))
  clear hb10 hb10' HP9 HF9 HB9
  by_cases hn0 : n = 0
  · subst hn0
    rcases HP10.out with ⟨_, h10⟩ | ⟨hlt, _⟩
    · have H10 := hid h10
      clear h10 HP10
      go_wp2_with fail
      refine (listState_any w10 w6.heap.size w6.heap.size [] _ _ _ 0 0 H10.out (by simp)).mono ?_
      rintro e w11 ⟨rfl, _, _, hb11⟩
      go_wp2
      go_ret
      exact ⟨rfl, HB10.out.trans (hb11.mono HB10.out.size)⟩
    · omega
  have hne : bs ≠ [] := fun e => hn0 (HN4.out.1 e)
  have hn0' : (n == 0) = false := beq_eq_false_iff_ne.2 hn0
  have hpop := popB_pushB bs (packOf s o i att due) hne (shape_last bs head n HSH.out hne)
  rcases HP10.out with ⟨h1, _⟩ | ⟨_, pt10, cp10, hv10, h10⟩
  · omega
  rw [hpop, show n + 1 - 1 = n by omega] at h10
  have H10 := hid h10
  clear h10 hpop HP10 hne
  go_wp2_with fail
  refine (listState_any w10 w6.heap.size w6.heap.size bs pt10 cp10 hv10 head n H10.out (by omega)).mono ?_
  rintro e w11 ⟨rfl, hr11, hc11, hb11⟩
  have HR11 := hid hr11
  have HC11 := hid hc11
  have HF11 := hid (HF10.out.below hb11)
  have HB11 := hid (HB10.out.trans (hb11.mono HB10.out.size))
  clear hr11 hc11 hb11
  go_wp2_with fail
  refine (lens_any w11 _ _ bs HR11.out (by omega)).mono ?_
  rintro e w12 ⟨rfl, hl12, hb12⟩
  have HL12 := hid hl12
  have HR12 := hid (HR11.out.below hb12)
  have HC12 := hid (HC11.out.below hb12)
  have HF12 := hid (HF11.out.below hb12)
  have HB12 := hid (HB11.out.trans (hb12.mono HB11.out.size))
  clear hl12 hb12
  go_wp2_with fail
  refine (shape_bs w12 _ _ bs head n HL12.out (by omega)).mono ?_
  rintro e w13 ⟨r13, rfl, rfl, hs⟩
  have hr13 := hs.2 HSH.out
  subst hr13
  clear hs
  go_wp2_with fail
  refine (caps_bs w13 _ _ _ _ bs cp10 HL12.out HC12.out (by omega) (fun i hi => H10.out.le hi)).mono ?_
  rintro e w14 ⟨rfl, m, rfl⟩
  go_wp2_with fail
  refine (flat_any (w13.drewN m) _ _ bs HR12.out (by omega) (by omega)).mono ?_
  rintro e w15 ⟨rfl, hf15, hb15⟩
  have HF15 := hid (show In5 w15 (some ⟨w13.heap.size, 0, none⟩) bs.flatten from hf15)
  have HG15 := hid (In5.below (w := w13.drewN m) HF12.out hb15)
  have HB15 := hid ((below_drewN (n := m) HB12.out).trans (hb15.mono HB12.out.size))
  clear hf15 hb15
  go_wp2_with fail
  have HP := hid (show total bs = bs.flatten.length from total_flatten bs)
  generalize w5.heap.size = P5 at *
  generalize w13.heap.size = P13 at *
  generalize total bs = T at *
  go_loopw [28] (fun i wr => ∃ k n : Nat, k ≤ T ∧ i = .int .i64 k ∧ wr = w15.drewN n) (fun i _ => T - (intOf i).toNat)
  case atStart => exact ⟨0, 0, Nat.zero_le _, rfl, rfl⟩
  case round =>
    obtain ⟨k, q, hk, rfl, rfl⟩ := hrel
    by_cases hlt : k < T
    · obtain ⟨e1, e2, e3, e4, e5, e6, e7, e8, e9, e10⟩ := both_same HG15.out HF15.out (k := k) (by rw [← HP.out]; exact hlt)
      generalize bs.flatten[k]'(by rw [← HP.out]; exact hlt) = p at *
      have i1 : (k : Int) < (T : Int) := by omega
      have i0 : (0 : Int) ≤ (k : Int) := by omega
      have heq := fun w => eq60 w p
      have hgd := eqG60
      go_wp2_with fail
      go_quiet (fail)
      go_wp2
      go_roundw
      case rel => exact ⟨k + 1, q + nq, by omega, by go_num, rfl⟩
      case measure => simp [intOf]; omega
    · go_wp2
      go_ret
      exact ⟨rfl, below_drewN (n := q) HB15.out⟩
end Go.Proofs.Qxb6602566a
