import Derived.Test.Qxb6602566aState
namespace Go.Proofs.Qxb6602566a
open Go.RowKit

set_option maxHeartbeats 1000000 in
theorem listShape_any (w : World) (B l : Nat) (bs : List (List Pk)) (pt cp : Nat → Nat) (hv : Value) (head n : Int) (h : LstAt w B l bs pt cp hv head n) (hl : bs.length ≤ 1048577) :
    Calls Try.prog 31 #[.pointer (some ⟨l, 0, none⟩)] w fun e w' => e = .returned (.tuple #[.slice (some ⟨w.heap.size, 0, none⟩) bs.length bs.length, .slice (some ⟨w.heap.size + 1, 0, none⟩) bs.length bs.length, .int .i64 head, .int .i64 n]) ∧
      InInts w' (some ⟨w.heap.size, 0, none⟩) (bs.map List.length) ∧ InInts w' (some ⟨w.heap.size + 1, 0, none⟩) ((List.range bs.length).map cp) ∧ Below w.heap.size w w' := by
  obtain ⟨ha, hc, rfl⟩ := h.shape
  have hc0 : w.cell? ⟨l, 0, none⟩ = some (.slice ha bs.length hc) := by simp [World.cell?, h.own]
  have hc1 : w.cell? ⟨l, 1, none⟩ = some (.int .i64 head) := by simp [World.cell?, h.own]
  have hc2 : w.cell? ⟨l, 2, none⟩ = some (.int .i64 n) := by simp [World.cell?, h.own]
  have hll : l < w.heap.size := lt_of_block h.own
  have hmk := mk_run (P := Try.prog) 37 3 _ 1 8 Try.underlying37 info3 bs.length bs.length (Nat.le_refl _) (by omega) (by omega)
  have H := hid h
  clear h
  go_enter Try.func31, Try.ntmps31
  go_wp2
  clear hmk
  go_loopw [8] (fun i wr => ∃ (k : Nat), k ≤ bs.length ∧ i = .int .i64 k ∧ wr.rowIs w.heap.size 3 bs.length (fun i => .int .i64 (if i < k then ((bs.getD i []).length : Int) else 0)) ∧ wr.rowIs (w.heap.size + 1) 3 bs.length (fun i => .int .i64 (if i < k then (cp i : Int) else 0)) ∧ Below w.heap.size w wr) (fun i _ => bs.length - (intOf i).toNat)
  case atStart =>
    refine ⟨0, Nat.zero_le _, rfl, ?_, ?_, ((Below.refl _ _).alloc (Nat.le_refl _) _).alloc (by simp) _⟩
    · simpa using (World.rowIs_made w (.int .i64 0) bs.length 3).alloc (.cells (madeCells #[.int .i64 0] bs.length) 3)
    · simpa using World.rowIs_made (w.alloc (.cells (madeCells #[.int .i64 0] bs.length) 3)) (.int .i64 0) bs.length 3
  case round =>
    obtain ⟨k, hk, rfl, hG, hC, hb⟩ := hrel
    have d0 : wr.cell? ⟨l, 0, none⟩ = some (.slice ha bs.length hc) := (hb.cell (p := ⟨l, 0, none⟩) hll).trans hc0
    by_cases hlt : k < bs.length
    · obtain ⟨hb', rfl, _, -, hlc, hcell, _⟩ := H.out.cells hlt
      have hcell' : wr.cell? ⟨hb', k, none⟩ = some (.slice (some ⟨pt k, 0, none⟩) bs[k].length (cp k)) := (hb.cell (p := ⟨hb', k, none⟩) (World.block_lt_of_cell? _ _ hcell)).trans hcell
      have hes : Hid (bs.getD k [] = bs[k]) := by simp [Hid, List.getD, hlt]
      have hbl : hb' < w.heap.size := World.block_lt_of_cell? _ _ hcell
      have s1 := hG.cell hlt
      have s2 := hG.frozen k
      have s3 := hC.cell hlt
      have s4 := hC.frozen k
      have n1 : l ≠ w.heap.size := by omega
      have n2 : l ≠ w.heap.size + 1 := by omega
      have n3 : hb' ≠ w.heap.size := by omega
      have n4 : hb' ≠ w.heap.size + 1 := by omega
      have n5 : w.heap.size ≠ l := by omega
      have n6 : w.heap.size ≠ hb' := by omega
      have HG := hid hG
      have HC := hid hC
      have HB := hid hb
      clear hcell hG hC hb hc0 hc1 hc2
      generalize bs[k] = es at *
      go_wp2
      go_roundw
      case rel =>
        refine ⟨k + 1, by omega, by go_num, ((HG.out.set k _).setOther (by simp) _).congr fun i _ => ?_, ((HC.out.setOther (by simp) _).set k _).congr fun i _ => ?_, (HB.out.setCell (Nat.le_refl _) _).setCell (by simp) _⟩
        · by_cases e : i = k
          · subst e; rw [if_pos rfl, if_pos (by omega), hes.out]
          · have : (i < k + 1) ↔ (i < k) := by omega
            simp [e, this]
        · by_cases e : i = k
          · subst e; rw [if_pos rfl, if_pos (by omega)]
          · have : (i < k + 1) ↔ (i < k) := by omega
            simp [e, this]
      case measure => simp [intOf]; omega
    · have d1 : wr.cell? ⟨l, 1, none⟩ = some (.int .i64 head) := (hb.cell (p := ⟨l, 1, none⟩) hll).trans hc1
      have d2 : wr.cell? ⟨l, 2, none⟩ = some (.int .i64 n) := (hb.cell (p := ⟨l, 2, none⟩) hll).trans hc2
      have hkl := hid (show k = bs.length by omega)
      have HG := hid hG
      have HC := hid hC
      have HB := hid hb
      clear hG hC hb hc0 hc1 hc2
      go_wp2_with fail
      go_quiet (fail)
      go_wp2
      refine bodyPost_ret (v := .tuple #[.slice (some ⟨w.heap.size, 0, none⟩) bs.length bs.length, .slice (some ⟨w.heap.size + 1, 0, none⟩) bs.length bs.length, .int .i64 head, .int .i64 n]) (by simp [results, Try.results31, go_sem]) rfl ⟨rfl, ?_, ?_, ?_⟩
      · have := state_ints (m := nq) (cp := fun i => (bs.getD i []).length) HG.out hkl.out
        rwa [show (List.range bs.length).map (fun i => (bs.getD i []).length) = bs.map List.length from ?_] at this
        apply List.ext_getElem?
        intro i
        by_cases hi : i < bs.length
        · simp [hi, List.getD]
        · simp [hi]
      · exact state_ints HC.out hkl.out
      · exact below_drewN HB.out

theorem newList_any (w : World) : Calls Try.prog 30 #[] w fun e w' => e = .returned (.pointer (some ⟨w.heap.size, 0, none⟩)) ∧ w' = w.alloc (.cells #[.slice none 0 0, .int .i64 0, .int .i64 0] 79) := by
  go_enter Try.func30, Try.ntmps30
  go_wp2
  go_ret
  exact ⟨rfl, rfl⟩

theorem bytes29_any (w : World) (a0 a1 a2 a3 a4 a5 : Option Addr) (l0 l1 l2 l3 l4 l5 c0 c1 c2 c3 c4 c5 : Nat) (h0 : l0 ≤ maxLen) (h1 : l1 ≤ maxLen) (h2 : l2 ≤ maxLen) (h3 : l3 ≤ maxLen) (h4 : l4 ≤ maxLen) (h5 : l5 ≤ maxLen) :
    Calls Try.prog 29 #[.slice a0 l0 c0, .slice a1 l1 c1, .slice a2 l2 c2, .slice a3 l3 c3, .slice a4 l4 c4, .slice a5 l5 c5] w (RetB w fun _ => True) := by
  unfold maxLen at h0 h1 h2 h3 h4 h5
  go_enter Try.func29, Try.ntmps29
  go_wp2
  all_goals
    go_ret
    exact ⟨_, rfl, rfl, trivial⟩
end Go.Proofs.Qxb6602566a
