import Derived.Test.Qxb6602566aHeap
namespace Go.Proofs.Qxb6602566a
open Go.RowKit

theorem lens_any (w : World) (ao : Option Addr) (cap : Nat) (bs : List (List Pk)) (hr : InRows w ao bs) (hl : bs.length ≤ 1048577) :
    Calls Try.prog 18 #[.slice ao bs.length cap] w fun e w' => e = .returned (.slice (some ⟨w.heap.size, 0, none⟩) bs.length bs.length) ∧ InInts w' (some ⟨w.heap.size, 0, none⟩) (bs.map List.length) ∧ Below w.heap.size w w' := by
  have hmk := mk_run (P := Try.prog) 37 3 _ 1 8 Try.underlying37 info3 bs.length bs.length (Nat.le_refl _) (by omega) (by omega)
  go_enter Try.func18, Try.ntmps18
  go_wp2
  clear hmk
  go_loopw [4] (fun i wr => ∃ k : Nat, k ≤ bs.length ∧ i = .int .i64 k ∧ wr.rowIs w.heap.size 3 bs.length (fun j => .int .i64 (if j < k then ((bs.getD j []).length : Int) else 0)) ∧ Below w.heap.size w wr) (fun i _ => bs.length - (intOf i).toNat)
  case atStart => exact ⟨0, Nat.zero_le _, rfl, by simpa using World.rowIs_made _ _ _ _, (Below.refl _ _).alloc (Nat.le_refl _) _⟩
  case round =>
    obtain ⟨k, hk, rfl, hrow, hb⟩ := hrel
    by_cases hlt : k < bs.length
    · obtain ⟨b, off, rfl, ai, ci, hcell, _⟩ := hr.at hlt
      have hcell' : wr.cell? ⟨b, off + k, none⟩ = some (.slice ai bs[k].length ci) := (hb.cell (p := ⟨b, off + k, none⟩) (World.block_lt_of_cell? _ _ hcell)).trans hcell
      have hg : Hid ((bs.getD k []).length = bs[k].length) := by simp [Hid, List.getD, hlt]
      have h1 := hrow.cell hlt
      have h2 := hrow.frozen k
      have HR := hid hrow
      have HB := hid hb
      clear hr hcell hrow hb
      generalize bs[k].length = L at *
      go_wp2
      go_roundw
      case rel =>
        refine ⟨k + 1, by omega, by go_num, (HR.out.set k _).congr fun j hj => ?_, HB.out.setCell (Nat.le_refl _) _⟩
        by_cases e : j = k
        · subst e; rw [if_pos rfl, if_pos (by omega), hg.out]
        · have : (j < k) ↔ (j < k + 1) := by omega
          simp [e, this]
      case measure => simp [intOf]; omega
    · go_wp2
      go_ret
      refine ⟨rfl, ?_, hb⟩
      rcases Nat.eq_zero_or_pos bs.length with h0 | h0
      · exact .inl (by simpa using h0)
      · refine .inr ⟨_, _, rfl, fun i hi => ?_⟩
        have hi' : i < bs.length := by simpa using hi
        rw [Nat.zero_add, hrow.cell hi', if_pos (by omega)]
        simp [List.getD, hi']

theorem makeList_nil (w : World) (ao : Option Addr) (cap : Nat) (lc head n : Int) :
    Calls Try.prog 21 #[.slice ao 0 cap, .int .i64 lc, .int .i64 head, .int .i64 n] w fun e w' => e = .returned (.pointer (some ⟨w.heap.size, 0, none⟩)) ∧ LstAt w' w.heap.size w.heap.size [] (fun _ => 0) (fun _ => 0) (.slice none 0 0) head n ∧ Below w.heap.size w w' := by
  go_enter Try.func21, Try.ntmps21
  go_wp2
  go_ret
  refine ⟨rfl, ⟨Nat.le_refl _, ?_, ⟨by simp, .inl ⟨rfl, rfl⟩⟩, by simp, by intro i j hi; simp at hi, by simp⟩, (Below.refl _ _).alloc (Nat.le_refl _) _⟩
  show (w.heap.push _)[w.heap.size]? = _
  simp

theorem capAt_le (bs : List (List Pk)) (c : Nat) (hc1 : (bs.getD (bs.length - 1) []).length ≤ c) (i : Nat) : (bs.getD i []).length ≤ capAt bs c i := by
  unfold capAt
  split
  · rw [show i = bs.length - 1 by omega]; exact hc1
  · exact Nat.le_refl _

theorem capAt_4096 (bs : List (List Pk)) (c : Nat) (hsm : ∀ i, i < bs.length → (bs.getD i []).length ≤ 4096) (hc2 : c ≤ 4096) (i : Nat) (hi : i < bs.length) : capAt bs c i ≤ 4096 := by
  unfold capAt
  split
  · exact hc2
  · exact hsm i hi

set_option maxHeartbeats 1000000 in
theorem makeList_cons (w : World) (ao : Option Addr) (cap : Nat) (bs : List (List Pk)) (hr : InRows w ao bs) (hl : bs.length ≤ 1048577) (hp : 0 < bs.length) (c : Nat) (hsm : ∀ i, i < bs.length → (bs.getD i []).length ≤ 4096)
    (hc1 : (bs.getD (bs.length - 1) []).length ≤ c) (hc2 : c ≤ 4096) (head n : Int) :
    Calls Try.prog 21 #[.slice ao bs.length cap, .int .i64 (c : Int), .int .i64 head, .int .i64 n] w fun e w' => e = .returned (.pointer (some ⟨w.heap.size, 0, none⟩)) ∧ (∃ pt hv, LstAt w' w.heap.size w.heap.size bs pt (capAt bs c) hv head n) ∧ Below w.heap.size w w' := by
  have hmk := mk_run (P := Try.prog) 77 80 _ 1 24 Try.underlying77 info80 bs.length bs.length (Nat.le_refl _) (by omega) (by omega)
  have hz : ((bs.length : Int) == 0) = false := beq_eq_false_iff_ne.2 (by omega)
  go_enter Try.func21, Try.ntmps21
  go_wp2
  clear hmk
  go_loopw [11] (fun i wr => ∃ (k : Nat) (pt : Nat → Nat), k ≤ bs.length ∧ i = .int .i64 k ∧ wr.heap[w.heap.size]? = some (.cells #[.slice (some ⟨w.heap.size + 1, 0, none⟩) bs.length bs.length, .int .i64 head, .int .i64 n] 79 (0, 0)) ∧ wr.rowIs (w.heap.size + 1) 80 bs.length (hdrVal bs c pt k) ∧ RowsMade wr w.heap.size bs c pt k ∧ InjTo pt k ∧ Below w.heap.size w wr) (fun i _ => bs.length - (intOf i).toNat)
  case atStart =>
    refine ⟨0, fun _ => 0, Nat.zero_le _, rfl, ?_, ?_, ?_, ?_, ((Below.refl _ _).alloc (Nat.le_refl _) _).alloc (by simp) _⟩
    · show ((w.heap.push _).push _)[w.heap.size]? = _
      rw [Array.getElem?_push, if_neg (by simp), Array.getElem?_push, if_pos rfl]
    · refine World.rowIs.congr (f := fun _ => .slice none 0 0) ?_ fun i _ => by simp [hdrVal]
      simpa using World.rowIs_made (w.alloc (.cells #[.slice (some ⟨w.heap.size + 1, 0, none⟩) bs.length bs.length, .int .i64 head, .int .i64 n] 79)) (.slice none 0 0) bs.length 80
    · intro i hi; simp at hi
    · intro i j hi; simp at hi
  case round =>
    obtain ⟨k, pt, hk, rfl, hS, hH, hP, hI, hb⟩ := hrel
    by_cases hlt : k < bs.length
    · obtain ⟨b, off, rfl, ai, ci, hcell, h5⟩ := hr.at hlt
      have hcell' : wr.cell? ⟨b, off + k, none⟩ = some (.slice ai bs[k].length ci) := (hb.cell (p := ⟨b, off + k, none⟩) (World.block_lt_of_cell? _ _ hcell)).trans hcell
      have hes : Hid (bs.getD k [] = bs[k]) := by simp [Hid, List.getD, hlt]
      have hes4 : bs[k].length ≤ 4096 := by rw [← hes.out]; exact hsm k hlt
      clear hcell
      by_cases hkl : k + 1 = bs.length
      · have hec : bs[k].length ≤ c := by rw [← hes.out, show k = bs.length - 1 by omega]; exact hc1
        have hkl' : ((k : Int) == (bs.length : Int) - 1) = true := by simp; omega
        have cpK : ∀ es : List Pk, bs.getD k [] = es → capAt bs c k = c := fun _ _ => by unfold capAt; rw [if_pos hkl]
        have CPK := hid cpK
        clear cpK hkl
        generalize bs[k] = es at *
        have hmk := mk_run (P := Try.prog) 80 84 _ 5 20 Try.underlying80 info84 es.length c hec (by omega) (by omega)

        have hbs : w.heap.size ≤ wr.heap.size := hb.size
        go_wp2
        obtain ⟨wo, rfl⟩ : ∃ wo : World, wo = wr := ⟨_, rfl⟩
        clear hmk
        go_loopw [15] (fun i wr => ∃ j : Nat, j ≤ es.length ∧ i = .int .i64 j ∧ Below wo.heap.size wo wr ∧ wr.rowIs wo.heap.size 84 (c * 5) (fun i => if i < 5 * j then cellsOf es i else .int .u32 0)) (fun i _ => es.length - (intOf i).toNat)
        case atStart => exact ⟨0, Nat.zero_le _, rfl, (Below.refl _ _).alloc (Nat.le_refl _) _, by simpa using row_made5 wo c 84⟩
        case round =>
          obtain ⟨j, hj, rfl, hb2, hrow⟩ := hrel
          by_cases hjl : j < es.length
          · obtain ⟨b', off', rfl, e1, e2, e3, e4, e5⟩ := h5.at hjl
            have hbel := hb.trans (hb2.mono hb.size)
            have q1 : wr.cell? ⟨b', off' + j * 5, none⟩ = _ := (hbel.cell (p := ⟨b', off' + j * 5, none⟩) (World.block_lt_of_cell? _ _ e1)).trans e1
            have q2 : wr.cell? ⟨b', off' + j * 5 + 1, none⟩ = _ := (hbel.cell (p := ⟨b', off' + j * 5 + 1, none⟩) (World.block_lt_of_cell? _ _ e2)).trans e2
            have q3 : wr.cell? ⟨b', off' + j * 5 + 2, none⟩ = _ := (hbel.cell (p := ⟨b', off' + j * 5 + 2, none⟩) (World.block_lt_of_cell? _ _ e3)).trans e3
            have q4 : wr.cell? ⟨b', off' + j * 5 + 3, none⟩ = _ := (hbel.cell (p := ⟨b', off' + j * 5 + 3, none⟩) (World.block_lt_of_cell? _ _ e4)).trans e4
            have q5 : wr.cell? ⟨b', off' + j * 5 + 4, none⟩ = _ := (hbel.cell (p := ⟨b', off' + j * 5 + 4, none⟩) (World.block_lt_of_cell? _ _ e5)).trans e5
            have r1 := hrow.cell (i := j * 5) (by omega)
            have r2 := hrow.cell (i := j * 5 + 1) (by omega)
            have r3 := hrow.cell (i := j * 5 + 2) (by omega)
            have r4 := hrow.cell (i := j * 5 + 3) (by omega)
            have r5 := hrow.cell (i := j * 5 + 4) (by omega)
            have f1 := hrow.frozen (j * 5)
            have f2 := hrow.frozen (j * 5 + 1)
            have f3 := hrow.frozen (j * 5 + 2)
            have f4 := hrow.frozen (j * 5 + 3)
            have f5 := hrow.frozen (j * 5 + 4)
            have hlt2 := hrow.lt
            have HR := hid hrow
            have HB := hid hb2
            have hst := hid (fill_step es j hjl)
            clear e1 e2 e3 e4 e5 hrow hb2 hbel hb hr h5 hcell' hS hH hP hI
            generalize es[j] = p at *
            go_wp2
            go_roundw
            case rel => exact ⟨j + 1, by omega, by go_num, ((((((HB.out.setCell (Nat.le_refl _) _).setCell (Nat.le_refl _) _).setCell (Nat.le_refl _) _).setCell (Nat.le_refl _) _).setCell (Nat.le_refl _) _).alloc (by simp; omega) _), ((row_set5 HR.out (j * 5) _ _ _ _ _).congr fun i _ => hst.out i _).alloc _⟩
            case measure => simp [intOf]; omega
          · have s1 : wr.cell? ⟨w.heap.size, 0, none⟩ = some (.slice (some ⟨w.heap.size + 1, 0, none⟩) bs.length bs.length) := by
              rw [hb2.cell (p := ⟨w.heap.size, 0, none⟩) (lt_of_block hS)]; simp [World.cell?, hS]
            have s2 : wr.cell? ⟨w.heap.size + 1, k, none⟩ = some (.slice none 0 0) := by
              rw [hb2.cell (p := ⟨w.heap.size + 1, k, none⟩) hH.lt, hH.cell hlt, hdrVal, if_neg (by omega)]
            have s3 : wr.frozen? ⟨w.heap.size + 1, k, none⟩ = false := by
              rw [hb2.frozen (p := ⟨w.heap.size + 1, k, none⟩) hH.lt, hH.frozen k]
            have hjl' := hid hj
            have step := hid (made_step hS hH hP hI hb2 (hrow.congr (g := fun q => if q < 5 * es.length then cellsOf es q else .int .u32 0) fun q _ => by rw [show j = es.length by omega]) hb hlt hes.out (CPK.out _ hes.out))
            clear hb2 hrow hb hr h5 hcell' hS hH hP hI
            go_wp2
            go_roundw
            case rel =>
              obtain ⟨t1, t2, t3, t4, t5⟩ := step.out
              exact ⟨k + 1, _, by omega, by go_num, t1, t2, t3, t4, t5⟩
            case measure => simp [intOf]; omega
      · have hkl' : ((k : Int) == (bs.length : Int) - 1) = false := by simp; omega
        have cpK : ∀ es : List Pk, bs.getD k [] = es → capAt bs c k = es.length := fun _ h => by unfold capAt; rw [if_neg hkl, h]
        have CPK := hid cpK
        clear cpK hkl
        generalize bs[k] = es at *
        have hmk := mk_run (P := Try.prog) 80 84 _ 5 20 Try.underlying80 info84 es.length es.length (Nat.le_refl _) (by omega) (by omega)

        have hbs : w.heap.size ≤ wr.heap.size := hb.size
        go_wp2
        obtain ⟨wo, rfl⟩ : ∃ wo : World, wo = wr := ⟨_, rfl⟩
        clear hmk
        go_loopw [15] (fun i wr => ∃ j : Nat, j ≤ es.length ∧ i = .int .i64 j ∧ Below wo.heap.size wo wr ∧ wr.rowIs wo.heap.size 84 (es.length * 5) (fun i => if i < 5 * j then cellsOf es i else .int .u32 0)) (fun i _ => es.length - (intOf i).toNat)
        case atStart => exact ⟨0, Nat.zero_le _, rfl, (Below.refl _ _).alloc (Nat.le_refl _) _, by simpa using row_made5 wo es.length 84⟩
        case round =>
          obtain ⟨j, hj, rfl, hb2, hrow⟩ := hrel
          by_cases hjl : j < es.length
          · obtain ⟨b', off', rfl, e1, e2, e3, e4, e5⟩ := h5.at hjl
            have hbel := hb.trans (hb2.mono hb.size)
            have q1 : wr.cell? ⟨b', off' + j * 5, none⟩ = _ := (hbel.cell (p := ⟨b', off' + j * 5, none⟩) (World.block_lt_of_cell? _ _ e1)).trans e1
            have q2 : wr.cell? ⟨b', off' + j * 5 + 1, none⟩ = _ := (hbel.cell (p := ⟨b', off' + j * 5 + 1, none⟩) (World.block_lt_of_cell? _ _ e2)).trans e2
            have q3 : wr.cell? ⟨b', off' + j * 5 + 2, none⟩ = _ := (hbel.cell (p := ⟨b', off' + j * 5 + 2, none⟩) (World.block_lt_of_cell? _ _ e3)).trans e3
            have q4 : wr.cell? ⟨b', off' + j * 5 + 3, none⟩ = _ := (hbel.cell (p := ⟨b', off' + j * 5 + 3, none⟩) (World.block_lt_of_cell? _ _ e4)).trans e4
            have q5 : wr.cell? ⟨b', off' + j * 5 + 4, none⟩ = _ := (hbel.cell (p := ⟨b', off' + j * 5 + 4, none⟩) (World.block_lt_of_cell? _ _ e5)).trans e5
            have r1 := hrow.cell (i := j * 5) (by omega)
            have r2 := hrow.cell (i := j * 5 + 1) (by omega)
            have r3 := hrow.cell (i := j * 5 + 2) (by omega)
            have r4 := hrow.cell (i := j * 5 + 3) (by omega)
            have r5 := hrow.cell (i := j * 5 + 4) (by omega)
            have f1 := hrow.frozen (j * 5)
            have f2 := hrow.frozen (j * 5 + 1)
            have f3 := hrow.frozen (j * 5 + 2)
            have f4 := hrow.frozen (j * 5 + 3)
            have f5 := hrow.frozen (j * 5 + 4)
            have hlt2 := hrow.lt
            have HR := hid hrow
            have HB := hid hb2
            have hst := hid (fill_step es j hjl)
            clear e1 e2 e3 e4 e5 hrow hb2 hbel hb hr h5 hcell' hS hH hP hI
            generalize es[j] = p at *
            go_wp2
            go_roundw
            case rel => exact ⟨j + 1, by omega, by go_num, ((((((HB.out.setCell (Nat.le_refl _) _).setCell (Nat.le_refl _) _).setCell (Nat.le_refl _) _).setCell (Nat.le_refl _) _).setCell (Nat.le_refl _) _).alloc (by simp; omega) _), ((row_set5 HR.out (j * 5) _ _ _ _ _).congr fun i _ => hst.out i _).alloc _⟩
            case measure => simp [intOf]; omega
          · have s1 : wr.cell? ⟨w.heap.size, 0, none⟩ = some (.slice (some ⟨w.heap.size + 1, 0, none⟩) bs.length bs.length) := by
              rw [hb2.cell (p := ⟨w.heap.size, 0, none⟩) (lt_of_block hS)]; simp [World.cell?, hS]
            have s2 : wr.cell? ⟨w.heap.size + 1, k, none⟩ = some (.slice none 0 0) := by
              rw [hb2.cell (p := ⟨w.heap.size + 1, k, none⟩) hH.lt, hH.cell hlt, hdrVal, if_neg (by omega)]
            have s3 : wr.frozen? ⟨w.heap.size + 1, k, none⟩ = false := by
              rw [hb2.frozen (p := ⟨w.heap.size + 1, k, none⟩) hH.lt, hH.frozen k]
            have hjl' := hid hj
            have step := hid (made_step hS hH hP hI hb2 (hrow.congr (g := fun q => if q < 5 * es.length then cellsOf es q else .int .u32 0) fun q _ => by rw [show j = es.length by omega]) hb hlt hes.out (CPK.out _ hes.out))
            clear hb2 hrow hb hr h5 hcell' hS hH hP hI
            go_wp2
            go_roundw
            case rel =>
              obtain ⟨t1, t2, t3, t4, t5⟩ := step.out
              exact ⟨k + 1, _, by omega, by go_num, t1, t2, t3, t4, t5⟩
            case measure => simp [intOf]; omega
    · have hkl := hid (show k = bs.length by omega)
      go_wp2
      go_ret
      refine ⟨rfl, ⟨pt, _, Nat.le_refl _, hS, ?_, fun i hi => ?_, by rw [← hkl.out]; exact hI, fun i hi => ?_⟩, hb⟩
      · have h := owns_of_row (B := w.heap.size) (size := 1) (n := bs.length) (cap := bs.length) (by simpa using hH) (by omega) (Nat.le_refl _) (by unfold maxLen; omega)
        rw [Nat.mul_one] at h
        rw [List.map_congr_left (g := hdrVal bs c pt k) fun i hi => ?_]
        · exact h
        · rw [hdrVal, if_pos (by rw [hkl.out]; exact List.mem_range.1 hi)]
      · obtain ⟨p1, p2, p3⟩ := hP i (by rw [hkl.out]; exact hi)
        have h := owns_of_row (B := w.heap.size) (size := 5) (n := (bs.getD i []).length) p3 (by omega) (capAt_le bs c hc1 i) (by have := capAt_4096 bs c hsm hc2 i hi; unfold maxLen; omega)
        rw [List.map_congr_left (g := cellsOf (bs.getD i [])) fun q hq => ?_, flat_eq] at h
        · exact h
        · rw [if_pos (by have := List.mem_range.1 hq; omega)]
      · exact capAt_4096 bs c hsm hc2 i hi
end Go.Proofs.Qxb6602566a
