import Derived.Test.Qxb6602566aHeap
import Derived.BigQuiet
import Derived.Deep.QuietTactic
namespace Go.Proofs.Qxb6602566a
open Go.RowKit

theorem LstAt.shape {w : World} {B l : Nat} {bs : List (List Pk)} {pt cp : Nat → Nat} {hv : Value} {head n : Int} (h : LstAt w B l bs pt cp hv head n) :
    ∃ ha hc, hv = .slice ha bs.length hc := by
  obtain ⟨_, h2⟩ := h.hdr
  rcases h2 with ⟨rfl, h0⟩ | ⟨g, cap, cur, rfl, _⟩
  · exact ⟨none, 0, by rw [h0]⟩
  · exact ⟨_, _, rfl⟩

theorem LstAt.cells {w : World} {B l : Nat} {bs : List (List Pk)} {pt cp : Nat → Nat} {ha : Option Addr} {len hc : Nat} {head n : Int} (h : LstAt w B l bs pt cp (.slice ha len hc) head n) {i : Nat} (hi : i < bs.length) :
    ∃ hb, ha = some ⟨hb, 0, none⟩ ∧ B ≤ hb ∧ len = bs.length ∧ len ≤ hc ∧ w.cell? ⟨hb, i, none⟩ = some (.slice (some ⟨pt i, 0, none⟩) bs[i].length (cp i)) ∧ w.frozen? ⟨hb, i, none⟩ = false := by
  have h' := h.hdr
  obtain ⟨hx, h2⟩ := h'
  rcases h2 with ⟨_, h0⟩ | ⟨g, cap, cur, hv, hB, hh, hn, hm, hs, ht⟩
  · omega
  · have hv' := hv
    simp only [Value.slice.injEq] at hv
    obtain ⟨rfl, rfl, rfl⟩ := hv
    refine ⟨g, rfl, hB, rfl, hn, ?_, ?_⟩
    · rw [h.hdr.cellAt i (by omega)]
      simp [hi, List.getD]
    · exact h.hdr.frozenAt i

theorem LstAt.in5 {w : World} {B l : Nat} {bs : List (List Pk)} {pt cp : Nat → Nat} {hv : Value} {head n : Int} (h : LstAt w B l bs pt cp hv head n) {i : Nat} (hi : i < bs.length) : In5 w (some ⟨pt i, 0, none⟩) bs[i] := by
  have := h.row i hi
  rw [show bs.getD i [] = bs[i] by simp [List.getD, hi]] at this
  exact In5_of_owns this

theorem LstAt.le {w : World} {B l : Nat} {bs : List (List Pk)} {pt cp : Nat → Nat} {hv : Value} {head n : Int} (h : LstAt w B l bs pt cp hv head n) {i : Nat} (hi : i < bs.length) : bs[i].length ≤ cp i ∧ cp i ≤ 4096 := by
  refine ⟨?_, h.cap i hi⟩
  obtain ⟨_, h2⟩ := h.row i hi
  rw [show bs.getD i [] = bs[i] by simp [List.getD, hi]] at h2
  rcases h2 with ⟨h0, _⟩ | ⟨g, cap, cur, hv, hB, hh, hn, hm, hs, ht⟩
  · simp at h0
  · simp only [Value.slice.injEq] at hv
    omega

/-- The rows that are laid so far, of type 60. -/
def Laid60 (wr : World) (N : Nat) (bs : List (List Pk)) (g : Nat → Value) (k : Nat) : Prop :=
  ∀ i, i < k → ∃ p, N + 2 ≤ p ∧ p < wr.heap.size ∧ g i = .slice (some ⟨p, 0, none⟩) (bs.getD i []).length (bs.getD i []).length ∧ wr.rowIs p 60 ((bs.getD i []).length * 5) (fun q => if q < 5 * (bs.getD i []).length then cellsOf (bs.getD i []) q else .int .u32 0)

theorem laid_step {wo wr : World} {N k : Nat} {bs : List (List Pk)} {es : List Pk} {g : Nat → Value} {u : Value} (hN : N + 1 < wo.heap.size) (hP : Laid60 wo N bs g k) (hb2 : Below wo.heap.size wo wr)
    (hrow : wr.rowIs wo.heap.size 60 (es.length * 5) (fun q => if q < 5 * es.length then cellsOf es q else .int .u32 0)) (hes : bs.getD k [] = es) :
    Laid60 ((wr.setCell ⟨N, k, none⟩ (.slice (some ⟨wo.heap.size, 0, none⟩) es.length es.length)).setCell ⟨N + 1, k, none⟩ u) N bs (fun j => if j = k then (.slice (some ⟨wo.heap.size, 0, none⟩) es.length es.length) else g j) (k + 1) := by
  subst hes
  intro i hi
  by_cases e : i = k
  · subst e
    exact ⟨wo.heap.size, by omega, by rw [World.size_setCell, World.size_setCell]; exact hrow.lt, by simp, (hrow.setOther (by simp; omega) _).setOther (by simp; omega) _⟩
  · obtain ⟨p, p1, p2, p3, p4⟩ := hP i (by omega)
    exact ⟨p, p1, by rw [World.size_setCell, World.size_setCell]; have := hb2.size; omega, by simp only [e, if_false]; exact p3, ((p4.of_block (hb2.block _ p2)).setOther (by simp; omega) _).setOther (by simp; omega) _⟩

theorem state_rows {wr : World} {N m : Nat} {bs : List (List Pk)} {g : Nat → Value} (hG : wr.rowIs N 52 bs.length g) (hP : Laid60 wr N bs g bs.length) (hsm : ∀ i, i < bs.length → (bs.getD i []).length ≤ 4096) : InRows (wr.drewN m) (some ⟨N, 0, none⟩) bs := by
  show InRows wr _ _
  refine .inr ⟨N, 0, rfl, fun i hi => ?_⟩
  obtain ⟨p, p1, p2, p3, p4⟩ := hP i hi
  have h4 := hsm i hi
  have e : bs.getD i [] = bs[i] := by simp [List.getD, hi]
  rw [e] at p3 p4 h4
  exact ⟨_, _, by rw [Nat.zero_add, hG.cell hi, p3], In5_of_row p4 (Nat.le_refl _) (by unfold maxLen; omega)⟩

theorem state_ints {wr : World} {N m len k : Nat} {cp : Nat → Nat} (hC : wr.rowIs N 3 len (fun i => .int .i64 (if i < k then (cp i : Int) else 0))) (hk : k = len) : InInts (wr.drewN m) (some ⟨N, 0, none⟩) ((List.range len).map cp) := by
  show InInts wr _ _
  refine .inr ⟨N, 0, rfl, fun i hi => ?_⟩
  have hi' : i < len := by simpa using hi
  rw [Nat.zero_add, hC.cell hi', if_pos (by omega)]
  simp

theorem below_drewN {B n : Nat} {a w : World} (h : Below B a w) : Below B a (w.drewN n) := ⟨h.os, h.tape, h.output, h.size, h.block⟩

set_option maxHeartbeats 1000000 in
theorem listState_any (w : World) (B l : Nat) (bs : List (List Pk)) (pt cp : Nat → Nat) (hv : Value) (head n : Int) (h : LstAt w B l bs pt cp hv head n) (hl : bs.length ≤ 1048577) :
    Calls Try.prog 23 #[.pointer (some ⟨l, 0, none⟩)] w fun e w' => e = .returned (.tuple #[.slice (some ⟨w.heap.size, 0, none⟩) bs.length bs.length, .slice (some ⟨w.heap.size + 1, 0, none⟩) bs.length bs.length, .int .i64 head, .int .i64 n]) ∧
      InRows w' (some ⟨w.heap.size, 0, none⟩) bs ∧ InInts w' (some ⟨w.heap.size + 1, 0, none⟩) ((List.range bs.length).map cp) ∧ Below w.heap.size w w' := by
  obtain ⟨ha, hc, rfl⟩ := h.shape
  have hc0 : w.cell? ⟨l, 0, none⟩ = some (.slice ha bs.length hc) := by simp [World.cell?, h.own]
  have hc1 : w.cell? ⟨l, 1, none⟩ = some (.int .i64 head) := by simp [World.cell?, h.own]
  have hc2 : w.cell? ⟨l, 2, none⟩ = some (.int .i64 n) := by simp [World.cell?, h.own]
  have hll : l < w.heap.size := lt_of_block h.own
  have hmk1 := mk_run (P := Try.prog) 44 52 _ 1 24 Try.underlying44 info52 bs.length bs.length (Nat.le_refl _) (by omega) (by omega)
  have hmk2 := mk_run (P := Try.prog) 37 3 _ 1 8 Try.underlying37 info3 bs.length bs.length (Nat.le_refl _) (by omega) (by omega)
  have H := hid h
  clear h
  go_enter Try.func23, Try.ntmps23
  go_wp2
  clear hmk1 hmk2
  go_loopw [8] (fun i wr => ∃ (k : Nat) (g : Nat → Value), k ≤ bs.length ∧ i = .int .i64 k ∧ wr.rowIs w.heap.size 52 bs.length g ∧ Laid60 wr w.heap.size bs g k ∧ wr.rowIs (w.heap.size + 1) 3 bs.length (fun i => .int .i64 (if i < k then (cp i : Int) else 0)) ∧ Below w.heap.size w wr) (fun i _ => bs.length - (intOf i).toNat)
  case atStart =>
    refine ⟨0, fun _ => .slice none 0 0, Nat.zero_le _, rfl, ?_, ?_, ?_, ((Below.refl _ _).alloc (Nat.le_refl _) _).alloc (by simp) _⟩
    · exact (World.rowIs_made w (.slice none 0 0) bs.length 52).alloc _
    · intro i hi; simp at hi
    · simpa using World.rowIs_made (w.alloc (.cells (madeCells #[.slice none 0 0] bs.length) 52)) (.int .i64 0) bs.length 3
  case round =>
    obtain ⟨k, g, hk, rfl, hG, hP, hC, hb⟩ := hrel
    have d0 : wr.cell? ⟨l, 0, none⟩ = some (.slice ha bs.length hc) := (hb.cell (p := ⟨l, 0, none⟩) hll).trans hc0
    by_cases hlt : k < bs.length
    · obtain ⟨hb', rfl, _, _, hlc, hcell, _⟩ := H.out.cells hlt
      have hcell' : wr.cell? ⟨hb', k, none⟩ = some (.slice (some ⟨pt k, 0, none⟩) bs[k].length (cp k)) := (hb.cell (p := ⟨hb', k, none⟩) (World.block_lt_of_cell? _ _ hcell)).trans hcell
      have hes : Hid (bs.getD k [] = bs[k]) := by simp [Hid, List.getD, hlt]
      obtain ⟨hle1, hle2⟩ := H.out.le hlt
      have h5 := H.out.in5 hlt
      clear hcell
      generalize bs[k] = es at *
      have hmk := mk_run (P := Try.prog) 52 60 _ 5 20 Try.underlying52 info60 es.length es.length (Nat.le_refl _) (by omega) (by omega)
      have hbs : w.heap.size ≤ wr.heap.size := hb.size
      go_wp2
      obtain ⟨wo, rfl⟩ : ∃ wo : World, wo = wr := ⟨_, rfl⟩
      clear hmk
      go_loopw [11] (fun i wr => ∃ j : Nat, j ≤ es.length ∧ i = .int .i64 j ∧ Below wo.heap.size wo wr ∧ wr.rowIs wo.heap.size 60 (es.length * 5) (fun i => if i < 5 * j then cellsOf es i else .int .u32 0)) (fun i _ => es.length - (intOf i).toNat)
      case atStart => exact ⟨0, Nat.zero_le _, rfl, (Below.refl _ _).alloc (Nat.le_refl _) _, by simpa using row_made5 wo es.length 60⟩
      case round =>
        obtain ⟨j, hj, rfl, hb2, hrow⟩ := hrel
        by_cases hjl : j < es.length
        · obtain ⟨b', off', hbo, e1, e2, e3, e4, e5⟩ := h5.at hjl
          simp only [Option.some.injEq, Addr.mk.injEq, and_true] at hbo
          obtain ⟨rfl, rfl⟩ := hbo
          simp only [Nat.zero_add] at e1 e2 e3 e4 e5
          have hbel := hb.trans (hb2.mono hb.size)
          have q1 : wr.cell? ⟨pt k, j * 5, none⟩ = _ := (hbel.cell (p := ⟨pt k, j * 5, none⟩) (World.block_lt_of_cell? _ _ e1)).trans e1
          have q2 : wr.cell? ⟨pt k, j * 5 + 1, none⟩ = _ := (hbel.cell (p := ⟨pt k, j * 5 + 1, none⟩) (World.block_lt_of_cell? _ _ e2)).trans e2
          have q3 : wr.cell? ⟨pt k, j * 5 + 2, none⟩ = _ := (hbel.cell (p := ⟨pt k, j * 5 + 2, none⟩) (World.block_lt_of_cell? _ _ e3)).trans e3
          have q4 : wr.cell? ⟨pt k, j * 5 + 3, none⟩ = _ := (hbel.cell (p := ⟨pt k, j * 5 + 3, none⟩) (World.block_lt_of_cell? _ _ e4)).trans e4
          have q5 : wr.cell? ⟨pt k, j * 5 + 4, none⟩ = _ := (hbel.cell (p := ⟨pt k, j * 5 + 4, none⟩) (World.block_lt_of_cell? _ _ e5)).trans e5
          have r1 := hrow.cell (i := j * 5) (by omega)
          have r2 := hrow.cell (i := j * 5 + 1) (by omega)
          have r3 := hrow.cell (i := j * 5 + 2) (by omega)
          have r4 := hrow.cell (i := j * 5 + 3) (by omega)
          have r5 := hrow.cell (i := j * 5 + 4) (by omega)
          have f1 := hrow.frozen (j * 5)
          have f2 := hrow.frozen (j * 5 + 1)
          have f3 := hrow.frozen (j * 5 + 2)
          have f4 := hrow.frozen (j * 5 + 3)
          have f5 := hrow.frozen (j * 5 + 4)
          have hlt2 := hrow.lt
          have HR := hid hrow
          have HB := hid hb2
          have hst := hid (fill_step es j hjl)
          clear e1 e2 e3 e4 e5 hrow hb2 hbel hb h5 hcell' hG hP hC d0 hc0 hc1 hc2
          generalize es[j] = p at *
          go_wp2
          go_roundw
          case rel => exact ⟨j + 1, by omega, by go_num, ((((((HB.out.setCell (Nat.le_refl _) _).setCell (Nat.le_refl _) _).setCell (Nat.le_refl _) _).setCell (Nat.le_refl _) _).setCell (Nat.le_refl _) _).alloc (by simp; omega) _), ((row_set5 HR.out (j * 5) _ _ _ _ _).congr fun i _ => hst.out i _).alloc _⟩
          case measure => simp [intOf]; omega
        · have s1 := (hG.of_block (hb2.block _ hG.lt)).cell hlt
          have s2 := (hG.of_block (hb2.block _ hG.lt)).frozen k
          have s3 := (hC.of_block (hb2.block _ hC.lt)).cell hlt
          have s4 := (hC.of_block (hb2.block _ hC.lt)).frozen k
          have hbel := hb.trans (hb2.mono hb.size)
          have step := hid (laid_step (u := .int .i64 (cp k : Int)) hC.lt hP hb2 (hrow.congr (g := fun q => if q < 5 * es.length then cellsOf es q else .int .u32 0) fun q _ => by rw [show j = es.length by omega]) hes.out)
          have HG := hid (hG.of_block (hb2.block _ hG.lt))
          have HC := hid (hC.of_block (hb2.block _ hC.lt))
          have HB := hid hbel
          clear hb2 hrow hb h5 hcell' hG hP hC d0 hc0 hc1 hc2 hbel
          go_wp2
          go_roundw
          case rel =>
            refine ⟨k + 1, _, by omega, by go_num, (HG.out.set k _).setOther (by simp) _, step.out, ((HC.out.setOther (by simp) _).set k _).congr fun i _ => ?_, (HB.out.setCell (Nat.le_refl _) _).setCell (by simp) _⟩
            by_cases e : i = k
            · subst e; rw [if_pos rfl, if_pos (by omega)]
            · have : (i < k + 1) ↔ (i < k) := by omega
              simp [e, this]
          case measure => simp [intOf]; omega
    · have d1 : wr.cell? ⟨l, 1, none⟩ = some (.int .i64 head) := (hb.cell (p := ⟨l, 1, none⟩) hll).trans hc1
      have d2 : wr.cell? ⟨l, 2, none⟩ = some (.int .i64 n) := (hb.cell (p := ⟨l, 2, none⟩) hll).trans hc2
      have hkl := hid (show k = bs.length by omega)
      have HG := hid hG
      have HC := hid hC
      have HB := hid hb
      have HP := hid hP
      clear hG hC hb hP hc0 hc1 hc2
      go_wp2_with fail
      go_quiet (fail)
      go_wp2
      refine bodyPost_ret (v := .tuple #[.slice (some ⟨w.heap.size, 0, none⟩) bs.length bs.length, .slice (some ⟨w.heap.size + 1, 0, none⟩) bs.length bs.length, .int .i64 head, .int .i64 n]) (by simp [results, Try.results23, go_sem]) rfl ⟨rfl, ?_, ?_, ?_⟩
      · exact state_rows HG.out (by have := HP.out; rwa [hkl.out] at this) (fun i hi => by have h1 := (H.out.le hi).1; have h2 := (H.out.le hi).2; rw [show bs.getD i [] = bs[i] by simp [List.getD, hi]]; omega)
      · exact state_ints HC.out hkl.out
      · exact below_drewN HB.out
end Go.Proofs.Qxb6602566a
