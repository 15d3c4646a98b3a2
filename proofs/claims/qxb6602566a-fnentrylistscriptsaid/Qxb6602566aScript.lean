import Derived.Test.Qxb6602566aPushLaw
import Derived.Test.Qxb6602566aInv
import Derived.Test.Qxb6602566aShape
namespace Go.Proofs.Qxb6602566a
open Go.RowKit

/-- A slice of integers of one kind. -/
def InI (k : IntKind) (w : World) (ao : Option Addr) (zs : List Int) : Prop :=
  zs = [] ∨ ∃ b off, ao = some ⟨b, off, none⟩ ∧ ∀ i (h : i < zs.length), w.cell? ⟨b, off + i, none⟩ = some (.int k zs[i])
/-- A slice of bools. -/
def InB (w : World) (ao : Option Addr) (bs : List Bool) : Prop :=
  bs = [] ∨ ∃ b off, ao = some ⟨b, off, none⟩ ∧ ∀ i (h : i < bs.length), w.cell? ⟨b, off + i, none⟩ = some (.bool bs[i])

theorem InI.at {k : IntKind} {w : World} {ao : Option Addr} {zs : List Int} (hr : InI k w ao zs) {i : Nat} (h : i < zs.length) : ∃ b off, ao = some ⟨b, off, none⟩ ∧ w.cell? ⟨b, off + i, none⟩ = some (.int k zs[i]) := by
  rcases hr with rfl | ⟨b, off, e, hc⟩
  · simp at h
  · exact ⟨b, off, e, hc i h⟩
theorem InB.at {w : World} {ao : Option Addr} {zs : List Bool} (hr : InB w ao zs) {i : Nat} (h : i < zs.length) : ∃ b off, ao = some ⟨b, off, none⟩ ∧ w.cell? ⟨b, off + i, none⟩ = some (.bool zs[i]) := by
  rcases hr with rfl | ⟨b, off, e, hc⟩
  · simp at h
  · exact ⟨b, off, e, hc i h⟩

/-- The script's inputs, as they were read. -/
structure Scr (w : World) (a0 a1 a2 a3 a4 a5 : Option Addr) (ops : List Bool) (segs offs idxs atts dues : List Int) : Prop where
  rops : InB w a0 ops
  rsegs : InI .u32 w a1 segs
  roffs : InI .u32 w a2 offs
  ridxs : InI .u32 w a3 idxs
  ratts : InI .u16 w a4 atts
  rdues : InI .i64 w a5 dues
  l0 : ops.length ≤ maxLen
  l1 : segs.length ≤ maxLen
  l2 : offs.length ≤ maxLen
  l3 : idxs.length ≤ maxLen
  l4 : atts.length ≤ maxLen
  l5 : dues.length ≤ maxLen
  att : ∀ i, 0 ≤ atts.getD i 0 ∧ atts.getD i 0 < 65536
  due : ∀ i, -9223372036854775808 ≤ dues.getD i 0 ∧ dues.getD i 0 ≤ 9223372036854775807

/-- Entry t, packed. -/
def pkAt (segs offs idxs atts dues : List Int) (t : Nat) : Pk := packOf (segs.getD t 0) (offs.getD t 0) (idxs.getD t 0) (atts.getD t 0) (dues.getD t 0)

/-- The five numbers of entry t, as the walk reads them in a world that keeps the inputs. -/
theorem Scr.five {w wr : World} {a0 a1 a2 a3 a4 a5 : Option Addr} {ops : List Bool} {segs offs idxs atts dues : List Int} (h : Scr w a0 a1 a2 a3 a4 a5 ops segs offs idxs atts dues) (hb : Below w.heap.size w wr) {M t : Nat} (ht : t < M)
    (e1 : segs.length = M) (e2 : offs.length = M) (e3 : idxs.length = M) (e4 : atts.length = M) (e5 : dues.length = M) :
    ∃ b1 o1 b2 o2 b3 o3 b4 o4 b5 o5, (a1 = some ⟨b1, o1, none⟩ ∧ a2 = some ⟨b2, o2, none⟩ ∧ a3 = some ⟨b3, o3, none⟩ ∧ a4 = some ⟨b4, o4, none⟩ ∧ a5 = some ⟨b5, o5, none⟩) ∧
      (b1 < w.heap.size ∧ b2 < w.heap.size ∧ b3 < w.heap.size ∧ b4 < w.heap.size ∧ b5 < w.heap.size) ∧
      wr.cell? ⟨b1, o1 + t, none⟩ = some (.int .u32 (segs.getD t 0)) ∧ wr.cell? ⟨b2, o2 + t, none⟩ = some (.int .u32 (offs.getD t 0)) ∧ wr.cell? ⟨b3, o3 + t, none⟩ = some (.int .u32 (idxs.getD t 0)) ∧ wr.cell? ⟨b4, o4 + t, none⟩ = some (.int .u16 (atts.getD t 0)) ∧ wr.cell? ⟨b5, o5 + t, none⟩ = some (.int .i64 (dues.getD t 0)) := by
  have g : ∀ (zs : List Int) (hz : t < zs.length), zs[t] = zs.getD t 0 := fun zs hz => by simp [List.getD, hz]
  have gc : ∀ (p : Addr) (v : Value), w.cell? p = some v → p.block < w.heap.size ∧ wr.cell? p = some v := fun p v hp => ⟨World.block_lt_of_cell? _ _ hp, (hb.cell (World.block_lt_of_cell? _ _ hp)).trans hp⟩
  obtain ⟨b1, o1, f1, q1⟩ := h.rsegs.at (i := t) (by omega)
  obtain ⟨b2, o2, f2, q2⟩ := h.roffs.at (i := t) (by omega)
  obtain ⟨b3, o3, f3, q3⟩ := h.ridxs.at (i := t) (by omega)
  obtain ⟨b4, o4, f4, q4⟩ := h.ratts.at (i := t) (by omega)
  obtain ⟨b5, o5, f5, q5⟩ := h.rdues.at (i := t) (by omega)
  rw [g _ (by omega)] at q1 q2 q3 q4 q5
  exact ⟨b1, o1, b2, o2, b3, o3, b4, o4, b5, o5, ⟨f1, f2, f3, f4, f5⟩, ⟨(gc _ _ q1).1, (gc _ _ q2).1, (gc _ _ q3).1, (gc _ _ q4).1, (gc _ _ q5).1⟩, (gc _ _ q1).2, (gc _ _ q2).2, (gc _ _ q3).2, (gc _ _ q4).2, (gc _ _ q5).2⟩

theorem Fr.of_drew {B : Nat} {w w' : World} (h : Fr B w.drew w') : Fr B w w' := ⟨⟨h.below.os, h.below.tape, h.below.output, h.below.size, h.below.block⟩, h.quiet⟩

theorem inv_start (w : World) (M : Nat) (pk : Nat → Pk) (hM : M ≤ maxLen) :
    Inv w ((w.alloc (.cells #[.slice none 0 0, .int .i64 0, .int .i64 0] 79)).alloc (.cells (madeCells #[.int .i64 0] M) 3)) w.heap.size M pk 0 [] [] (fun _ => 0) (fun _ => 0) (.slice none 0 0) := by
  refine ⟨lst_alloc (lst_nil (Nat.le_refl _) (heap_alloc_new _ _)) _, rfl, .inl ⟨rfl, rfl, rfl⟩, ?_, by simp, Nat.le_refl _, Nat.zero_le _, ((Below.refl _ _).alloc (Nat.le_refl _) _).alloc (by simp) _⟩
  have h := World.rowIs_made (w.alloc (.cells #[.slice none 0 0, .int .i64 0, .int .i64 0] 79)) (.int .i64 0) M 3
  rw [World.size_alloc] at h
  have := owns_of_row (B := w.heap.size) (size := 1) (n := 0) (cap := M) (by simpa using h) (by omega) (Nat.zero_le _) hM
  simpa using this

set_option maxHeartbeats 4000000 in
set_option maxRecDepth 100000 in
theorem script_good (w : World) (a0 a1 a2 a3 a4 a5 : Option Addr) (c0 c1 c2 c3 c4 c5 K M : Nat) (ops : List Bool) (segs offs idxs atts dues : List Int) (hA : Scr w a0 a1 a2 a3 a4 a5 ops segs offs idxs atts dues)
    (e0 : ops.length = K) (e1 : segs.length = M) (e2 : offs.length = M) (e3 : idxs.length = M) (e4 : atts.length = M) (e5 : dues.length = M) (hK : K ≤ 65536) (hM : M ≤ 65536) (hsum : (K : Int) + 4 * M + 4 * M + 4 * M + 2 * M + 8 * M ≤ 1048576) :
    Calls Try.prog 8 #[.slice a0 K c0, .slice a1 M c1, .slice a2 M c2, .slice a3 M c3, .slice a4 M c4, .slice a5 M c5] w fun e w' => e = .returned (.bool true) ∧ Below w.heap.size w w' := by
  have HA := hid hA
  have E0 := hid e0
  have E := hid (And.intro e1 (And.intro e2 (And.intro e3 (And.intro e4 e5))))
  clear hA e0 e1 e2 e3 e4 e5
  have hmk : ∀ w, Sem.run Try.prog (Instr.makeSlice 37 (.int .i64 0) (.int .i64 (M : Int))) w = .ok (.slice (some ⟨w.heap.size, 0, none⟩) 0 M) (w.alloc (.cells (madeCells #[.int .i64 0] M) 3)) := by
    intro w
    have := mk_run (P := Try.prog) 37 3 _ 1 8 Try.underlying37 info3 0 M (Nat.zero_le _) (by omega) (by omega) w
    rwa [Nat.mul_one] at this
  obtain ⟨i3, hi, hz0, hz1, hz2⟩ := info_parts info3
  go_enter Try.func8, Try.ntmps8
  go_wp2_with fail
  refine (bytes29_any w _ _ _ _ _ _ _ _ _ _ _ _ _ _ _ _ _ _ (by unfold maxLen; omega) (by unfold maxLen; omega) (by unfold maxLen; omega) (by unfold maxLen; omega) (by unfold maxLen; omega) (by unfold maxLen; omega)).mono ?_
  rintro e w1 ⟨r1, rfl, rfl, -⟩
  cases r1
  · go_wp2
    go_ret
    exact ⟨rfl, Below.refl _ _⟩
  go_wp2_with fail
  refine (newList_any w1).mono ?_
  rintro e w2 ⟨rfl, rfl⟩
  go_wp2_with fail
  clear hmk
  go_loopw [14, 15, 16] (fun m nx i wr => ∃ (k x : Nat) (ms : List Nat) (bs : List (List Pk)) (pt cp : Nat → Nat) (hv : Value), k ≤ K ∧ i = .int .i64 (k : Int) ∧ nx = .int .i64 (x : Int) ∧ m = .slice (some ⟨w1.heap.size + 1, 0, none⟩) ms.length M ∧ Inv w1 wr w1.heap.size M (pkAt segs offs idxs atts dues) x ms bs pt cp hv) (fun _ _ i _ => K - (intOf i).toNat)
  case atStart =>
    refine ⟨0, 0, [], [], _, _, _, Nat.zero_le _, rfl, rfl, rfl, inv_start w1 M _ (by unfold maxLen; omega)⟩
  case round =>
    obtain ⟨k, x, ms, bs, pt, cp, hv, hk, rfl, rfl, rfl, hinv⟩ := hrel
    have HI := hid hinv
    have hx := hinv.nxM
    have hml := hinv.len
    have hbl := hinv.bsLen
    have hbw := hid hinv.below
    clear hinv
    by_cases hlt : k < K
    · obtain ⟨bo, oo, rfl, hop⟩ := HA.out.rops.at (i := k) (by rw [E0.out]; exact hlt)
      have hbo : bo < w1.heap.size := World.block_lt_of_cell? _ _ hop
      have hop' : wr.cell? ⟨bo, oo + k, none⟩ = some (.bool (ops[k]'(by rw [E0.out]; exact hlt))) := (hbw.out.cell (p := ⟨bo, oo + k, none⟩) hbo).trans hop
      clear hop
      generalize ops[k]'(by rw [E0.out]; exact hlt) = b at *
      cases b
      · by_cases hm0 : ms = []
        · have hml0 : ((ms.length : Int) == 0) = true := by rw [hm0]; rfl
          clear hm0
          go_wp2_with fail
          go_roundw
          case rel => exact ⟨k + 1, x, ms, bs, pt, cp, hv, by omega, by go_num, rfl, rfl, HI.out⟩
          case measure => simp [intOf]; omega
        · obtain ⟨qs, t, hqt⟩ : ∃ qs t, ms = qs ++ [t] := ⟨ms.dropLast, ms.getLast hm0, (List.dropLast_concat_getLast hm0).symm⟩
          clear hm0
          have hL : ms.length = qs.length + 1 := by rw [hqt]; simp
          have htx : t < x := HI.out.lt t (by rw [hqt]; simp)
          have hlst := HI.out.lst
          have hlast := HI.out.last hqt
          rw [show (ms.length : Int) = (qs.length : Int) + 1 by omega] at hlst
          have HLST := hid hlst
          have HLAST := hid hlast
          have HQT := hid hqt
          have HL := hid hL
          rw [hL] at hml hbl
          rw [hL]
          obtain ⟨E1, E2, E3, E4, E5⟩ := E.out
          obtain ⟨b1, o1, b2, o2, b3, o3, b4, o4, b5, o5, ⟨rfl, rfl, rfl, rfl, rfl⟩, ⟨g1, g2, g3, g4, g5⟩, q1, q2, q3, q4, q5⟩ := HA.out.five hbw.out (M := M) (t := t) (by omega) E1 E2 E3 E4 E5
          clear E1 E2 E3 E4 E5 hlst hlast hqt hL
          have ha := HA.out.att t
          have hd := HA.out.due t
          have HPK := hid (show pkAt segs offs idxs atts dues t = packOf (segs.getD t 0) (offs.getD t 0) (idxs.getD t 0) (atts.getD t 0) (dues.getD t 0) from rfl)
          generalize segs.getD t 0 = z1 at *
          generalize offs.getD t 0 = z2 at *
          generalize idxs.getD t 0 = z3 at *
          generalize atts.getD t 0 = z4 at *
          generalize dues.getD t 0 = z5 at *
          have hz : (((qs.length : Int) + 1) == 0) = false := beq_eq_false_iff_ne.2 (by omega)
          go_wp2_with fail
          refine (zzpop_any wr w1.heap.size w1.heap.size bs pt cp hv 0 ((qs.length : Int) + 1) HLST.out (by omega) (packOf z1 z2 z3 z4 z5) (by rw [← HPK.out]; exact HLAST.out) (by omega) (by omega)).mono ?_
          rintro e w2 ⟨rfl, hp2, hf2⟩
          obtain ⟨bs', pt', cp', hv', hI2⟩ := HI.out.pop HQT.out (by rw [show (ms.length : Int) = (qs.length : Int) + 1 by have := HL.out; omega]; exact hp2) hf2
          have hm2 := owns_quiet HI.out.mod hf2.quiet (by decide) (by decide) (by decide)
          rw [HL.out] at hm2
          have hcm : w2.cell? ⟨w1.heap.size + 1, qs.length, none⟩ = some (.int .i64 (t : Int)) := by
            rw [hm2.cellAt qs.length (by omega), HQT.out]; simp
          have hNlt : w1.heap.size + 1 < w2.heap.size := World.block_lt_of_cell? _ _ hcm
          have s1 := (hf2.below.cell (p := ⟨b1, o1 + t, none⟩) g1).trans q1
          have s2 := (hf2.below.cell (p := ⟨b2, o2 + t, none⟩) g2).trans q2
          have s3 := (hf2.below.cell (p := ⟨b3, o3 + t, none⟩) g3).trans q3
          have s4 := (hf2.below.cell (p := ⟨b4, o4 + t, none⟩) g4).trans q4
          have s5 := (hf2.below.cell (p := ⟨b5, o5 + t, none⟩) g5).trans q5
          have p1 : (packOf z1 z2 z3 z4 z5).a = z1 := rfl
          have p2 : (packOf z1 z2 z3 z4 z5).b = z2 := rfl
          have p3 : (packOf z1 z2 z3 z4 z5).c = z3 := rfl
          have HI2 := hid hI2
          clear hp2 hf2 hm2 hI2 q1 q2 q3 q4 q5 HLST HLAST
          have i0 : (0 : Int) ≤ (t : Int) := by omega
          have i1 : (t : Int) < (M : Int) := by omega
          go_wp2_with fail
          generalize hA2 : w2.alloc (.cells #[.int .u32 z1, .int .u32 z2, .int .u32 z3, .int .u32 (packOf z1 z2 z3 z4 z5).d, .int .u32 (packOf z1 z2 z3 z4 z5).e] 60) = A2
          have hBA : Below w2.heap.size w2 A2 := hA2 ▸ (Below.refl _ _).alloc (Nat.le_refl _) _
          have r1 : A2.cell? ⟨w2.heap.size, 0, none⟩ = some (.int .u32 z1) := by rw [← hA2]; simp
          have r2 : A2.cell? ⟨w2.heap.size, 1, none⟩ = some (.int .u32 z2) := by rw [← hA2]; simp
          have r3 : A2.cell? ⟨w2.heap.size, 2, none⟩ = some (.int .u32 z3) := by rw [← hA2]; simp
          have r4 : A2.cell? ⟨w2.heap.size, 3, none⟩ = some (.int .u32 (packOf z1 z2 z3 z4 z5).d) := by rw [← hA2]; simp
          have r5 : A2.cell? ⟨w2.heap.size, 4, none⟩ = some (.int .u32 (packOf z1 z2 z3 z4 z5).e) := by rw [← hA2]; simp
          have t1 := (hBA.cell (p := ⟨b1, o1 + t, none⟩) (World.block_lt_of_cell? _ _ s1)).trans s1
          have t2 := (hBA.cell (p := ⟨b2, o2 + t, none⟩) (World.block_lt_of_cell? _ _ s2)).trans s2
          have t3 := (hBA.cell (p := ⟨b3, o3 + t, none⟩) (World.block_lt_of_cell? _ _ s3)).trans s3
          have t4 := (hBA.cell (p := ⟨b4, o4 + t, none⟩) (World.block_lt_of_cell? _ _ s4)).trans s4
          have t5 := (hBA.cell (p := ⟨b5, o5 + t, none⟩) (World.block_lt_of_cell? _ _ s5)).trans s5
          have HIA := hid (HI2.out.stay hBA)
          clear hA2 hBA s1 s2 s3 s4 s5 hcm HI2
          generalize w2.heap.size = nb at *
          go_region_held3 (fun w' => (w'.cell? ⟨nb, 0, none⟩ = some (.int .u32 z1) ∧ w'.cell? ⟨nb, 1, none⟩ = some (.int .u32 z2) ∧ w'.cell? ⟨nb, 2, none⟩ = some (.int .u32 z3) ∧ w'.cell? ⟨nb, 3, none⟩ = some (.int .u32 (packOf z1 z2 z3 z4 z5).d) ∧ w'.cell? ⟨nb, 4, none⟩ = some (.int .u32 (packOf z1 z2 z3 z4 z5).e)) ∧
              w'.cell? ⟨b1, o1 + t, none⟩ = some (.int .u32 z1) ∧ w'.cell? ⟨b2, o2 + t, none⟩ = some (.int .u32 z2) ∧ w'.cell? ⟨b3, o3 + t, none⟩ = some (.int .u32 z3) ∧ w'.cell? ⟨b4, o4 + t, none⟩ = some (.int .u16 z4) ∧ w'.cell? ⟨b5, o5 + t, none⟩ = some (.int .i64 z5)) (go_keep)
            (first
              | (go_at_call 25
                 refine (packedOf_yes _ z1 z2 z3 z4 z5 ha hd).mono ?_
                 rintro e w3 ⟨rfl, hb3⟩
                 have s1 := (hb3.cell (p := ⟨b1, o1 + t, none⟩) (World.block_lt_of_cell? _ _ t1)).trans t1
                 have s2 := (hb3.cell (p := ⟨b2, o2 + t, none⟩) (World.block_lt_of_cell? _ _ t2)).trans t2
                 have s3 := (hb3.cell (p := ⟨b3, o3 + t, none⟩) (World.block_lt_of_cell? _ _ t3)).trans t3
                 have s4 := (hb3.cell (p := ⟨b4, o4 + t, none⟩) (World.block_lt_of_cell? _ _ t4)).trans t4
                 have s5 := (hb3.cell (p := ⟨b5, o5 + t, none⟩) (World.block_lt_of_cell? _ _ t5)).trans t5
                 have v1 := (hb3.cell (p := ⟨nb, 0, none⟩) (World.block_lt_of_cell? _ _ r1)).trans r1
                 have v2 := (hb3.cell (p := ⟨nb, 1, none⟩) (World.block_lt_of_cell? _ _ r2)).trans r2
                 have v3 := (hb3.cell (p := ⟨nb, 2, none⟩) (World.block_lt_of_cell? _ _ r3)).trans r3
                 have v4 := (hb3.cell (p := ⟨nb, 3, none⟩) (World.block_lt_of_cell? _ _ r4)).trans r4
                 have v5 := (hb3.cell (p := ⟨nb, 4, none⟩) (World.block_lt_of_cell? _ _ r5)).trans r5
                 have HB3 := hid hb3
                 clear hb3))
          have HI3 := hid (Inv.stay (wr := A2.drew) (w' := w3) (by exact HIA.out.drewN 1) HB3.out)
          clear HB3 HIA s1 s2 s3 s4 s5 v1 v2 v3 v4 v5 r1 r2 r3 r4 r5 t1 t2 t3 t4 t5
          have hb3 := HI3.out.bsLen
          have HL3 := hid HI3.out.lst
          have HS3 := hid HI3.out.shape
          go_wp2_with fail
          refine (listShape_any w3 w1.heap.size w1.heap.size bs' pt' cp' hv' 0 (qs.length : Int) HL3.out (by omega)).mono ?_
          rintro e w4 ⟨rfl, hl4, hc4, hb4⟩
          have HLN4 := hid hl4
          have HCP4 := hid hc4
          have HI4 := hid (HI3.out.stay hb4)
          clear hl4 hc4 hb4
          have hne : ((qs.length : Int) != (qs.length : Int)) = false := by simp
          go_wp2_with fail
          refine (shape_bs w4 _ _ bs' 0 (qs.length : Int) HLN4.out (by omega)).mono ?_
          rintro e w5 ⟨r5, rfl, rfl, hs5⟩
          have hr5 := hs5.2 HS3.out
          subst hr5
          clear hs5
          go_wp2_with fail
          refine (caps_bs w5 _ _ _ _ bs' cp' HLN4.out HCP4.out (by omega) (fun i hi => HL3.out.le hi)).mono ?_
          rintro e w6 ⟨rfl, m6, rfl⟩
          have HI6 := hid (HI4.out.drewN m6)
          go_wp2_with fail
          go_roundw
          case rel => exact ⟨k + 1, x, qs, bs', pt', cp', hv', by omega, by go_num, rfl, by simp, HI6.out⟩
          case measure => simp [intOf]; omega
      · by_cases hxM : x = M
        · have hxM' : ((x : Int) == (M : Int)) = true := beq_iff_eq.2 (by omega)
          clear hxM
          go_wp2_with fail
          go_roundw
          case rel => exact ⟨k + 1, x, ms, bs, pt, cp, hv, by omega, by go_num, rfl, rfl, HI.out⟩
          case measure => simp [intOf]; omega
        · have hxM' : ((x : Int) == (M : Int)) = false := beq_eq_false_iff_ne.2 (by omega)
          obtain ⟨E1, E2, E3, E4, E5⟩ := E.out
          obtain ⟨b1, o1, b2, o2, b3, o3, b4, o4, b5, o5, ⟨rfl, rfl, rfl, rfl, rfl⟩, ⟨g1, g2, g3, g4, g5⟩, q1, q2, q3, q4, q5⟩ := HA.out.five hbw.out (M := M) (t := x) (by omega) E1 E2 E3 E4 E5
          clear E1 E2 E3 E4 E5
          have ha := HA.out.att x
          have hd := HA.out.due x
          have HPK := hid (show pkAt segs offs idxs atts dues x = packOf (segs.getD x 0) (offs.getD x 0) (idxs.getD x 0) (atts.getD x 0) (dues.getD x 0) from rfl)
          generalize segs.getD x 0 = z1 at *
          generalize offs.getD x 0 = z2 at *
          generalize idxs.getD x 0 = z3 at *
          generalize atts.getD x 0 = z4 at *
          generalize dues.getD x 0 = z5 at *
          have i0 : (0 : Int) ≤ (x : Int) := by omega
          have i1 : (x : Int) < (M : Int) := by omega
          go_wp2_with fail
          go_region_held3 (fun w' => w'.cell? ⟨b1, o1 + x, none⟩ = some (.int .u32 z1) ∧ w'.cell? ⟨b2, o2 + x, none⟩ = some (.int .u32 z2) ∧ w'.cell? ⟨b3, o3 + x, none⟩ = some (.int .u32 z3) ∧ w'.cell? ⟨b4, o4 + x, none⟩ = some (.int .u16 z4) ∧ w'.cell? ⟨b5, o5 + x, none⟩ = some (.int .i64 z5)) (go_keep)
            (first
              | (go_at_call 22
                 refine (zzpush_any _ w1.heap.size w1.heap.size bs pt cp hv 0 ms.length (by exact lst_drewN (m := 1) HI.out.lst) (by omega) (by omega) z1 z2 z3 z4 z5 ha hd).mono ?_
                 rintro e w2 ⟨rfl, ⟨pt2, cp2, hv2, h2⟩, hf2⟩
                 have s1 := (hf2.below.cell (p := ⟨b1, o1 + x, none⟩) g1).trans q1
                 have s2 := (hf2.below.cell (p := ⟨b2, o2 + x, none⟩) g2).trans q2
                 have s3 := (hf2.below.cell (p := ⟨b3, o3 + x, none⟩) g3).trans q3
                 have s4 := (hf2.below.cell (p := ⟨b4, o4 + x, none⟩) g4).trans q4
                 have s5 := (hf2.below.cell (p := ⟨b5, o5 + x, none⟩) g5).trans q5
                 have HF2 := hid hf2
                 have H2 := hid h2
                 clear hf2 h2))
          have hm2 := hid (owns_quiet (w := wr) HI.out.mod HF2.out.quiet (by decide) (by decide) (by decide))
          clear s1 s2 s3 s4 s5 q1 q2 q3 q4 q5
          go_wp2_with (at_builtin; refine wpList_append_fits _ rfl _ _ 37 rfl w1.heap.size 3 i3 1 Try.underlying37 hi hz1 (w1.heap.size + 1) ms.length M _ rfl (hm2.out.alloc _) ⟨w2.heap.size, 0, none⟩ 1 1 [.int .i64 (x : Int)] rfl rfl ?c1 ?c2 ?c3 ?_)
          case c1 =>
            intro j u hj
            match j, hj with
            | 0, hj => simp at hj; subst hj; simp [Addr.add]
          case c2 => intro u hu; simp at hu; subst hu; rfl
          case c3 => omega
          intro w3 hown3 hgrow3
          have HI3 := hid (Inv.push (w := w1) HI.out (by omega) (by rw [HPK.out]; exact H2.out) (Fr.of_drew HF2.out) hown3 hgrow3)
          clear hown3 hgrow3
          have hlen3 : ((ms ++ [x]).length : Int) = (ms.length : Int) + 1 := by simp
          have hb3 := HI3.out.bsLen
          have hl3 := HI3.out.lst
          have hs3 := HI3.out.shape
          rw [List.length_append] at hb3
          rw [hlen3] at hl3 hs3
          simp only [List.length_singleton] at hb3
          have HL3 := hid hl3
          have HS3 := hid hs3
          clear hl3 hs3 hlen3
          have hne : (((ms.length : Int) + 1) != ((ms.length : Int) + 1)) = false := by simp
          generalize hbs3 : pushB bs (pkAt segs offs idxs atts dues x) = bs3 at *
          clear hbs3
          go_wp2_with fail
          refine (listShape_any w3 w1.heap.size w1.heap.size bs3 pt2 cp2 hv2 0 ((ms.length : Int) + 1) HL3.out (by omega)).mono ?_
          rintro e w4 ⟨rfl, hl4, hc4, hb4⟩
          have HLN4 := hid hl4
          have HCP4 := hid hc4
          have HI4 := hid (HI3.out.stay hb4)
          clear hl4 hc4 hb4
          go_wp2_with fail
          refine (shape_bs w4 _ _ bs3 0 ((ms.length : Int) + 1) HLN4.out (by omega)).mono ?_
          rintro e w5 ⟨r5, rfl, rfl, hs5⟩
          have hr5 := hs5.2 HS3.out
          subst hr5
          clear hs5
          go_wp2_with fail
          refine (caps_bs w5 _ _ _ _ bs3 cp2 HLN4.out HCP4.out (by omega) (fun i hi => HL3.out.le hi)).mono ?_
          rintro e w6 ⟨rfl, m6, rfl⟩
          have HI6 := hid (HI4.out.drewN m6)
          go_wp2_with fail
          go_roundw
          case rel => exact ⟨k + 1, x + 1, ms ++ [x], bs3, pt2, cp2, hv2, by omega, by go_num, by go_num, by simp, HI6.out⟩
          case measure => simp [intOf]; omega
    · have hkK : k = K := by omega
      clear hlt
      subst hkK
      have hlst := HI.out.lst
      have HLST := hid hlst
      have htot := HI.out.total
      have HTOT := hid htot
      have HFL := hid HI.out.flat
      have hle : bs.length ≤ ms.length := hbl
      clear hlst htot
      go_wp2_with fail
      refine (listState_any wr w1.heap.size w1.heap.size bs pt cp hv 0 (ms.length : Int) HLST.out (by omega)).mono ?_
      rintro e w2 ⟨rfl, hr2, -, hb2⟩
      have HR2 := hid hr2
      have HI2 := hid (HI.out.stay hb2)
      clear hr2 hb2
      go_wp2_with fail
      refine (flat_any w2 _ _ bs HR2.out (by omega) (by rw [HTOT.out]; omega)).mono ?_
      rintro e w3 ⟨rfl, hr3, hb3⟩
      have HR3 := hid hr3
      have HI3 := hid (HI2.out.stay hb3)
      clear hr3 hb3
      rw [HTOT.out]
      generalize w2.heap.size = nf at *
      have hne : ((ms.length : Int) != (ms.length : Int)) = false := by simp
      go_wp2_with fail
      go_loopw [28] (fun i wz => ∃ j : Nat, j ≤ ms.length ∧ i = .int .i64 (j : Int) ∧ Below w3.heap.size w3 wz) (fun i _ => ms.length - (intOf i).toNat)
      case atStart => exact ⟨0, Nat.zero_le _, rfl, Below.refl _ _⟩
      case round =>
        obtain ⟨j, hj, rfl, hbz⟩ := hrel
        have HBZ := hid hbz
        clear hbz
        by_cases hjl : j < ms.length
        · obtain ⟨t, hjt⟩ : ∃ t, ms[j]? = some t := ⟨ms[j], by simp⟩
          have htx : t < x := HI.out.lt t (List.mem_of_getElem? hjt)
          have hcm : w3.cell? ⟨w1.heap.size + 1, j, none⟩ = some (.int .i64 (t : Int)) := by
            rw [HI3.out.mod.cellAt j (by omega)]; simp [hjt]
          have hcm' := (HBZ.out.cell (p := ⟨w1.heap.size + 1, j, none⟩) (World.block_lt_of_cell? _ _ hcm)).trans hcm
          have hbt := hid (HI3.out.below.trans (HBZ.out.mono (by have := HI3.out.below.size; omega)))
          obtain ⟨E1, E2, E3, E4, E5⟩ := E.out
          obtain ⟨b1, o1, b2, o2, b3, o3, b4, o4, b5, o5, ⟨rfl, rfl, rfl, rfl, rfl⟩, ⟨g1, g2, g3, g4, g5⟩, t1, t2, t3, t4, t5⟩ := HA.out.five hbt.out (M := M) (t := t) (by omega) E1 E2 E3 E4 E5
          clear E1 E2 E3 E4 E5
          have ha := HA.out.att t
          have hd := HA.out.due t
          have hpk : bs.flatten[j]? = some (packOf (segs.getD t 0) (offs.getD t 0) (idxs.getD t 0) (atts.getD t 0) (dues.getD t 0)) := by
            rw [HFL.out, List.getElem?_map, hjt]; rfl
          generalize segs.getD t 0 = z1 at *
          generalize offs.getD t 0 = z2 at *
          generalize idxs.getD t 0 = z3 at *
          generalize atts.getD t 0 = z4 at *
          generalize dues.getD t 0 = z5 at *
          obtain ⟨hjf, hpk2⟩ := List.getElem?_eq_some_iff.1 hpk
          obtain ⟨nb, of, hab, f1, f2, f3, f4, f5⟩ := HR3.out.at hjf
          rw [hpk2] at f1 f2 f3 f4 f5
          simp only [Option.some.injEq, Addr.mk.injEq, and_true] at hab
          obtain ⟨rfl, rfl⟩ := hab
          have r1 := (HBZ.out.cell (World.block_lt_of_cell? _ _ f1)).trans f1
          have r2 := (HBZ.out.cell (World.block_lt_of_cell? _ _ f2)).trans f2
          have r3 := (HBZ.out.cell (World.block_lt_of_cell? _ _ f3)).trans f3
          have r4 := (HBZ.out.cell (World.block_lt_of_cell? _ _ f4)).trans f4
          have r5 := (HBZ.out.cell (World.block_lt_of_cell? _ _ f5)).trans f5
          have p1 : (packOf z1 z2 z3 z4 z5).a = z1 := rfl
          have p2 : (packOf z1 z2 z3 z4 z5).b = z2 := rfl
          have p3 : (packOf z1 z2 z3 z4 z5).c = z3 := rfl
          rw [p1] at r1
          rw [p2] at r2
          rw [p3] at r3
          clear f1 f2 f3 f4 f5 hpk hpk2 hjf hcm hjt p1 p2 p3
          have i0 : (0 : Int) ≤ (t : Int) := by omega
          have i1 : (t : Int) < (M : Int) := by omega
          have j0 : (0 : Int) ≤ (j : Int) := by omega
          have j1 : (j : Int) < (ms.length : Int) := by omega
          go_wp2_with fail
          rw [Nat.zero_add] at r1 r2 r3 r4 r5
          go_region_held3 (fun w' => (w'.cell? ⟨nf, j * 5, none⟩ = some (.int .u32 z1) ∧ w'.cell? ⟨nf, j * 5 + 1, none⟩ = some (.int .u32 z2) ∧ w'.cell? ⟨nf, j * 5 + 2, none⟩ = some (.int .u32 z3) ∧ w'.cell? ⟨nf, j * 5 + 3, none⟩ = some (.int .u32 (packOf z1 z2 z3 z4 z5).d) ∧ w'.cell? ⟨nf, j * 5 + 4, none⟩ = some (.int .u32 (packOf z1 z2 z3 z4 z5).e)) ∧
              w'.cell? ⟨b1, o1 + t, none⟩ = some (.int .u32 z1) ∧ w'.cell? ⟨b2, o2 + t, none⟩ = some (.int .u32 z2) ∧ w'.cell? ⟨b3, o3 + t, none⟩ = some (.int .u32 z3) ∧ w'.cell? ⟨b4, o4 + t, none⟩ = some (.int .u16 z4) ∧ w'.cell? ⟨b5, o5 + t, none⟩ = some (.int .i64 z5)) (go_keep)
            (first
              | (go_at_call 25
                 refine (packedOf_yes _ z1 z2 z3 z4 z5 ha hd).mono ?_
                 rintro e w4 ⟨rfl, hb4⟩
                 have s1 := (hb4.cell (p := ⟨b1, o1 + t, none⟩) (World.block_lt_of_cell? _ _ t1)).trans t1
                 have s2 := (hb4.cell (p := ⟨b2, o2 + t, none⟩) (World.block_lt_of_cell? _ _ t2)).trans t2
                 have s3 := (hb4.cell (p := ⟨b3, o3 + t, none⟩) (World.block_lt_of_cell? _ _ t3)).trans t3
                 have s4 := (hb4.cell (p := ⟨b4, o4 + t, none⟩) (World.block_lt_of_cell? _ _ t4)).trans t4
                 have s5 := (hb4.cell (p := ⟨b5, o5 + t, none⟩) (World.block_lt_of_cell? _ _ t5)).trans t5
                 have v1 := (hb4.cell (p := ⟨nf, j * 5, none⟩) (World.block_lt_of_cell? _ _ r1)).trans r1
                 have v2 := (hb4.cell (p := ⟨nf, j * 5 + 1, none⟩) (World.block_lt_of_cell? _ _ r2)).trans r2
                 have v3 := (hb4.cell (p := ⟨nf, j * 5 + 2, none⟩) (World.block_lt_of_cell? _ _ r3)).trans r3
                 have v4 := (hb4.cell (p := ⟨nf, j * 5 + 3, none⟩) (World.block_lt_of_cell? _ _ r4)).trans r4
                 have v5 := (hb4.cell (p := ⟨nf, j * 5 + 4, none⟩) (World.block_lt_of_cell? _ _ r5)).trans r5
                 have HB4 := hid hb4
                 clear hb4))
          have HB5 := hid (Below.trans (b := wr.drew) (c := w4) (by exact below_drewN (n := 1) HBZ.out) (HB4.out.mono (by exact HBZ.out.size)))
          clear HB4 s1 s2 s3 s4 s5 v1 v2 v3 v4 v5 r1 r2 r3 r4 r5 t1 t2 t3 t4 t5 hcm'
          go_wp2_with fail
          go_roundw
          case rel => exact ⟨j + 1, by omega, by go_num, HB5.out⟩
          case measure => simp [intOf]; omega
        · have hjm : j = ms.length := by omega
          subst hjm
          clear hjl
          have hbt := hid (HI3.out.below.trans (HBZ.out.mono (by have := HI3.out.below.size; omega)))
          go_wp2_with fail
          go_ret
          exact ⟨rfl, hbt.out⟩
end Go.Proofs.Qxb6602566a
