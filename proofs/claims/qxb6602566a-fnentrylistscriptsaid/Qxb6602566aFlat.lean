import Derived.Test.Qxb6602566aHeap
namespace Go.Proofs.Qxb6602566a
open Go.RowKit

theorem total_le (bs : List (List Pk)) (k : Nat) : total (bs.take k) ≤ total bs := by
  unfold total
  conv => rhs; rw [← List.take_append_drop k bs]
  rw [List.map_append, List.sum_append_nat]
  omega

theorem total_flatten (bs : List (List Pk)) : total bs = bs.flatten.length := by
  unfold total
  rw [List.length_flatten]

set_option maxHeartbeats 1000000 in
theorem flat_any (w : World) (ao : Option Addr) (cap : Nat) (bs : List (List Pk)) (hr : InRows w ao bs) (hl : bs.length ≤ 1048577) (ht : total bs ≤ 1048577) :
    Calls Try.prog 20 #[.slice ao bs.length cap] w fun e w' => e = .returned (.slice (some ⟨w.heap.size, 0, none⟩) (total bs) (total bs)) ∧ In5 w' (some ⟨w.heap.size, 0, none⟩) bs.flatten ∧ Below w.heap.size w w' := by
  obtain ⟨i60, hi, hz0, hz1, hz2⟩ := info_parts info60
  go_enter Try.func20, Try.ntmps20
  go_wp2
  go_loop [3, 4] (fun t i => ∃ k : Nat, k ≤ bs.length ∧ i = .int .i64 k ∧ t = .int .i64 (total (bs.take k) : Nat)) (fun _ i => bs.length - (intOf i).toNat)
  case atStart => exact ⟨0, Nat.zero_le _, rfl, by simp [total]⟩
  case round =>
    obtain ⟨k, hk, rfl, rfl⟩ := hrel
    have hle := total_le bs k
    by_cases hlt : k < bs.length
    · obtain ⟨b, off, rfl, ai, ci, hcell, _⟩ := hr.at hlt
      have hts := hid (total_take_succ bs k hlt)
      have hle' := total_le bs (k + 1)
      rw [hts.out] at hle'
      clear hr
      generalize total (bs.take k) = T at *
      generalize bs[k].length = L at *
      go_wp2
      go_round
      case rel => exact ⟨k + 1, by omega, by go_num, by rw [hts.out]; go_num⟩
      case measure => simp [intOf]; omega
    · have hT := hid (show total (bs.take k) = total bs by rw [List.take_of_length_le (by omega)])
      rw [hT.out]
      generalize htb : total bs = T at *
      have HTB := hid htb
      clear htb hT hle
      have hmk : ∀ w, Sem.run Try.prog (Instr.makeSlice 52 (.int .i64 0) (.int .i64 (T : Int))) w = .ok (.slice (some ⟨w.heap.size, 0, none⟩) 0 T) (w.alloc (.cells (madeCells #[.int .u32 0, .int .u32 0, .int .u32 0, .int .u32 0, .int .u32 0] (T * 5)) 60)) :=
        mk_run (P := Try.prog) 52 60 _ 5 20 Try.underlying52 info60 0 T (Nat.zero_le _) (by omega) (by omega)
      go_wp2
      clear hmk
      go_loopw [5, 6] (fun o i wr => ∃ q : Nat, q ≤ bs.length ∧ i = .int .i64 q ∧ o = .slice (some ⟨w.heap.size, 0, none⟩) (bs.take q).flatten.length T ∧ wr.ownsRow w.heap.size 60 5 (.slice (some ⟨w.heap.size, 0, none⟩) (bs.take q).flatten.length T) (bs.take q).flatten.length (flat (bs.take q).flatten) ∧ Below w.heap.size w wr) (fun _ i _ => bs.length - (intOf i).toNat)
      case atStart =>
        refine ⟨0, Nat.zero_le _, rfl, by simp, ?_, (Below.refl _ _).alloc (Nat.le_refl _) _⟩
        have := owns_of_row (B := w.heap.size) (size := 5) (n := 0) (row_made5 w T 60) (Nat.le_refl _) (Nat.zero_le _) (by unfold maxLen; omega)
        simpa [flat] using this
      case round =>
        obtain ⟨q, hq, rfl, rfl, hown, hb⟩ := hrel
        by_cases hlq : q < bs.length
        · obtain ⟨b, off, rfl, ai, ci, hcell, h5⟩ := hr.at hlq
          have hbig := hid (show (bs.take (q + 1)).flatten = (bs.take q).flatten ++ bs[q] by rw [List.take_succ_eq_append_getElem hlq, List.flatten_append]; simp)
          have hroom : (bs.take q).flatten.length + bs[q].length ≤ T := by
            have h1 := total_le bs (q + 1)
            rw [total_flatten (bs.take (q + 1)), hbig.out, List.length_append, HTB.out] at h1
            exact h1
          generalize (bs.take q).flatten = pre at *
          generalize bs[q] = es at *
          clear hr
          go_wp2
          obtain ⟨wo, rfl⟩ : ∃ wo : World, wo = wr := ⟨_, rfl⟩
          go_loopw [5, 7] (fun o i wr => ∃ j : Nat, j ≤ es.length ∧ i = .int .i64 j ∧ o = .slice (some ⟨w.heap.size, 0, none⟩) (pre.length + j) T ∧ wr.ownsRow w.heap.size 60 5 (.slice (some ⟨w.heap.size, 0, none⟩) (pre.length + j) T) (pre.length + j) (flat (pre ++ es.take j)) ∧ Below w.heap.size w wr) (fun _ i _ => es.length - (intOf i).toNat)
          case atStart => exact ⟨0, Nat.zero_le _, rfl, rfl, by simpa using hown, hb⟩
          case round =>
            obtain ⟨j, hj, rfl, rfl, hown2, hb2⟩ := hrel
            have hcell' : wr.cell? ⟨b, off + q, none⟩ = some (.slice ai es.length ci) := (hb2.cell (p := ⟨b, off + q, none⟩) (World.block_lt_of_cell? _ _ hcell)).trans hcell
            clear hown hb
            by_cases hjl : j < es.length
            · obtain ⟨b', off', rfl, e1, e2, e3, e4, e5⟩ := h5.at hjl
              have q1 : wr.cell? ⟨b', off' + j * 5, none⟩ = _ := (hb2.cell (p := ⟨b', off' + j * 5, none⟩) (World.block_lt_of_cell? _ _ e1)).trans e1
              have q2 : wr.cell? ⟨b', off' + j * 5 + 1, none⟩ = _ := (hb2.cell (p := ⟨b', off' + j * 5 + 1, none⟩) (World.block_lt_of_cell? _ _ e2)).trans e2
              have q3 : wr.cell? ⟨b', off' + j * 5 + 2, none⟩ = _ := (hb2.cell (p := ⟨b', off' + j * 5 + 2, none⟩) (World.block_lt_of_cell? _ _ e3)).trans e3
              have q4 : wr.cell? ⟨b', off' + j * 5 + 3, none⟩ = _ := (hb2.cell (p := ⟨b', off' + j * 5 + 3, none⟩) (World.block_lt_of_cell? _ _ e4)).trans e4
              have q5 : wr.cell? ⟨b', off' + j * 5 + 4, none⟩ = _ := (hb2.cell (p := ⟨b', off' + j * 5 + 4, none⟩) (World.block_lt_of_cell? _ _ e5)).trans e5
              have hsz := hb2.size
              have hfl := hid (show flat (pre ++ es.take (j + 1)) = flat (pre ++ es.take j) ++ [.int .u32 es[j].a, .int .u32 es[j].b, .int .u32 es[j].c, .int .u32 es[j].d, .int .u32 es[j].e] by rw [List.take_succ_eq_append_getElem hjl, ← List.append_assoc, flat_snoc])
              clear e1 e2 e3 e4 e5 h5 hcell
              generalize flat (pre ++ es.take j) = xs at *
              generalize es[j] = p at *
              go_wp2_with (at_builtin; refine wpList_append_fits _ rfl _ _ 52 rfl w.heap.size 60 i60 5 Try.underlying52 hi hz1 w.heap.size (pre.length + j) T xs rfl (hown2.alloc _) ⟨wr.heap.size, 0, none⟩ 1 1 [.int .u32 p.a, .int .u32 p.b, .int .u32 p.c, .int .u32 p.d, .int .u32 p.e] rfl rfl ?c1 ?c2 ?c3 ?_)
              case c1 =>
                intro t u ht
                match t, ht with
                | 0, ht => simp at ht; subst ht; simp [Addr.add]
                | 1, ht => simp at ht; subst ht; simp [Addr.add]
                | 2, ht => simp at ht; subst ht; simp [Addr.add]
                | 3, ht => simp at ht; subst ht; simp [Addr.add]
                | 4, ht => simp at ht; subst ht; simp [Addr.add]
              case c2 => intro u hu; simp at hu; rcases hu with rfl | rfl | rfl | rfl | rfl <;> rfl
              case c3 => omega
              intro w1 hown3 hgrow
              have hb3 := hid ((hb2.alloc hsz (.cells #[.int .u32 p.a, .int .u32 p.b, .int .u32 p.c, .int .u32 p.d, .int .u32 p.e] 60)).grown hgrow (by simp; omega) (by rintro k h; simp at h; omega))
              have H3 := hid hown3
              clear hown3 hgrow hown2 hb2 q1 q2 q3 q4 q5
              go_wp2
              go_roundw
              case rel => exact ⟨j + 1, by omega, by go_num, by simp [Nat.add_assoc], by rw [hfl.out, ← Nat.add_assoc]; exact H3.out, hb3.out⟩
              case measure => simp [intOf]; omega
            · have hj' := hid (show j = es.length by omega)
              go_wp2
              go_roundw
              case rel => exact ⟨q + 1, by omega, by go_num, by rw [hbig.out, hj'.out]; simp, by rw [hbig.out]; rw [hj'.out, List.take_length] at hown2; simpa using hown2, hb2⟩
              case measure => simp [intOf]; omega
        · have hq' := hid (show (bs.take q).flatten = bs.flatten by rw [List.take_of_length_le (by omega)])
          have hT' : Hid (bs.flatten.length = T) := by unfold Hid; rw [← total_flatten]; exact HTB.out
          go_wp2
          go_ret
          rw [hq'.out] at hown
          refine ⟨?_, In5_of_owns hown, hb⟩
          simp [hq'.out, hT'.out, HTB.out]
end Go.Proofs.Qxb6602566a
