/- zzEscapeBare. -/
import Derived.Test.Qxb6602749aEsc
namespace Go.Proofs.Qxb6602749a
open Go.RowKit

set_option maxHeartbeats 1000000 in
theorem escB (w : World) (p : ByteArray) (hp : p.size ≤ 262144) :
    Calls Try.prog 9 #[.string p] w fun e w' => e = .returned (.string ⟨(es mb p.data.toList).toArray⟩) ∧ Below w.heap.size w w' := by
  obtain ⟨i0, hi, hz0, hz1, hz2⟩ := info_parts info5
  have HI := hid hi
  have HZ0 := hid hz0
  have HZ1 := hid hz1
  have HZ2 := hid hz2
  clear hi hz0 hz1 hz2
  have h2 : (2 : Int) * (p.size : Int) = ((2 * p.size : Nat) : Int) := by omega
  have H2 := hid h2
  clear h2
  go_enter Try.func9, Try.ntmps9
  go_wp2_with (refine wpList_make_own _ rfl _ _ 28 rfl w.heap.size 5 i0 _ 1 Try.underlying28 HI.out HZ0.out HZ1.out _ _ _ (2 * p.size) rfl rfl H2.out (by rw [HZ2.out]; omega) (by unfold maxLen; omega) (Nat.le_refl _) ?_; intro w1 hown1 hg1)
  have HK0 := hid (show Kept mb p w w1 0 0 from ⟨rfl, hown1, (Below.refl _ _).grown hg1 (Nat.le_refl _) (fun k hk => by cases hk)⟩)
  clear hown1 hg1
  go_loopw [3, 4] (fun v i wr => ∃ k n : Nat, k ≤ p.size ∧ i = .int .i64 (k : Int) ∧ v = .slice (some ⟨w.heap.size, 0, none⟩) n (2 * p.size) ∧ Kept mb p w wr k n) (fun _ i _ => p.size - (intOf i).toNat)
  case atStart => exact ⟨0, 0, Nat.zero_le _, rfl, rfl, HK0.out⟩
  case round =>
    obtain ⟨k, n, hk, rfl, rfl, hkept⟩ := hrel
    have HK := hid hkept
    have hE := E_len mb p k
    rw [HK.out.len] at hE
    clear hkept
    by_cases hlt : k < p.size
    · rcases (show (((p[k].toNat : Int) == 39) = true) ∨ (((p[k].toNat : Int) == 39) = false ∧ ((p[k].toNat : Int) == 92) = true) ∨ (((p[k].toNat : Int) == 39) = false ∧ ((p[k].toNat : Int) == 92) = false ∧ Hid (sp (p[k].toNat : Int) = true)) ∨ (((p[k].toNat : Int) == 39) = false ∧ ((p[k].toNat : Int) == 92) = false ∧ Hid (sp (p[k].toNat : Int) = false)) by
        unfold Hid
        cases ((p[k].toNat : Int) == 39) <;> cases ((p[k].toNat : Int) == 92) <;> cases sp (p[k].toNat : Int) <;> simp) with HA | ⟨HA, HB⟩ | ⟨HA, HB, HS⟩ | ⟨HA, HB, HS⟩
      · skip
        have hm := hid (show mb (p[k].toNat : Int) = true by unfold mb; simp [HA])
        go_wp2_with (first
          | (at_builtin; refine wpList_append_fits _ rfl (.tmp 29) (.tmp 30) 28 rfl w.heap.size 5 i0 1 Try.underlying28 HI.out HZ1.out w.heap.size n (2 * p.size) _ rfl (HK.out.own.alloc _) ⟨wr.heap.size, 0, none⟩ 1 1 [.int .u8 92] rfl rfl (new1 wr _) (ones _ rfl) (by omega) ?_; intro w2 hown2 hg2)
          | (at_builtin; refine wpList_append_fits _ rfl (.tmp 32) (.tmp 34) 28 rfl w.heap.size 5 i0 1 Try.underlying28 HI.out HZ1.out w.heap.size (n + 1) (2 * p.size) _ rfl (hown2.alloc _) ⟨w2.heap.size, 0, none⟩ 1 1 [.int .u8 (p[k].toNat : Int)] rfl rfl (new1 w2 _) (ones _ rfl) (by omega) ?_; intro w3 hown3 hg3))
        go_roundw
        case rel => exact ⟨k + 1, _, by omega, by go_num, rfl, HK.out.two hlt hm.out hg2 hg3 hown3⟩
        case measure => simp [intOf]; omega
      · skip
        have hm := hid (show mb (p[k].toNat : Int) = true by unfold mb; simp [HA, HB])
        go_wp2_with (first
          | (at_builtin; refine wpList_append_fits _ rfl (.tmp 29) (.tmp 30) 28 rfl w.heap.size 5 i0 1 Try.underlying28 HI.out HZ1.out w.heap.size n (2 * p.size) _ rfl (HK.out.own.alloc _) ⟨wr.heap.size, 0, none⟩ 1 1 [.int .u8 92] rfl rfl (new1 wr _) (ones _ rfl) (by omega) ?_; intro w2 hown2 hg2)
          | (at_builtin; refine wpList_append_fits _ rfl (.tmp 32) (.tmp 34) 28 rfl w.heap.size 5 i0 1 Try.underlying28 HI.out HZ1.out w.heap.size (n + 1) (2 * p.size) _ rfl (hown2.alloc _) ⟨w2.heap.size, 0, none⟩ 1 1 [.int .u8 (p[k].toNat : Int)] rfl rfl (new1 w2 _) (ones _ rfl) (by omega) ?_; intro w3 hown3 hg3))
        go_roundw
        case rel => exact ⟨k + 1, _, by omega, by go_num, rfl, HK.out.two hlt hm.out hg2 hg3 hown3⟩
        case measure => simp [intOf]; omega
      · skip
        have hm := hid (show mb (p[k].toNat : Int) = true by unfold mb; simp [HS.out])
        go_wp2_with (first
          | (go_at_call 13; refine (space_yes13 _ _ HS.out).mono ?_; rintro e w' ⟨rfl, hw⟩; replace hw := hw.symm; subst hw)
          | (at_builtin; refine wpList_append_fits _ rfl (.tmp 29) (.tmp 30) 28 rfl w.heap.size 5 i0 1 Try.underlying28 HI.out HZ1.out w.heap.size n (2 * p.size) _ rfl (HK.out.own.alloc _) ⟨wr.heap.size, 0, none⟩ 1 1 [.int .u8 92] rfl rfl (new1 wr _) (ones _ rfl) (by omega) ?_; intro w2 hown2 hg2)
          | (at_builtin; refine wpList_append_fits _ rfl (.tmp 32) (.tmp 34) 28 rfl w.heap.size 5 i0 1 Try.underlying28 HI.out HZ1.out w.heap.size (n + 1) (2 * p.size) _ rfl (hown2.alloc _) ⟨w2.heap.size, 0, none⟩ 1 1 [.int .u8 (p[k].toNat : Int)] rfl rfl (new1 w2 _) (ones _ rfl) (by omega) ?_; intro w3 hown3 hg3))
        go_roundw
        case rel => exact ⟨k + 1, _, by omega, by go_num, rfl, HK.out.two hlt hm.out hg2 hg3 hown3⟩
        case measure => simp [intOf]; omega
      · skip
        have hm := hid (show mb (p[k].toNat : Int) = false by unfold mb; simp [HA, HB, HS.out])
        go_wp2_with (first
          | (go_at_call 13; refine (space_no13 _ _ HS.out).mono ?_; rintro e w' ⟨rfl, hw⟩; replace hw := hw.symm; subst hw)
          | (at_builtin; refine wpList_append_fits _ rfl (.tmp 32) (.tmp 34) 28 rfl w.heap.size 5 i0 1 Try.underlying28 HI.out HZ1.out w.heap.size n (2 * p.size) _ rfl (HK.out.own.alloc _) ⟨wr.heap.size, 0, none⟩ 1 1 [.int .u8 (p[k].toNat : Int)] rfl rfl (new1 wr _) (ones _ rfl) (by omega) ?_; intro w2 hown2 hg2))
        go_roundw
        case rel => exact ⟨k + 1, _, by omega, by go_num, rfl, HK.out.one hlt hm.out hg2 hown2⟩
        case measure => simp [intOf]; omega
    · have hkm : k = p.size := by omega
      subst hkm
      have hconv := conv_own wr _ _ n _ _ HK.out.len HK.out.own
      rw [E_all] at hconv
      go_wp2_with fail
      go_ret
      exact ⟨rfl, HK.out.below⟩
end Go.Proofs.Qxb6602749a
