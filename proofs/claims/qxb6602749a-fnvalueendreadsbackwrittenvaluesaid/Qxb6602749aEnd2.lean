/- valueEnd, the bare case. -/
import Derived.Test.Qxb6602749aEnd
namespace Go.Proofs.Qxb6602749a
open Go.RowKit

theorem space_yes14 (w : World) (c : Int) (h : sp c = true) : Calls Try.prog 14 #[.int .u8 c] w fun e w' => e = .returned (.bool true) ∧ w' = w := h ▸ space14 w c
theorem space_no14 (w : World) (c : Int) (h : sp c = false) : Calls Try.prog 14 #[.int .u8 c] w fun e w' => e = .returned (.bool false) ∧ w' = w := h ▸ space14 w c
theorem space_yes13 (w : World) (c : Int) (h : sp c = true) : Calls Try.prog 13 #[.int .u8 c] w fun e w' => e = .returned (.bool true) ∧ w' = w := h ▸ space13 w c
theorem space_no13 (w : World) (c : Int) (h : sp c = false) : Calls Try.prog 13 #[.int .u8 c] w fun e w' => e = .returned (.bool false) ∧ w' = w := h ▸ space13 w c
theorem even_yes (w : World) (s : ByteArray) (lo j : Nat) (hs : s.size ≤ 4194304) (hj : j ≤ s.size) (h : ev s lo j = true) : Calls Try.prog 12 #[.string s, .int .i64 (lo : Int), .int .i64 (j : Int)] w fun e w' => e = .returned (.bool true) ∧ w' = w := h ▸ even_any w s lo j hs hj
theorem even_no (w : World) (s : ByteArray) (lo j : Nat) (hs : s.size ≤ 4194304) (hj : j ≤ s.size) (h : ev s lo j = false) : Calls Try.prog 12 #[.string s, .int .i64 (lo : Int), .int .i64 (j : Int)] w fun e w' => e = .returned (.bool false) ∧ w' = w := h ▸ even_any w s lo j hs hj

set_option maxHeartbeats 800000 in
theorem valueEnd_b (w : World) (s : ByteArray) (st : Nat) (hs : s.size ≤ 4194304) (hst : st < s.size) (hq : bt s st ≠ 39) :
    Calls Try.prog 11 #[.string s, .int .i64 (st : Int)] w fun e w' => (∃ r : Nat, e = .returned (.int .i64 (r : Int)) ∧ r ≤ s.size ∧ EndIs s false st r) ∧ w' = w := by
  have hb := bt_eq s st hst
  have h39 : ((s[st].toNat : Int) == 39) = false := by rw [← hb]; exact beq_eq_false_iff_ne.2 hq
  clear hb hq
  go_enter Try.func11, Try.ntmps11
  go_wp2_with fail
  go_loop [6] (fun i => ∃ k : Nat, st ≤ k ∧ k ≤ s.size + 1 ∧ i = .int .i64 (k : Int) ∧ ev s st k = true ∧ ∀ i, st ≤ i → i < k → ¬ Hit s false st i) (fun i => (s.size + 1) - (intOf i).toNat)
  case atStart => exact ⟨st, Nat.le_refl _, by omega, rfl, ev_lo _ _ _ (Nat.le_refl _), fun i h1 h2 => by omega⟩
  case round =>
    obtain ⟨k, hk1, hk2, rfl, he, hn⟩ := hrel
    have HE := hid he
    have HN := hid hn
    clear he hn
    by_cases hlt : k < s.size
    · have hb := hid (bt_eq s k hlt)
      by_cases c1 : bt s k = 92
      · have c1' : ((s[k].toNat : Int) == 92) = true := by rw [← hb.out, c1]; rfl
        have H := hid (pass2 hk1 HE.out HN.out c1)
        clear c1
        go_wp2_with fail
        go_round
        case rel => exact ⟨k + 2, by omega, by omega, by go_num, H.out.1, H.out.2⟩
        case measure => simp [intOf]; omega
      · have c1' : ((s[k].toNat : Int) == 92) = false := by rw [← hb.out]; exact beq_eq_false_iff_ne.2 c1
        by_cases c2 : sp (bt s k) = true
        · have c2' : sp (s[k].toNat : Int) = true := by rw [← hb.out, c2]
          have HSP := hid (space_yes14 w _ c2')
          have H := hid (show EndIs s false st k from .inl ⟨k, hk1, hlt, ⟨c2, HE.out⟩, HN.out, rfl⟩)
          clear c1 c2 c2'
          go_wp2_with fail
          refine HSP.out.mono ?_
          rintro e w' ⟨rfl, rfl⟩
          go_wp2_with fail
          go_ret
          exact ⟨⟨k, rfl, by omega, H.out⟩, rfl⟩
        · have c2' : sp (s[k].toNat : Int) = false := by rw [← hb.out]; exact Bool.eq_false_iff.2 c2
          have HSP := hid (space_no14 w _ c2')
          have H := hid (pass1 (q := false) hk1 HN.out c1 (by simpa [stopB] using c2))
          clear c1 c2 c2'
          go_wp2_with fail
          refine HSP.out.mono ?_
          rintro e w' ⟨rfl, rfl⟩
          go_wp2_with fail
          go_round
          case rel => exact ⟨k + 1, by omega, by omega, by go_num, H.out.1, H.out.2⟩
          case measure => simp [intOf]; omega
    · have H := hid (show EndIs s false st s.size from .inr ⟨fun i h1 h2 => HN.out i h1 (by omega), rfl⟩)
      go_wp2_with fail
      go_ret
      exact ⟨⟨s.size, rfl, Nat.le_refl _, H.out⟩, rfl⟩

theorem valueEnd_past (w : World) (s : ByteArray) (st : Int) (hst : (s.size : Int) ≤ st) :
    Calls Try.prog 11 #[.string s, .int .i64 st] w fun e w' => e = .returned (.int .i64 (s.size : Int)) ∧ w' = w := by
  go_enter Try.func11, Try.ntmps11
  go_wp2_with fail
  go_loop [6] (fun i => i = .int .i64 st) (fun _ => 0)
  case atStart => rfl
  case round =>
    subst hrel
    go_wp2_with fail
    go_ret
    exact ⟨rfl, rfl⟩

theorem model_past (w : World) (s : ByteArray) (st : Int) (hst : (s.size : Int) ≤ st) :
    Calls Try.prog 7 #[.string s, .int .i64 st] w fun e w' => e = .returned (.int .i64 (s.size : Int)) ∧ w' = w := by
  go_enter Try.func7, Try.ntmps7
  go_wp2_with fail
  go_ret
  exact ⟨rfl, rfl⟩

theorem pass_model {s : ByteArray} {q : Bool} {lo k : Nat} (hn : ∀ i, lo ≤ i → i < k → ¬ Hit s q lo i) (h : ¬ Hit s q lo k) : ∀ i, lo ≤ i → i < k + 1 → ¬ Hit s q lo i := fun i h1 h2 => by
  by_cases a : i < k
  · exact hn i h1 a
  · have : i = k := by omega
    subst this; exact h

set_option maxHeartbeats 800000 in
theorem model_q (w : World) (s : ByteArray) (st : Nat) (hs : s.size ≤ 4194304) (hst : st < s.size) (hq : bt s st = 39) :
    Calls Try.prog 7 #[.string s, .int .i64 (st : Int)] w fun e w' => (∃ r : Nat, e = .returned (.int .i64 (r : Int)) ∧ r ≤ s.size ∧ EndIs s true (st + 1) r) ∧ w' = w := by
  have hb := bt_eq s st hst
  have h39 : ((s[st].toNat : Int) == 39) = true := by rw [← hb, hq]; rfl
  clear hb hq
  have hd : decide (s.size ≤ st) = false := by simp; omega
  go_enter Try.func7, Try.ntmps7
  go_wp2_with fail
  clear hd
  go_loop [6] (fun i => ∃ k : Nat, st + 1 ≤ k ∧ k ≤ s.size ∧ i = .int .i64 (k : Int) ∧ ∀ i, st + 1 ≤ i → i < k → ¬ Hit s true (st + 1) i) (fun i => s.size - (intOf i).toNat)
  case atStart => exact ⟨st + 1, Nat.le_refl _, by omega, by go_num, fun i h1 h2 => by omega⟩
  case round =>
    obtain ⟨k, hk1, hk2, rfl, hn⟩ := hrel
    have HN := hid hn
    clear hn
    by_cases hlt : k < s.size
    · have hb := hid (bt_eq s k hlt)
      by_cases c2 : bt s k = 39
      · have c2' : ((s[k].toNat : Int) == 39) = true := by rw [← hb.out, c2]; rfl
        cases hev : ev s (st + 1) k with
        | true =>
          have HEV := even_yes w s (st + 1) k hs hk2 hev
          rw [show ((st + 1 : Nat) : Int) = (st : Int) + 1 from by omega] at HEV
          have HEV := hid HEV
          have H := hid (show EndIs s true (st + 1) (k + 1) from .inl ⟨k, hk1, hlt, ⟨by rw [c2]; rfl, hev⟩, HN.out, rfl⟩)
          clear c2 hev
          go_wp2_with fail
          refine HEV.out.mono ?_
          rintro e w' ⟨rfl, rfl⟩
          go_wp2_with fail
          go_ret
          exact ⟨⟨k + 1, by go_num, by omega, H.out⟩, rfl⟩
        | false =>
          have HEV := even_no w s (st + 1) k hs hk2 hev
          rw [show ((st + 1 : Nat) : Int) = (st : Int) + 1 from by omega] at HEV
          have HEV := hid HEV
          have H := hid (pass_model (q := true) HN.out (k := k) (by intro hh; rw [Hit, hev] at hh; exact absurd hh.2 (by simp)))
          clear c2 hev
          go_wp2_with fail
          refine HEV.out.mono ?_
          rintro e w' ⟨rfl, rfl⟩
          go_wp2_with fail
          go_round
          case rel => exact ⟨k + 1, by omega, by omega, by go_num, H.out⟩
          case measure => simp [intOf]; omega
      · have c2' : ((s[k].toNat : Int) == 39) = false := by rw [← hb.out]; exact beq_eq_false_iff_ne.2 c2
        have H := hid (pass_model (q := true) HN.out (k := k) (by intro hh; exact c2 (by simpa [stopB] using hh.1)))
        clear c2
        go_wp2_with fail
        go_round
        case rel => exact ⟨k + 1, by omega, by omega, by go_num, H.out⟩
        case measure => simp [intOf]; omega
    · have H := hid (show EndIs s true (st + 1) s.size from .inr ⟨fun i h1 h2 => HN.out i h1 (by omega), rfl⟩)
      go_wp2_with fail
      go_ret
      exact ⟨⟨s.size, rfl, Nat.le_refl _, H.out⟩, rfl⟩

set_option maxHeartbeats 800000 in
theorem model_b (w : World) (s : ByteArray) (st : Nat) (hs : s.size ≤ 4194304) (hst : st < s.size) (hq : bt s st ≠ 39) :
    Calls Try.prog 7 #[.string s, .int .i64 (st : Int)] w fun e w' => (∃ r : Nat, e = .returned (.int .i64 (r : Int)) ∧ r ≤ s.size ∧ EndIs s false st r) ∧ w' = w := by
  have hb := bt_eq s st hst
  have h39 : ((s[st].toNat : Int) == 39) = false := by rw [← hb]; exact beq_eq_false_iff_ne.2 hq
  clear hb hq
  have hd : decide (s.size ≤ st) = false := by simp; omega
  go_enter Try.func7, Try.ntmps7
  go_wp2_with fail
  clear hd
  go_loop [7] (fun i => ∃ k : Nat, st ≤ k ∧ k ≤ s.size ∧ i = .int .i64 (k : Int) ∧ ∀ i, st ≤ i → i < k → ¬ Hit s false st i) (fun i => s.size - (intOf i).toNat)
  case atStart => exact ⟨st, Nat.le_refl _, by omega, rfl, fun i h1 h2 => by omega⟩
  case round =>
    obtain ⟨k, hk1, hk2, rfl, hn⟩ := hrel
    have HN := hid hn
    clear hn
    by_cases hlt : k < s.size
    · have hb := hid (bt_eq s k hlt)
      by_cases c2 : sp (bt s k) = true
      · have HSP := hid (space_yes13 w (s[k].toNat : Int) (by rw [← hb.out, c2]))
        cases hev : ev s st k with
        | true =>
          have HEV := hid (even_yes w s st k hs hk2 hev)
          have H := hid (show EndIs s false st k from .inl ⟨k, hk1, hlt, ⟨c2, hev⟩, HN.out, rfl⟩)
          clear c2 hev
          go_wp2_with fail
          refine HSP.out.mono ?_
          rintro e w' ⟨rfl, rfl⟩
          go_wp2_with fail
          refine HEV.out.mono ?_
          rintro e w'' ⟨rfl, rfl⟩
          go_wp2_with fail
          go_ret
          exact ⟨⟨k, by go_num, by omega, H.out⟩, rfl⟩
        | false =>
          have HEV := hid (even_no w s st k hs hk2 hev)
          have H := hid (pass_model (q := false) HN.out (k := k) (by intro hh; rw [Hit, hev] at hh; exact absurd hh.2 (by simp)))
          clear c2 hev
          go_wp2_with fail
          refine HSP.out.mono ?_
          rintro e w' ⟨rfl, rfl⟩
          go_wp2_with fail
          refine HEV.out.mono ?_
          rintro e w'' ⟨rfl, rfl⟩
          go_wp2_with fail
          go_round
          case rel => exact ⟨k + 1, by omega, by omega, by go_num, H.out⟩
          case measure => simp [intOf]; omega
      · have HSP := hid (space_no13 w (s[k].toNat : Int) (by rw [← hb.out]; exact Bool.eq_false_iff.2 c2))
        have H := hid (pass_model (q := false) HN.out (k := k) (by intro hh; exact c2 hh.1))
        clear c2
        go_wp2_with fail
        refine HSP.out.mono ?_
        rintro e w' ⟨rfl, rfl⟩
        go_wp2_with fail
        go_round
        case rel => exact ⟨k + 1, by omega, by omega, by go_num, H.out⟩
        case measure => simp [intOf]; omega
    · have H := hid (show EndIs s false st s.size from .inr ⟨fun i h1 h2 => HN.out i h1 (by omega), rfl⟩)
      go_wp2_with fail
      go_ret
      exact ⟨⟨s.size, rfl, Nat.le_refl _, H.out⟩, rfl⟩

/-- ZZvalueEnd hands valueEnd on. -/
theorem zzEnd (w : World) (s : ByteArray) (st : Int) (R : Nat → Prop) (h : Calls Try.prog 11 #[.string s, .int .i64 st] w fun e w' => (∃ r : Nat, e = .returned (.int .i64 (r : Int)) ∧ R r) ∧ w' = w) :
    Calls Try.prog 6 #[.string s, .int .i64 st] w fun e w' => (∃ r : Nat, e = .returned (.int .i64 (r : Int)) ∧ R r) ∧ w' = w := by
  have H := hid h
  clear h
  go_enter Try.func6, Try.ntmps6
  go_wp2_with fail
  refine H.out.mono ?_
  rintro e w' ⟨⟨r, rfl, hq⟩, rfl⟩
  have HQ := hid hq
  clear hq
  go_wp2_with fail
  go_ret
  exact ⟨⟨r, rfl, HQ.out⟩, rfl⟩

/-- Both roads come to the same end. -/
theorem both (w : World) (s : ByteArray) (st : Int) (hs : s.size ≤ 4194304) (h0 : 0 ≤ st) :
    ∃ R : Nat → Prop, (∀ r r', R r → R r' → r = r') ∧ Calls Try.prog 11 #[.string s, .int .i64 st] w (fun e w' => (∃ r : Nat, e = .returned (.int .i64 (r : Int)) ∧ R r) ∧ w' = w) ∧
      Calls Try.prog 7 #[.string s, .int .i64 st] w (fun e w' => (∃ r : Nat, e = .returned (.int .i64 (r : Int)) ∧ R r) ∧ w' = w) := by
  by_cases hst : (s.size : Int) ≤ st
  · exact ⟨fun r => r = s.size, fun _ _ h h' => h.trans h'.symm, (valueEnd_past w s st hst).mono fun e w' h => ⟨⟨s.size, h.1, rfl⟩, h.2⟩, (model_past w s st hst).mono fun e w' h => ⟨⟨s.size, h.1, rfl⟩, h.2⟩⟩
  · obtain ⟨k, rfl⟩ : ∃ k : Nat, st = (k : Int) := ⟨st.toNat, by omega⟩
    have hk : k < s.size := by omega
    by_cases hq : bt s k = 39
    · exact ⟨EndIs s true (k + 1), fun _ _ h h' => h.unique h', (valueEnd_q w s k hs hk hq).mono fun e w' ⟨⟨r, h1, _, h3⟩, h4⟩ => ⟨⟨r, h1, h3⟩, h4⟩, (model_q w s k hs hk hq).mono fun e w' ⟨⟨r, h1, _, h3⟩, h4⟩ => ⟨⟨r, h1, h3⟩, h4⟩⟩
    · exact ⟨EndIs s false k, fun _ _ h h' => h.unique h', (valueEnd_b w s k hs hk hq).mono fun e w' ⟨⟨r, h1, _, h3⟩, h4⟩ => ⟨⟨r, h1, h3⟩, h4⟩, (model_b w s k hs hk hq).mono fun e w' ⟨⟨r, h1, _, h3⟩, h4⟩ => ⟨⟨r, h1, h3⟩, h4⟩⟩
end Go.Proofs.Qxb6602749a
