/- valueEnd and its model: the calls, each by a contract. -/
import Derived.Test.Qxb6602749aProg
import Derived.WalkKit
namespace Go.Proofs.Qxb6602749a
open Go.RowKit

theorem hid {p : Prop} (h : p) : Hid p := h

/-- The six bytes that count for a space. -/
def sp (c : Int) : Bool := c == 32 || c == 9 || c == 10 || c == 11 || c == 12 || c == 13

theorem space14 (w : World) (c : Int) : Calls Try.prog 14 #[.int .u8 c] w fun e w' => e = .returned (.bool (sp c)) ∧ w' = w := by
  by_cases h0 : c = 32
  · subst h0
    go_enter Try.func14, Try.ntmps14
    go_wp2
    go_ret
    exact ⟨rfl, rfl⟩
  have e0 : (c == 32) = false := beq_eq_false_iff_ne.2 h0
  clear h0
  by_cases h1 : c = 9
  · subst h1
    go_enter Try.func14, Try.ntmps14
    go_wp2
    go_ret
    exact ⟨rfl, rfl⟩
  have e1 : (c == 9) = false := beq_eq_false_iff_ne.2 h1
  clear h1
  by_cases h2 : c = 10
  · subst h2
    go_enter Try.func14, Try.ntmps14
    go_wp2
    go_ret
    exact ⟨rfl, rfl⟩
  have e2 : (c == 10) = false := beq_eq_false_iff_ne.2 h2
  clear h2
  by_cases h3 : c = 11
  · subst h3
    go_enter Try.func14, Try.ntmps14
    go_wp2
    go_ret
    exact ⟨rfl, rfl⟩
  have e3 : (c == 11) = false := beq_eq_false_iff_ne.2 h3
  clear h3
  by_cases h4 : c = 12
  · subst h4
    go_enter Try.func14, Try.ntmps14
    go_wp2
    go_ret
    exact ⟨rfl, rfl⟩
  have e4 : (c == 12) = false := beq_eq_false_iff_ne.2 h4
  clear h4
  by_cases h5 : c = 13
  · subst h5
    go_enter Try.func14, Try.ntmps14
    go_wp2
    go_ret
    exact ⟨rfl, rfl⟩
  have e5 : (c == 13) = false := beq_eq_false_iff_ne.2 h5
  clear h5
  have H := hid (show sp c = false by unfold sp; rw [e0, e1, e2, e3, e4, e5]; rfl)
  go_enter Try.func14, Try.ntmps14
  go_wp2
  go_ret
  exact ⟨by rw [H.out]; rfl, rfl⟩

theorem space13 (w : World) (c : Int) : Calls Try.prog 13 #[.int .u8 c] w fun e w' => e = .returned (.bool (sp c)) ∧ w' = w := by
  by_cases h0 : c = 32
  · subst h0
    go_enter Try.func13, Try.ntmps13
    go_wp2
    go_ret
    exact ⟨rfl, rfl⟩
  have e0 : (c == 32) = false := beq_eq_false_iff_ne.2 h0
  clear h0
  by_cases h1 : c = 9
  · subst h1
    go_enter Try.func13, Try.ntmps13
    go_wp2
    go_ret
    exact ⟨rfl, rfl⟩
  have e1 : (c == 9) = false := beq_eq_false_iff_ne.2 h1
  clear h1
  by_cases h2 : c = 10
  · subst h2
    go_enter Try.func13, Try.ntmps13
    go_wp2
    go_ret
    exact ⟨rfl, rfl⟩
  have e2 : (c == 10) = false := beq_eq_false_iff_ne.2 h2
  clear h2
  by_cases h3 : c = 11
  · subst h3
    go_enter Try.func13, Try.ntmps13
    go_wp2
    go_ret
    exact ⟨rfl, rfl⟩
  have e3 : (c == 11) = false := beq_eq_false_iff_ne.2 h3
  clear h3
  by_cases h4 : c = 12
  · subst h4
    go_enter Try.func13, Try.ntmps13
    go_wp2
    go_ret
    exact ⟨rfl, rfl⟩
  have e4 : (c == 12) = false := beq_eq_false_iff_ne.2 h4
  clear h4
  by_cases h5 : c = 13
  · subst h5
    go_enter Try.func13, Try.ntmps13
    go_wp2
    go_ret
    exact ⟨rfl, rfl⟩
  have e5 : (c == 13) = false := beq_eq_false_iff_ne.2 h5
  clear h5
  have H := hid (show sp c = false by unfold sp; rw [e0, e1, e2, e3, e4, e5]; rfl)
  go_enter Try.func13, Try.ntmps13
  go_wp2
  go_ret
  exact ⟨by rw [H.out]; rfl, rfl⟩

/-- Byte k of s, as a number. -/
def bt (s : ByteArray) (k : Nat) : Int := ((s.data.toList.getD k 0).toNat : Int)

theorem bt_eq (s : ByteArray) (k : Nat) (h : k < s.size) : bt s k = (s[k].toNat : Int) := by
  unfold bt
  have h' : k < s.data.toList.length := by simpa using h
  rw [List.getD_eq_getElem?_getD, List.getElem?_eq_getElem h']
  rfl

/-- Is the run of backslashes that ends just before j, counted no further back than lo, of even length? -/
def ev (s : ByteArray) (lo : Nat) : Nat → Bool
  | 0 => true
  | j + 1 => if j < lo then true else if bt s j = 92 then !(ev s lo j) else true

theorem ev_lo (s : ByteArray) (lo j : Nat) (h : j ≤ lo) : ev s lo j = true := by
  cases j with
  | zero => rfl
  | succ j => rw [ev, if_pos (by omega)]

set_option maxHeartbeats 400000 in
theorem even_any (w : World) (s : ByteArray) (lo j : Nat) (hs : s.size ≤ 4194304) (hj : j ≤ s.size) :
    Calls Try.prog 12 #[.string s, .int .i64 (lo : Int), .int .i64 (j : Int)] w fun e w' => e = .returned (.bool (ev s lo j)) ∧ w' = w := by
  go_enter Try.func12, Try.ntmps12
  go_wp2
  go_loop [7, 8] (fun o m => ∃ (b : Bool) (k : Nat), k ≤ j ∧ o = .bool b ∧ m = .int .i64 ((k : Int) - 1) ∧ ev s lo j = (b == !(ev s lo k))) (fun _ m => (intOf m + 1).toNat)
  case atStart => exact ⟨false, j, Nat.le_refl _, rfl, rfl, by cases ev s lo j <;> rfl⟩
  case round =>
    obtain ⟨b, k, hk, rfl, rfl, he⟩ := hrel
    have HE := hid he
    clear he
    by_cases hlt : lo < k
    · obtain ⟨m, rfl⟩ : ∃ m, k = m + 1 := ⟨k - 1, by omega⟩
      have hb := hid (bt_eq s m (by omega))
      have hms : m < s.size := by omega
      have hev := hid (show ev s lo (m + 1) = if bt s m = 92 then !(ev s lo m) else true by rw [ev, if_neg (by omega)])
      have hc : (((m : Int) + 1 - 1)) = (m : Int) := by omega
      by_cases h92 : bt s m = 92
      · have h92' : ((s[m].toNat : Int) == 92) = true := by rw [← hb.out, h92]; rfl
        have H92 := hid h92
        clear h92
        go_wp2
        go_round
        case rel =>
          refine ⟨!b, m, by omega, rfl, by go_num, ?_⟩
          rw [HE.out, hev.out, if_pos H92.out]
          cases b <;> cases ev s lo m <;> rfl
        case measure => simp [intOf]
      · have h92' : ((s[m].toNat : Int) == 92) = false := by rw [← hb.out]; exact beq_eq_false_iff_ne.2 h92
        have H92 := hid h92
        clear h92
        go_wp2
        go_ret
        refine ⟨?_, rfl⟩
        rw [HE.out, hev.out, if_neg H92.out]
        cases b <;> rfl
    · have hlo' := hid (ev_lo s lo k (by omega))
      go_wp2
      go_ret
      refine ⟨?_, rfl⟩
      rw [HE.out, hlo'.out]
      cases b <;> rfl

/-- Does byte c end a value? -/
def stopB (q : Bool) (c : Int) : Bool := if q then c == 39 else sp c
def Hit (s : ByteArray) (q : Bool) (lo i : Nat) : Prop := stopB q (bt s i) = true ∧ ev s lo i = true
/-- r is where the value that begins at lo ends: at the first byte that ends it and is not escaped; else at the end of s. -/
def EndIs (s : ByteArray) (q : Bool) (lo r : Nat) : Prop :=
  (∃ j, lo ≤ j ∧ j < s.size ∧ Hit s q lo j ∧ (∀ i, lo ≤ i → i < j → ¬ Hit s q lo i) ∧ r = if q then j + 1 else j) ∨ ((∀ i, lo ≤ i → i < s.size → ¬ Hit s q lo i) ∧ r = s.size)

theorem EndIs.unique {s : ByteArray} {q : Bool} {lo r r' : Nat} (h : EndIs s q lo r) (h' : EndIs s q lo r') : r = r' := by
  rcases h with ⟨j, a1, a2, a3, a4, rfl⟩ | ⟨a1, rfl⟩ <;> rcases h' with ⟨j', b1, b2, b3, b4, rfl⟩ | ⟨b1, rfl⟩
  · have : j = j' := by
      rcases Nat.lt_trichotomy j j' with h | h | h
      · exact absurd a3 (b4 j a1 h)
      · exact h
      · exact absurd b3 (a4 j' b1 h)
    rw [this]
  · exact absurd a3 (b1 j a1 a2)
  · exact absurd b3 (a1 j' b1 b2)
  · rfl

theorem ev_succ (s : ByteArray) (lo k : Nat) (h : lo ≤ k) : ev s lo (k + 1) = if bt s k = 92 then !(ev s lo k) else true := by
  rw [ev, if_neg (by omega)]

theorem stop92 (q : Bool) : stopB q 92 = false := by cases q <;> rfl

/-- A backslash and the byte behind it are passed over. -/
theorem pass2 {s : ByteArray} {q : Bool} {lo k : Nat} (hk : lo ≤ k) (he : ev s lo k = true) (hn : ∀ i, lo ≤ i → i < k → ¬ Hit s q lo i) (h : bt s k = 92) :
    ev s lo (k + 2) = true ∧ ∀ i, lo ≤ i → i < k + 2 → ¬ Hit s q lo i := by
  have e1 : ev s lo (k + 1) = false := by rw [ev_succ s lo k hk, if_pos h, he]; rfl
  refine ⟨by rw [ev_succ s lo (k + 1) (by omega), e1]; split <;> rfl, fun i h1 h2 => ?_⟩
  by_cases a : i < k
  · exact hn i h1 a
  · by_cases b : i = k
    · subst b; intro hh; rw [Hit, h, stop92] at hh; exact absurd hh.1 (by simp)
    · have : i = k + 1 := by omega
      subst this; intro hh; rw [Hit, e1] at hh; exact absurd hh.2 (by simp)

theorem pass1 {s : ByteArray} {q : Bool} {lo k : Nat} (hk : lo ≤ k) (hn : ∀ i, lo ≤ i → i < k → ¬ Hit s q lo i) (h : bt s k ≠ 92) (hs : stopB q (bt s k) = false) :
    ev s lo (k + 1) = true ∧ ∀ i, lo ≤ i → i < k + 1 → ¬ Hit s q lo i := by
  refine ⟨by rw [ev_succ s lo k hk, if_neg h], fun i h1 h2 => ?_⟩
  by_cases a : i < k
  · exact hn i h1 a
  · have : i = k := by omega
    subst this; intro hh; rw [Hit, hs] at hh; exact absurd hh.1 (by simp)

set_option maxHeartbeats 800000 in
theorem valueEnd_q (w : World) (s : ByteArray) (st : Nat) (hs : s.size ≤ 4194304) (hst : st < s.size) (hq : bt s st = 39) :
    Calls Try.prog 11 #[.string s, .int .i64 (st : Int)] w fun e w' => (∃ r : Nat, e = .returned (.int .i64 (r : Int)) ∧ r ≤ s.size ∧ EndIs s true (st + 1) r) ∧ w' = w := by
  have hb := bt_eq s st hst
  have h39 : ((s[st].toNat : Int) == 39) = true := by rw [← hb, hq]; rfl
  clear hb hq
  go_enter Try.func11, Try.ntmps11
  go_wp2_with fail
  go_loop [6] (fun i => ∃ k : Nat, st + 1 ≤ k ∧ k ≤ s.size + 1 ∧ i = .int .i64 (k : Int) ∧ ev s (st + 1) k = true ∧ ∀ i, st + 1 ≤ i → i < k → ¬ Hit s true (st + 1) i) (fun i => (s.size + 1) - (intOf i).toNat)
  case atStart => exact ⟨st + 1, Nat.le_refl _, by omega, by go_num, ev_lo _ _ _ (Nat.le_refl _), fun i h1 h2 => by omega⟩
  case round =>
    obtain ⟨k, hk1, hk2, rfl, he, hn⟩ := hrel
    have HE := hid he
    have HN := hid hn
    clear he hn
    by_cases hlt : k < s.size
    · have hb := hid (bt_eq s k hlt)
      by_cases c1 : bt s k = 92
      · have c1' : ((s[k].toNat : Int) == 92) = true := by rw [← hb.out, c1]; rfl
        have H := hid (pass2 hk1 HE.out HN.out c1)
        clear c1
        go_wp2_with fail
        go_round
        case rel => exact ⟨k + 2, by omega, by omega, by go_num, H.out.1, H.out.2⟩
        case measure => simp [intOf]; omega
      · have c1' : ((s[k].toNat : Int) == 92) = false := by rw [← hb.out]; exact beq_eq_false_iff_ne.2 c1
        by_cases c2 : bt s k = 39
        · have c2' : ((s[k].toNat : Int) == 39) = true := by rw [← hb.out, c2]; rfl
          have H := hid (show EndIs s true (st + 1) (k + 1) from .inl ⟨k, hk1, hlt, ⟨by rw [c2]; rfl, HE.out⟩, HN.out, rfl⟩)
          clear c1 c2
          go_wp2_with fail
          go_ret
          exact ⟨⟨k + 1, by go_num, by omega, H.out⟩, rfl⟩
        · have c2' : ((s[k].toNat : Int) == 39) = false := by rw [← hb.out]; exact beq_eq_false_iff_ne.2 c2
          have H := hid (pass1 (q := true) hk1 HN.out c1 (by simpa [stopB] using c2))
          clear c1 c2
          go_wp2_with fail
          go_round
          case rel => exact ⟨k + 1, by omega, by omega, by go_num, H.out.1, H.out.2⟩
          case measure => simp [intOf]; omega
    · have H := hid (show EndIs s true (st + 1) s.size from .inr ⟨fun i h1 h2 => HN.out i h1 (by omega), rfl⟩)
      go_wp2_with fail
      go_ret
      exact ⟨⟨s.size, rfl, Nat.le_refl _, H.out⟩, rfl⟩
end Go.Proofs.Qxb6602749a
