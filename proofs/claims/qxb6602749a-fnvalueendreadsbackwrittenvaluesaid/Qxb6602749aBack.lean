/- A value that was written is read back: the plain law. -/
import Derived.Test.Qxb6602749aEsc
namespace Go.Proofs.Qxb6602749a
open Go.RowKit

theorem run_esc (s : ByteArray) (lo : Nat) (q : Bool) (m : Int → Bool) (h92 : m 92 = true) (hst : ∀ c, m c = false → stopB q c = false) :
    ∀ (l : List UInt8) (k : Nat), lo ≤ k → ev s lo k = true → (∀ i, lo ≤ i → i < k → ¬ Hit s q lo i) → (∀ i, i < (es m l).length → bt s (k + i) = (((es m l).getD i 0).toNat : Int)) →
      ev s lo (k + (es m l).length) = true ∧ ∀ i, lo ≤ i → i < k + (es m l).length → ¬ Hit s q lo i
  | [], k, _, he, hn, _ => by rw [es_nil]; exact ⟨he, hn⟩
  | c :: l, k, hk, he, hn, hb => by
    rw [es_cons] at hb ⊢
    cases hm : m (c.toNat : Int) with
    | true =>
      rw [hm, if_pos rfl] at hb
      rw [if_pos rfl]
      have h0 : bt s k = 92 := by have := hb 0 (by simp); simpa using this
      obtain ⟨e2, n2⟩ := pass2 hk he hn h0
      have := run_esc s lo q m h92 hst l (k + 2) (by omega) e2 n2 (fun i hi => by
        have := hb (i + 2) (by simp; omega)
        rw [show k + 2 + i = k + (i + 2) by omega, this]
        simp)
      rwa [show k + ([92, c] ++ es m l).length = k + 2 + (es m l).length by simp; omega]
    | false =>
      rw [hm, if_neg (by simp)] at hb
      rw [if_neg (by simp)]
      have h0 : bt s k = (c.toNat : Int) := by have := hb 0 (by simp); simpa using this
      obtain ⟨e2, n2⟩ := pass1 hk hn (by rw [h0]; intro h; rw [h, h92] at hm; cases hm) (by rw [h0]; exact hst _ hm)
      have := run_esc s lo q m h92 hst l (k + 1) (by omega) e2 n2 (fun i hi => by
        have := hb (i + 1) (by simp; omega)
        rw [show k + 1 + i = k + (i + 1) by omega, this]
        simp)
      rwa [show k + ([c] ++ es m l).length = k + 1 + (es m l).length by simp; omega]

theorem bt_mid (s : ByteArray) (P X R : List UInt8) (h : s.data.toList = P ++ (X ++ R)) (i : Nat) (hi : i < X.length) : bt s (P.length + i) = ((X.getD i 0).toNat : Int) := by
  unfold bt
  rw [h, List.getD_eq_getElem?_getD, List.getElem?_append_right (by omega), List.getElem?_append_left (by omega), ← List.getD_eq_getElem?_getD, Nat.add_sub_cancel_left]

theorem stop_q (c : Int) (h : mq c = false) : stopB true c = false := by
  unfold mq at h
  simp only [Bool.or_eq_false_iff] at h
  exact h.1
theorem stop_b (c : Int) (h : mb c = false) : stopB false c = false := by
  unfold mb at h
  simp only [Bool.or_eq_false_iff] at h
  exact h.2

theorem read_q (s : ByteArray) (P p R : List UInt8) (h : s.data.toList = P ++ ([39] ++ (es mq p ++ ([39] ++ R)))) :
    P.length < s.size ∧ bt s P.length = 39 ∧ EndIs s true (P.length + 1) (P.length + 1 + (es mq p).length + 1) := by
  have hsz : s.size = P.length + (1 + ((es mq p).length + (1 + R.length))) := by
    have := congrArg List.length h
    simp at this
    omega
  have h1 : s.data.toList = (P ++ [39]) ++ (es mq p ++ ([39] ++ R)) := by rw [h]; simp
  have h2 : s.data.toList = (P ++ [39] ++ es mq p) ++ ([39] ++ R) := by rw [h]; simp
  have b0 := bt_mid s P [39] _ h 0 (by simp)
  have b1 := bt_mid s (P ++ [39]) (es mq p) _ h1
  have b2 := bt_mid s (P ++ [39] ++ es mq p) [39] R h2 0 (by simp)
  rw [List.length_append, List.length_singleton] at b1
  rw [List.length_append, List.length_append, List.length_singleton] at b2
  obtain ⟨e, n⟩ := run_esc s (P.length + 1) true mq rfl stop_q p (P.length + 1) (Nat.le_refl _) (ev_lo _ _ _ (Nat.le_refl _)) (fun i h1 h2 => by omega) b1
  refine ⟨by omega, by simpa using b0, .inl ⟨P.length + 1 + (es mq p).length, by omega, by omega, ⟨?_, e⟩, n, rfl⟩⟩
  rw [Nat.add_zero] at b2
  rw [b2]; rfl

theorem read_b (s : ByteArray) (P p R : List UInt8) (h : s.data.toList = P ++ (es mb p ++ ([32] ++ R))) :
    P.length < s.size ∧ bt s P.length ≠ 39 ∧ EndIs s false P.length (P.length + (es mb p).length) := by
  have hsz : s.size = P.length + ((es mb p).length + (1 + R.length)) := by
    have := congrArg List.length h
    simp at this
    omega
  have h2 : s.data.toList = (P ++ es mb p) ++ ([32] ++ R) := by rw [h]; simp
  have b1 := bt_mid s P (es mb p) _ h
  have b2 := bt_mid s (P ++ es mb p) [32] R h2 0 (by simp)
  rw [List.length_append, Nat.add_zero] at b2
  obtain ⟨e, n⟩ := run_esc s P.length false mb rfl stop_b p P.length (Nat.le_refl _) (ev_lo _ _ _ (Nat.le_refl _)) (fun i h1 h2 => by omega) b1
  refine ⟨by omega, ?_, .inl ⟨P.length + (es mb p).length, by omega, by omega, ⟨by rw [b2]; rfl, e⟩, n, rfl⟩⟩
  cases p with
  | nil => rw [es_nil, List.length_nil, Nat.add_zero] at b2; rw [b2]; decide
  | cons c l =>
    have := b1 0 (by rw [es_cons]; split <;> simp)
    rw [Nat.add_zero] at this
    rw [this, es_cons]
    cases hm : mb (c.toNat : Int) with
    | true => simp
    | false =>
      intro hc
      have : (c.toNat : Int) = 39 := by simpa using hc
      rw [this] at hm
      cases hm

theorem end_q (w : World) (s : ByteArray) (st : Nat) (P p R : List UInt8) (hs : s.size ≤ 4194304) (hP : P.length = st) (h : s.data.toList = P ++ ([39] ++ (es mq p ++ ([39] ++ R)))) (r : Int) (hr : r = (st : Int) + (es mq p).length + 2) :
    Calls Try.prog 6 #[.string s, .int .i64 (st : Int)] w fun e w' => e = .returned (.int .i64 r) ∧ w' = w := by
  subst hP hr
  obtain ⟨h1, h2, h3⟩ := read_q s P p R h
  refine (zzEnd w s _ (EndIs s true (P.length + 1)) ((valueEnd_q w s P.length hs h1 h2).mono fun e w' ⟨⟨r, a, _, c⟩, d⟩ => ⟨⟨r, a, c⟩, d⟩)).mono ?_
  rintro e w' ⟨⟨r, rfl, hr⟩, hw⟩
  have := h3.unique hr
  refine ⟨?_, hw⟩
  rw [← this]
  congr 2
  omega

theorem end_b (w : World) (s : ByteArray) (st : Nat) (P p R : List UInt8) (hs : s.size ≤ 4194304) (hP : P.length = st) (h : s.data.toList = P ++ (es mb p ++ ([32] ++ R))) (r : Int) (hr : r = (st : Int) + (es mb p).length) :
    Calls Try.prog 6 #[.string s, .int .i64 (st : Int)] w fun e w' => e = .returned (.int .i64 r) ∧ w' = w := by
  subst hP hr
  obtain ⟨h1, h2, h3⟩ := read_b s P p R h
  refine (zzEnd w s _ (EndIs s false P.length) ((valueEnd_b w s P.length hs h1 h2).mono fun e w' ⟨⟨r, a, _, c⟩, d⟩ => ⟨⟨r, a, c⟩, d⟩)).mono ?_
  rintro e w' ⟨⟨r, rfl, hr⟩, hw⟩
  have := h3.unique hr
  refine ⟨?_, hw⟩
  rw [← this]
  congr 2
end Go.Proofs.Qxb6602749a
