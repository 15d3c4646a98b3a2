/- The law 'valueEnd reads back what was written', walked. -/
import Derived.Test.Qxb6602749aEscQ
import Derived.Test.Qxb6602749aEscB
import Derived.Test.Qxb6602749aBack
namespace Go.Proofs.Qxb6602749a
open Go.RowKit

theorem app_list (a b : ByteArray) : (a ++ b).data.toList = a.data.toList ++ b.data.toList := by simp

theorem room_yes (w : World) (a p b : ByteArray) (q : Bool) (ha : (a.size : Int) ≤ 262144) (hp : (p.size : Int) ≤ 262144) (hb : (b.size : Int) ≤ 262144) :
    Calls Try.prog 8 #[.string a, .string p, .string b, .bool q] w fun e w' => e = .returned (.bool true) ∧ w' = w := by
  go_enter Try.func8, Try.ntmps8
  go_wp2_with fail
  go_ret
  exact ⟨rfl, rfl⟩

theorem room_any (w : World) (a p b : ByteArray) (q : Bool) (ha : a.size ≤ maxLen) (hp : p.size ≤ maxLen) (hb : b.size ≤ maxLen) :
    Calls Try.prog 8 #[.string a, .string p, .string b, .bool q] w fun e w' => (∃ x, e = .returned (.bool x)) ∧ w' = w := by
  unfold maxLen at ha hp hb
  go_enter Try.func8, Try.ntmps8
  go_wp2_with fail
  all_goals (go_ret; exact ⟨⟨_, rfl⟩, rfl⟩)

theorem read_big (w : World) (a p b : ByteArray) (q : Bool) (ha : a.size ≤ maxLen) (hp : p.size ≤ maxLen) (hb : b.size ≤ maxLen) (h : ¬ ((a.size : Int) ≤ 262144 ∧ (p.size : Int) ≤ 262144 ∧ (b.size : Int) ≤ 262144)) :
    Calls Try.prog 4 #[.string a, .string p, .string b, .bool q] w fun e w' => e = .returned (.bool true) ∧ Below w.heap.size w w' := by
  have HR := hid (room_any w a p b q ha hp hb)
  have H := hid h
  clear h
  unfold maxLen at ha hp hb
  go_enter Try.func4, Try.ntmps4
  go_wp2_with fail
  refine HR.out.mono ?_
  rintro e w' ⟨⟨x, rfl⟩, hw⟩
  replace hw := hw.symm
  subst hw
  cases x
  · go_wp2_with fail
    go_ret
    exact ⟨rfl, Below.refl _ _⟩
  · go_wp2_with fail
    all_goals first
      | (go_ret; exact ⟨rfl, Below.refl _ _⟩)
      | skip
    exact absurd (by refine ⟨?_, ?_, ?_⟩ <;> omega) H.out

set_option maxHeartbeats 1000000 in
theorem read_bare (w : World) (a p b : ByteArray) (ha : (a.size : Int) ≤ 262144) (hp : (p.size : Int) ≤ 262144) (hb : (b.size : Int) ≤ 262144) :
    Calls Try.prog 4 #[.string a, .string p, .string b, .bool false] w fun e w' => e = .returned (.bool true) ∧ Below w.heap.size w w' := by
  have HR := hid (room_yes w a p b false ha hp hb)
  have HE := hid (escB w p (by omega))
  obtain ⟨X, hX⟩ : ∃ X : ByteArray, X = ⟨(es mb p.data.toList).toArray⟩ := ⟨_, rfl⟩
  rw [← hX] at HE
  have hXl : X.data.toList = es mb p.data.toList := by rw [hX]
  have hXs : (X.size : Int) ≤ 524288 := by
    have h1 := es_len mb p.data.toList
    have h2 : X.size = (es mb p.data.toList).length := by rw [← hXl]; simp
    simp at h1
    omega
  have HXL := hid hXl
  clear hXl hX
  go_enter Try.func4, Try.ntmps4
  go_wp2_with fail
  refine HR.out.mono ?_
  rintro e w' ⟨rfl, hw⟩
  replace hw := hw.symm
  subst hw
  go_wp2_with fail
  refine HE.out.mono ?_
  rintro e w1 ⟨rfl, hb1⟩
  have HB1 := hid hb1
  clear hb1
  go_wp2_with fail
  refine (end_b w1 _ a.size a.data.toList p.data.toList b.data.toList ?_ ?_ ?_ ((a.size : Int) + (X.size : Int)) ?_).mono ?_
  · simp only [ByteArray.size_append, ByteArray.size_mk']; simp; omega
  · simp
  · rw [app_list, app_list, app_list, HXL.out]; simp
  · rw [← HXL.out]; simp
  rintro e w2 ⟨rfl, hw⟩
  replace hw := hw.symm
  subst hw
  go_wp2_with fail
  go_ret
  exact ⟨by simp, HB1.out⟩

set_option maxHeartbeats 1000000 in
theorem read_quoted (w : World) (a p b : ByteArray) (ha : (a.size : Int) ≤ 262144) (hp : (p.size : Int) ≤ 262144) (hb : (b.size : Int) ≤ 262144) :
    Calls Try.prog 4 #[.string a, .string p, .string b, .bool true] w fun e w' => e = .returned (.bool true) ∧ Below w.heap.size w w' := by
  have HR := hid (room_yes w a p b true ha hp hb)
  have HE := hid (escB w p (by omega))
  have HQ := hid (fun w => escQ w p (by omega))
  obtain ⟨X, hX⟩ : ∃ X : ByteArray, X = ⟨(es mq p.data.toList).toArray⟩ := ⟨_, rfl⟩
  rw [← hX] at HQ
  obtain ⟨Y, hY⟩ : ∃ Y : ByteArray, Y = ⟨(es mb p.data.toList).toArray⟩ := ⟨_, rfl⟩
  rw [← hY] at HE
  have hXl : X.data.toList = es mq p.data.toList := by rw [hX]
  have hXs : (X.size : Int) ≤ 524288 := by
    have h1 := es_len mq p.data.toList
    have h2 : X.size = (es mq p.data.toList).length := by rw [← hXl]; simp
    simp at h1
    omega
  have HXL := hid hXl
  clear hXl hX hY
  go_enter Try.func4, Try.ntmps4
  go_wp2_with fail
  refine HR.out.mono ?_
  rintro e w' ⟨rfl, hw⟩
  replace hw := hw.symm
  subst hw
  go_wp2_with fail
  refine HE.out.mono ?_
  rintro e w1 ⟨rfl, hb1⟩
  have HB1 := hid hb1
  clear hb1
  go_wp2_with fail
  refine (HQ.out w1).mono ?_
  rintro e w2 ⟨rfl, hb2⟩
  have HB2 := hid (HB1.out.trans (hb2.mono HB1.out.size))
  clear hb2
  go_wp2_with fail
  refine (end_q w2 _ a.size a.data.toList p.data.toList b.data.toList ?_ ?_ ?_ ((a.size : Int) + (1 + (X.size : Int) + 1)) ?_).mono ?_
  · simp only [ByteArray.size_append, ByteArray.size_mk']; simp; omega
  · simp
  · simp only [app_list, HXL.out]; simp
  · rw [← HXL.out]; simp; omega
  rintro e w3 ⟨rfl, hw⟩
  replace hw := hw.symm
  subst hw
  go_wp2_with fail
  go_ret
  exact ⟨by simp, HB2.out⟩

theorem read_walk (w : World) (a p b : ByteArray) (q : Bool) (ha : a.size ≤ maxLen) (hp : p.size ≤ maxLen) (hb : b.size ≤ maxLen) :
    Calls Try.prog 4 #[.string a, .string p, .string b, .bool q] w fun e w' => e = .returned (.bool true) ∧ Below w.heap.size w w' := by
  by_cases h : (a.size : Int) ≤ 262144 ∧ (p.size : Int) ≤ 262144 ∧ (b.size : Int) ≤ 262144
  · cases q
    · exact read_bare w a p b h.1 h.2.1 h.2.2
    · exact read_quoted w a p b h.1 h.2.1 h.2.2
  · exact read_big w a p b q ha hp hb h
end Go.Proofs.Qxb6602749a
