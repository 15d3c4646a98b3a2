/- The law 'valueEnd matches its model', walked. -/
import Derived.Test.Qxb6602749aEnd2
namespace Go.Proofs.Qxb6602749a
open Go.RowKit

theorem fit_yes (w : World) (s : ByteArray) (st : Int) (hs : s.size ≤ 1048576) :
    Calls Try.prog 5 #[.string s, .int .i64 st] w fun e w' => e = .returned (.bool true) ∧ w' = w := by
  go_enter Try.func5, Try.ntmps5
  go_wp2_with fail
  go_ret
  exact ⟨rfl, rfl⟩

theorem fit_no (w : World) (s : ByteArray) (st : Int) (hs : 1048576 < s.size) :
    Calls Try.prog 5 #[.string s, .int .i64 st] w fun e w' => e = .returned (.bool false) ∧ w' = w := by
  go_enter Try.func5, Try.ntmps5
  go_wp2_with fail
  go_ret
  exact ⟨rfl, rfl⟩

theorem match_walk (w : World) (s : ByteArray) (st : Int) :
    Calls Try.prog 3 #[.string s, .int .i64 st] w fun e w' => e = .returned (.bool true) ∧ w' = w := by
  by_cases hs : s.size ≤ 1048576
  · have HF := hid (fit_yes w s st hs)
    by_cases h0 : 0 ≤ st
    · obtain ⟨R, hu, hA, hB⟩ := both w s st (by omega) h0
      have HA := hid (zzEnd w s st R hA)
      have HB := hid hB
      have HU := hid hu
      clear hA hB hu
      go_enter Try.func3, Try.ntmps3
      go_wp2_with fail
      refine HF.out.mono ?_
      rintro e w' ⟨rfl, rfl⟩
      go_wp2_with fail
      refine HA.out.mono ?_
      rintro e w' ⟨⟨r, rfl, hr⟩, rfl⟩
      have HR := hid hr
      clear hr
      go_wp2_with fail
      refine HB.out.mono ?_
      rintro e w' ⟨⟨r', rfl, hr'⟩, rfl⟩
      obtain rfl := HU.out r r' HR.out hr'
      clear hr'
      go_wp2_with fail
      go_ret
      exact ⟨by simp, rfl⟩
    · go_enter Try.func3, Try.ntmps3
      go_wp2_with fail
      refine HF.out.mono ?_
      rintro e w' ⟨rfl, rfl⟩
      go_wp2_with fail
      go_ret
      exact ⟨rfl, rfl⟩
  · have HF := hid (fit_no w s st (by omega))
    go_enter Try.func3, Try.ntmps3
    go_wp2_with fail
    refine HF.out.mono ?_
    rintro e w' ⟨rfl, rfl⟩
    go_wp2_with fail
    go_ret
    exact ⟨rfl, rfl⟩
end Go.Proofs.Qxb6602749a
