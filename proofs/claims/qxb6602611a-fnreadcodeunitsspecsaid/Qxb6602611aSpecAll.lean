/- The first law, whatever the bytes. -/
import Derived.Test.Qxb6602611aPlain
namespace Go.Proofs.Qxb6602611a
open Go.RowKit

theorem byte_inj {z : Int} (h : 0 ≤ z ∧ z < 256) {n : Nat} (hn : n < 256) (e : UInt8.ofNat n = UInt8.ofNat z.toNat) : z = n := by
  have := byte_eq h hn
  rw [e] at this
  simpa using this

set_option maxRecDepth 100000 in
theorem spec_long (w : World) (a : Option Addr) (cap N : Nat) (hm : N ≤ maxLen) (hl : ¬ N ≤ 1048576) :
    Calls Try.prog 3 #[.slice a N cap] w fun e w' => e = .returned (.bool true) ∧ Below w.heap.size w w' := by
  have H5 := hid (bytes5_any w a N cap hm)
  go_enter Try.func3, Try.ntmps3
  go_wp2_with fail
  refine H5.out.mono ?_
  rintro e w1 ⟨rfl, h5⟩
  obtain rfl : e = .returned (.bool false) := by
    rcases h5 with h | h
    · omega
    · exact h.2
  go_wp2_with fail
  go_ret
  exact ⟨rfl, Below.refl _ _⟩

theorem pre2 {zs : List Int} (hz : ∀ z ∈ zs, 0 ≤ z ∧ z < 256) (x y : Nat) (hx : x < 256) (hy : y < 256) (h : ¬ (2 ≤ zs.length ∧ zs.getD 0 0 = x ∧ zs.getD 1 0 = y)) : Lib.hasPrefix (Lib.bytesOf zs) (Lib.bytesOf [(x : Int), (y : Int)]) = false := by
  match zs, hz, h with
  | [], _, _ => rfl
  | [a], _, _ => simp [Lib.hasPrefix, Lib.bytesOf, List.isPrefixOf]
  | a :: b :: r, hz, h =>
    simp [Lib.hasPrefix, Lib.bytesOf, List.isPrefixOf]
    simp at h
    intro e f
    exact h (byte_inj (hz a (by simp)) hx e) (byte_inj (hz b (by simp)) hy f)

theorem pre3 {zs : List Int} (hz : ∀ z ∈ zs, 0 ≤ z ∧ z < 256) (x y t : Nat) (hx : x < 256) (hy : y < 256) (ht : t < 256) (h : ¬ (3 ≤ zs.length ∧ zs.getD 0 0 = x ∧ zs.getD 1 0 = y ∧ zs.getD 2 0 = t)) : Lib.hasPrefix (Lib.bytesOf zs) (Lib.bytesOf [(x : Int), (y : Int), (t : Int)]) = false := by
  match zs, hz, h with
  | [], _, _ => rfl
  | [a], _, _ => simp [Lib.hasPrefix, Lib.bytesOf, List.isPrefixOf]
  | [a, b], _, _ => simp [Lib.hasPrefix, Lib.bytesOf, List.isPrefixOf]
  | a :: b :: c :: r, hz, h =>
    simp [Lib.hasPrefix, Lib.bytesOf, List.isPrefixOf]
    simp at h
    intro e f g
    exact h (byte_inj (hz a (by simp)) hx e) (byte_inj (hz b (by simp)) hy f) (byte_inj (hz c (by simp)) ht g)

theorem two_heads {zs : List Int} {x y : Int} (h : 2 ≤ zs.length ∧ zs.getD 0 0 = x ∧ zs.getD 1 0 = y) : ∃ rest, zs = x :: y :: rest := by
  match zs, h with
  | a :: b :: r, h => exact ⟨r, by simp at h; rw [h.1, h.2]⟩
theorem three_heads {zs : List Int} {x y t : Int} (h : 3 ≤ zs.length ∧ zs.getD 0 0 = x ∧ zs.getD 1 0 = y ∧ zs.getD 2 0 = t) : ∃ rest, zs = x :: y :: t :: rest := by
  match zs, h with
  | a :: b :: c :: r, h => exact ⟨r, by simp at h; rw [h.1, h.2.1, h.2.2]⟩

theorem spec_walk (w : World) (a : Option Addr) (cap : Nat) (zs : List Int) (hr : InU .u8 w a zs) (hz : ∀ z ∈ zs, 0 ≤ z ∧ z < 256) (hm : zs.length ≤ maxLen) :
    Calls Try.prog 3 #[.slice a zs.length cap] w fun e w' => e = .returned (.bool true) ∧ Below w.heap.size w w' := by
  by_cases hl' : ¬ zs.length ≤ 1048576
  · exact spec_long w a cap _ hm hl'
  have hl : zs.length ≤ 1048576 := by omega
  by_cases hA : 2 ≤ zs.length ∧ zs.getD 0 0 = 255 ∧ zs.getD 1 0 = 254
  · obtain ⟨rest, h⟩ := two_heads hA
    exact spec_le w a cap _ zs rest h rfl hr hz hl
  by_cases hB : 2 ≤ zs.length ∧ zs.getD 0 0 = 254 ∧ zs.getD 1 0 = 255
  · obtain ⟨rest, h⟩ := two_heads hB
    exact spec_be w a cap _ zs rest h rfl hr hz hl
  by_cases hC : 3 ≤ zs.length ∧ zs.getD 0 0 = 239 ∧ zs.getD 1 0 = 187 ∧ zs.getD 2 0 = 191
  · obtain ⟨rest, h⟩ := three_heads hC
    exact spec_bom w a cap _ zs rest h rfl hr hl
  have pA := pre2 hz 255 254 (by omega) (by omega) hA
  have pB := pre2 hz 254 255 (by omega) (by omega) hB
  have pC := pre3 hz 239 187 191 (by omega) (by omega) (by omega) hC
  by_cases h2 : zs.length < 2
  · exact spec_p0 w a cap _ zs pA pB pC rfl hr hl h2
  by_cases h3 : zs.length < 3
  · by_cases e0 : zs.getD 0 0 = 255
    · exact spec_p2A w a cap _ zs pA pB pC e0 (fun e => hA ⟨by omega, e0, e⟩) rfl hr hl (by omega) h3
    by_cases e1 : zs.getD 0 0 = 254
    · exact spec_p2B w a cap _ zs pA pB pC e1 (fun e => hB ⟨by omega, e1, e⟩) rfl hr hl (by omega) h3
    by_cases e2 : zs.getD 0 0 = 239
    · exact spec_p2D w a cap _ zs pA pB pC e2 rfl hr hl (by omega) h3
    exact spec_p2C w a cap _ zs pA pB pC e0 e1 e2 rfl hr hl (by omega) h3
  · by_cases e0 : zs.getD 0 0 = 255
    · exact spec_p3A w a cap _ zs pA pB pC e0 (fun e => hA ⟨by omega, e0, e⟩) rfl hr hl (by omega)
    by_cases e1 : zs.getD 0 0 = 254
    · exact spec_p3B w a cap _ zs pA pB pC e1 (fun e => hB ⟨by omega, e1, e⟩) rfl hr hl (by omega)
    by_cases e2 : zs.getD 0 0 = 239
    · by_cases e3 : zs.getD 1 0 = 187
      · exact spec_p3F w a cap _ zs pA pB pC e2 e3 (fun e => hC ⟨by omega, e2, e3, e⟩) rfl hr hl (by omega)
      · exact spec_p3E w a cap _ zs pA pB pC e2 e3 rfl hr hl (by omega)
    exact spec_p3C w a cap _ zs pA pB pC e0 e1 e2 rfl hr hl (by omega)
end Go.Proofs.Qxb6602611a
