/- The four small functions, walked. -/
import Derived.Test.Qxb6602675aSmall
import Derived.Laws.BitsLemmas
namespace Go.Proofs.Qxb6602675a
open Go.RowKit

theorem news_of (w : World) (C : Array Value) (ls : List Int) (h : C = (ls.map (Value.int .u8)).toArray) : ∀ j v, (ls.map (Value.int .u8))[j]? = some v → (w.alloc (.cells C 5)).cell? ((⟨w.heap.size, 0, none⟩ : Addr).add j) = some v := by
  subst h
  intro j v hj
  rw [Addr.add_lit]
  have hb : (w.alloc (.cells (ls.map (Value.int .u8)).toArray 5)).heap[w.heap.size]? = some (.cells (ls.map (Value.int .u8)).toArray 5) := heap_alloc_new w _
  unfold World.cell?
  rw [hb]
  show ((ls.map (Value.int .u8)).toArray)[0 + j]? = _
  rw [Nat.zero_add]
  simpa using hj

/-- What an appended code leaves. -/
def Coded (w : World) (zs : List Int) (c : Int) (e : Ending) (w' : World) : Prop :=
  ∃ g cap, e = .returned (.slice (some ⟨g, 0, none⟩) (zs.length + (codeB c).length) cap) ∧ zs.length + (codeB c).length ≤ cap ∧ InU .u8 w' (some ⟨g, 0, none⟩) (zs ++ codeB c) ∧ Below w.heap.size w w'

set_option maxHeartbeats 400000 in
theorem codeBytes_any (w : World) (a : Option Addr) (zs : List Int) (c : Int) (hz : InU .u8 w a zs) (ha : a = none ∨ ∃ b o, a = some ⟨b, o, none⟩) (hnil : a = none → zs = []) (hl : zs.length ≤ 1048576) (hc : 0 ≤ c ∧ c < 4294967296) :
    Calls Try.prog 20 #[.slice a zs.length zs.length, .int .u32 c] w (Coded w zs c) := by
  by_cases h16 : c < 65536
  · have hB : codeB c = [c / 256, c % 256] := if_pos h16
    have HB := hid hB
    clear hB
    obtain ⟨cap, w2, hrun, hcap, hin2, hb2⟩ := app_run (w.alloc (.cells #[.int .u8 (c / 256), .int .u8 (c % 256)] 5)) a 31 zs [c / 256, c % 256] (hz.below ((Below.refl _ _).alloc (Nat.le_refl _) _)) ha ⟨w.heap.size, 0, none⟩ 2 (news_of w _ _ rfl) (by simp) (by simp; omega) hnil
    have HRUN := hid hrun
    have HIN2 := hid hin2
    have HCAP := hid hcap
    have HB2 := hid hb2
    clear hrun hin2 hcap hb2 hz ha hnil
    go_enter Try.func20, Try.ntmps20
    go_wp2_with (at_builtin; refine Lib.wpList_append_run_sl _ rfl _ _ 31 rfl _ _ rfl rfl HRUN.out ?_)
    go_ret
    refine ⟨w.heap.size + 1, cap, ?_, ?_, ?_, ((Below.refl _ _).alloc (Nat.le_refl _) _).trans (HB2.out.mono (by simp))⟩
    · rw [HB.out]; rfl
    · rw [HB.out]; exact HCAP.out
    · rw [HB.out]; have := HIN2.out; rwa [World.size_alloc] at this
  · have hB : codeB c = [c / 16777216, c / 65536 % 256, c / 256 % 256, c % 256] := if_neg h16
    have HB := hid hB
    clear hB
    obtain ⟨cap, w2, hrun, hcap, hin2, hb2⟩ := app_run (w.alloc (.cells #[.int .u8 (c / 16777216), .int .u8 (c / 65536 % 256), .int .u8 (c / 256 % 256), .int .u8 (c % 256)] 5)) a 31 zs [c / 16777216, c / 65536 % 256, c / 256 % 256, c % 256] (hz.below ((Below.refl _ _).alloc (Nat.le_refl _) _)) ha ⟨w.heap.size, 0, none⟩ 4 (news_of w _ _ rfl) (by simp) (by simp; omega) hnil
    have HRUN := hid hrun
    have HIN2 := hid hin2
    have HCAP := hid hcap
    have HB2 := hid hb2
    clear hrun hin2 hcap hb2 hz ha hnil
    go_enter Try.func20, Try.ntmps20
    go_wp2_with (at_builtin; refine Lib.wpList_append_run_sl _ rfl _ _ 31 rfl _ _ rfl rfl HRUN.out ?_)
    go_ret
    refine ⟨w.heap.size + 1, cap, ?_, ?_, ?_, ((Below.refl _ _).alloc (Nat.le_refl _) _).trans (HB2.out.mono (by simp))⟩
    · rw [HB.out]; rfl
    · rw [HB.out]; exact HCAP.out
    · rw [HB.out]; have := HIN2.out; rwa [World.size_alloc] at this

/-- The four-byte code of a pointer. -/
def fourC (p : Int) : Int := (129 + p / 12600) * 16777216 + (48 + p / 1260 % 10) * 65536 + (129 + p / 10 % 126) * 256 + (48 + p % 10)

theorem wr32 (n : Int) (h₀ : 0 ≤ n) (h₁ : n < 2 ^ 32) : IntKind.u32.wrap n = n := by
  simp [IntKind.wrap, IntKind.bits, IntKind.signed]
  omega
theorem join2 (a b : Int) (ha : 0 ≤ a ∧ a < 256) (hb : 0 ≤ b ∧ b < 256) : bits .or .u32 (a * 256) b = a * 256 + b :=
  bits_join .u32 32 (by decide) wr32 8 (a * 256) b (by omega) (by omega) (by omega) hb.1 (by omega) (by omega)
theorem join4 (a b c d : Int) (ha : 0 ≤ a ∧ a < 256) (hb : 0 ≤ b ∧ b < 256) (hc : 0 ≤ c ∧ c < 256) (hd : 0 ≤ d ∧ d < 256) :
    bits .or .u32 (bits .or .u32 (bits .or .u32 (a * 16777216) (b * 65536)) (c * 256)) d = a * 16777216 + b * 65536 + c * 256 + d := by
  rw [bits_join .u32 32 (by decide) wr32 24 (a * 16777216) (b * 65536) (by omega) (by omega) (by omega) (by omega) (by omega) (by omega),
    bits_join .u32 32 (by decide) wr32 16 (a * 16777216 + b * 65536) (c * 256) (by omega) (by omega) (by omega) (by omega) (by omega) (by omega),
    bits_join .u32 32 (by decide) wr32 8 (a * 16777216 + b * 65536 + c * 256) d (by omega) (by omega) (by omega) (by omega) (by omega) (by omega)]

theorem four_any (w : World) (p : Int) (hp : 0 ≤ p ∧ p ≤ 1237575) :
    Calls Try.prog 19 #[.int .i64 p] w fun e w' => e = .returned (.int .u32 (fourC p)) ∧ w' = w := by
  have hj := hid (join4 (129 + p / 12600) (48 + p / 1260 % 10) (129 + p / 10 % 126) (48 + p % 10) (by omega) (by omega) (by omega) (by omega))
  go_enter Try.func19, Try.ntmps19
  go_wp2_with fail
  go_ret
  exact ⟨congrArg (fun x => Ending.returned (.int .u32 x)) hj.out, rfl⟩

theorem fourC_bd (p : Int) (hp : 0 ≤ p ∧ p ≤ 1237575) : 16777216 ≤ fourC p ∧ fourC p < 4294967296 := by
  unfold fourC
  omega

theorem fourC_bytes (p : Int) (hp : 0 ≤ p ∧ p ≤ 1237575) : codeB (fourC p) = [129 + p / 12600, 48 + p / 1260 % 10, 129 + p / 10 % 126, 48 + p % 10] := by
  have h1 : 0 ≤ 129 + p / 12600 ∧ 129 + p / 12600 < 256 := by omega
  have h2 : 0 ≤ 48 + p / 1260 % 10 ∧ 48 + p / 1260 % 10 < 256 := by omega
  have h3 : 0 ≤ 129 + p / 10 % 126 ∧ 129 + p / 10 % 126 < 256 := by omega
  have h4 : 0 ≤ 48 + p % 10 ∧ 48 + p % 10 < 256 := by omega
  have hb := fourC_bd p hp
  unfold codeB
  rw [if_neg (by omega)]
  unfold fourC
  generalize 129 + p / 12600 = a at *
  generalize 48 + p / 1260 % 10 = b at *
  generalize 129 + p / 10 % 126 = c at *
  generalize 48 + p % 10 = d at *
  simp only [List.cons.injEq, and_true]
  omega

theorem written2 (w : World) (b o cap : Nat) (c x y : Int) (hx : c / 256 = x) (hy : c % 256 = y) (h0 : w.cell? ⟨b, o, none⟩ = some (.int .u8 x)) (h1 : w.cell? ⟨b, o + 1, none⟩ = some (.int .u8 y)) (hc : 0 ≤ c ∧ c < 65536) :
    Calls Try.prog 15 #[.slice (some ⟨b, o, none⟩) 2 cap, .int .u32 c] w fun e w' => e = .returned (.bool true) ∧ ∃ q, w' = w.drewN q := by
  have hj := join2 x y (by omega) (by omega)
  rw [show x * 256 + y = c by omega] at hj
  have v1 := wr32 x (by omega) (by omega)
  have v2 := wr32 (x * 256) (by omega) (by omega)
  have v3 := wr32 y (by omega) (by omega)
  clear hx hy
  go_enter Try.func15, Try.ntmps15
  go_wp2_with fail
  go_quiet (fail)
  go_wp2_with fail
  go_ret
  exact ⟨rfl, _, rfl⟩

theorem written4 (w : World) (b o cap : Nat) (c x y z t : Int) (hx : c / 16777216 = x) (hy : c / 65536 % 256 = y) (hz : c / 256 % 256 = z) (ht : c % 256 = t) (h0 : w.cell? ⟨b, o, none⟩ = some (.int .u8 x)) (h1 : w.cell? ⟨b, o + 1, none⟩ = some (.int .u8 y)) (h2 : w.cell? ⟨b, o + 2, none⟩ = some (.int .u8 z)) (h3 : w.cell? ⟨b, o + 3, none⟩ = some (.int .u8 t)) (hc : 65536 ≤ c ∧ c < 4294967296) :
    Calls Try.prog 15 #[.slice (some ⟨b, o, none⟩) 4 cap, .int .u32 c] w fun e w' => e = .returned (.bool true) ∧ ∃ q, w' = w.drewN q := by
  have hj := join4 x y z t (by omega) (by omega) (by omega) (by omega)
  rw [show x * 16777216 + y * 65536 + z * 256 + t = c by omega] at hj
  have v1 := wr32 x (by omega) (by omega)
  have v2 := wr32 (x * 16777216) (by omega) (by omega)
  have v3 := wr32 y (by omega) (by omega)
  have v4 := wr32 (y * 65536) (by omega) (by omega)
  have v5 := wr32 z (by omega) (by omega)
  have v6 := wr32 (z * 256) (by omega) (by omega)
  have v7 := wr32 t (by omega) (by omega)
  clear hx hy hz ht
  go_enter Try.func15, Try.ntmps15
  go_wp2_with fail
  go_quiet (fail)
  go_wp2_with fail
  go_ret
  exact ⟨rfl, _, rfl⟩

theorem isFour_yes (w : World) (b o cap : Nat) (p x y z t : Int) (hx : 129 + p / 12600 = x) (hy : 48 + p / 1260 % 10 = y) (hz : 129 + p / 10 % 126 = z) (ht : 48 + p % 10 = t) (h0 : w.cell? ⟨b, o, none⟩ = some (.int .u8 x)) (h1 : w.cell? ⟨b, o + 1, none⟩ = some (.int .u8 y)) (h2 : w.cell? ⟨b, o + 2, none⟩ = some (.int .u8 z)) (h3 : w.cell? ⟨b, o + 3, none⟩ = some (.int .u8 t)) (hp : 0 ≤ p ∧ p ≤ 1237575) :
    Calls Try.prog 16 #[.slice (some ⟨b, o, none⟩) 4 cap, .int .i64 p] w fun e w' => e = .returned (.bool true) ∧ ∃ q, w' = w.drewN q := by
  have bx : 129 ≤ x ∧ x ≤ 227 := by omega
  have by' : 48 ≤ y ∧ y ≤ 57 := by omega
  have bz : 129 ≤ z ∧ z ≤ 254 := by omega
  have bt : 48 ≤ t ∧ t ≤ 57 := by omega
  have HE : Hid ((((x - 129) * 10 + (y - 48)) * 126 + (z - 129)) * 10 + (t - 48) = p) := by simp only [Hid]; omega
  clear hx hy hz ht
  go_enter Try.func16, Try.ntmps16
  go_wp2_with fail
  go_ret
  exact ⟨congrArg (fun r => Ending.returned (.bool r)) (beq_iff_eq.2 HE.out), 0, rfl⟩
end Go.Proofs.Qxb6602675a
