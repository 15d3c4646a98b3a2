/- The appending itself: the code off the table, or the four-byte code. -/
import Derived.Test.Qxb6602675aSmall2
namespace Go.Proofs.Qxb6602675a
open Go.RowKit

/-- The code was appended. -/
def CodedT (w : World) (zs : List Int) (c : Int) (e : Ending) (w' : World) : Prop :=
  ∃ g cap, e = .returned (.tuple #[.slice (some ⟨g, 0, none⟩) (zs.length + (codeB c).length) cap, .bool true]) ∧ zs.length + (codeB c).length ≤ cap ∧ InU .u8 w' (some ⟨g, 0, none⟩) (zs ++ codeB c) ∧ Below w.heap.size w w'

set_option maxHeartbeats 1000000 in
set_option maxRecDepth 100000 in
theorem append_low (w : World) (B : Nat) (a : Option Addr) (zs : List Int) (r : Int) (g : Int) (hr : 128 ≤ r ∧ r < 65536) (hcell : w.cell? ⟨B, 23941 + r.toNat, none⟩ = some (.int .u32 g)) (hg : 0 < g ∧ g < 4294967296)
    (hz : InU .u8 w a zs) (ha : a = none ∨ ∃ b o, a = some ⟨b, o, none⟩) (hnil : a = none → zs = []) (hl : zs.length ≤ 1048576) :
    Calls Try.prog 18 #[.pointer (some ⟨B, 0, none⟩), .slice a zs.length zs.length, .int .i32 r] w (CodedT w zs g) := by
  have HCB := hid (codeBytes_any w a zs g hz ha hnil hl ⟨by omega, hg.2⟩)
  have hg0 : (g == 0) = false := beq_eq_false_iff_ne.2 (by omega)
  clear hz ha hnil
  go_enter Try.func18, Try.ntmps18
  go_wp2_with fail
  refine HCB.out.mono ?_
  rintro e w2 ⟨gb, cap, rfl, hcap, hin, hb⟩
  have HX := hid (And.intro hcap (And.intro hin hb))
  clear hcap hin hb
  go_wp2_with fail
  refine bodyPost_ret (v := .tuple #[.slice (some ⟨gb, 0, none⟩) (zs.length + (codeB g).length) cap, .bool true]) (by simp [results, Try.results18, go_sem]) rfl ⟨gb, cap, rfl, HX.out⟩

theorem append_none (w : World) (B : Nat) (a : Option Addr) (n c : Nat) (r : Int) (hr : 128 ≤ r ∧ r < 65536) (hcell : w.cell? ⟨B, 23941 + r.toNat, none⟩ = some (.int .u32 0)) :
    Calls Try.prog 18 #[.pointer (some ⟨B, 0, none⟩), .slice a n c, .int .i32 r] w fun e w' => e = .returned (.tuple #[.slice a n c, .bool false]) ∧ w' = w := by
  go_enter Try.func18, Try.ntmps18
  go_wp2_with fail
  exact bodyPost_ret (v := .tuple #[.slice a n c, .bool false]) (by simp [results, Try.results18, go_sem]) rfl ⟨rfl, rfl⟩

set_option maxHeartbeats 1000000 in
set_option maxRecDepth 100000 in
theorem append_high (w : World) (B : Nat) (a : Option Addr) (m : Option Nat) (zs : List Int) (r : Int) (g : Int) (hr : 65536 ≤ r ∧ r ≤ 1114111) (hcell : w.cell? ⟨B, 89477, none⟩ = some (.map m)) (hg : 0 < g ∧ g < 4294967296)
    (hlk : (Instr.lookup 30 (.map m) (.int .i32 r) false).run Try.prog w = .ok (.int .u32 g) w)
    (hz : InU .u8 w a zs) (ha : a = none ∨ ∃ b o, a = some ⟨b, o, none⟩) (hnil : a = none → zs = []) (hl : zs.length ≤ 1048576) :
    Calls Try.prog 18 #[.pointer (some ⟨B, 0, none⟩), .slice a zs.length zs.length, .int .i32 r] w (CodedT w zs g) := by
  have HCB := hid (codeBytes_any w a zs g hz ha hnil hl ⟨by omega, hg.2⟩)
  have hg0 : (g == 0) = false := beq_eq_false_iff_ne.2 (by omega)
  clear hz ha hnil
  go_enter Try.func18, Try.ntmps18
  go_wp2_with fail
  refine HCB.out.mono ?_
  rintro e w2 ⟨gb, cap, rfl, hcap, hin, hb⟩
  have HX := hid (And.intro hcap (And.intro hin hb))
  clear hcap hin hb
  go_wp2_with fail
  refine bodyPost_ret (v := .tuple #[.slice (some ⟨gb, 0, none⟩) (zs.length + (codeB g).length) cap, .bool true]) (by simp [results, Try.results18, go_sem]) rfl ⟨gb, cap, rfl, HX.out⟩

set_option maxHeartbeats 1000000 in
set_option maxRecDepth 100000 in
theorem append_four (w : World) (B : Nat) (a : Option Addr) (m : Option Nat) (zs : List Int) (r : Int) (hr : 65536 ≤ r ∧ r ≤ 1114111) (hcell : w.cell? ⟨B, 89477, none⟩ = some (.map m))
    (hlk : (Instr.lookup 30 (.map m) (.int .i32 r) false).run Try.prog w = .ok (.int .u32 0) w)
    (hz : InU .u8 w a zs) (ha : a = none ∨ ∃ b o, a = some ⟨b, o, none⟩) (hnil : a = none → zs = []) (hl : zs.length ≤ 1048576) :
    Calls Try.prog 18 #[.pointer (some ⟨B, 0, none⟩), .slice a zs.length zs.length, .int .i32 r] w (CodedT w zs (fourC (189000 + (r - 65536)))) := by
  have hb := fourC_bd (189000 + (r - 65536)) (by omega)
  have HCB := hid (codeBytes_any w a zs (fourC (189000 + (r - 65536))) hz ha hnil hl ⟨by omega, hb.2⟩)
  have HF := hid (four_any w (189000 + (r - 65536)) (by omega))
  have hg0 : (fourC (189000 + (r - 65536)) == 0) = false := beq_eq_false_iff_ne.2 (by omega)
  clear hz ha hnil hb
  generalize fourC (189000 + (r - 65536)) = F at *
  go_enter Try.func18, Try.ntmps18
  go_wp2_with fail
  refine HF.out.mono ?_
  rintro e w2 ⟨rfl, rfl⟩
  go_wp2_with fail
  refine HCB.out.mono ?_
  rintro e w3 ⟨gb, cap, rfl, hcap, hin, hb⟩
  have HX := hid (And.intro hcap (And.intro hin hb))
  clear hcap hin hb
  go_wp2_with fail
  refine bodyPost_ret (v := .tuple #[.slice (some ⟨gb, 0, none⟩) (zs.length + (codeB F).length) cap, .bool true]) (by simp [results, Try.results18, go_sem]) rfl ⟨gb, cap, rfl, HX.out⟩
end Go.Proofs.Qxb6602675a
