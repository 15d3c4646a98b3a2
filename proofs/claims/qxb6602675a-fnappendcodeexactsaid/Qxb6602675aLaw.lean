/- The law, walked. -/
import Derived.Test.Qxb6602675aZz
namespace Go.Proofs.Qxb6602675a
open Go.RowKit

/-- What is known of the inputs. -/
structure Inp (w : World) (C : Array Value) (a : Option Addr) (zs : List Int) (m : Option Nat) (r : Int) (L : Nat) (gm : Int) : Prop where
  size : C.size = 65536
  code : ∀ i, i < 65536 → ∃ g, C[i]? = some (.int .u32 g) ∧ 0 ≤ g ∧ g < 4294967296
  dst : InU .u8 w a zs
  max : zs.length ≤ maxLen
  len : ∀ W, Below w.heap.size w W → (Builtin.len_ #[30] 3 #[.map m]).run Try.prog W = .ok (.int .i64 (L : Int)) W
  look : ∀ W, Below w.heap.size w W → (Instr.lookup 30 (.map m) (.int .i32 r) false).run Try.prog W = .ok (.int .u32 gm) W
  gm0 : 0 ≤ gm ∧ gm < 4294967296

theorem alloc_below (w : World) (o : Obj) : Below w.heap.size w (w.alloc o) := (Below.refl _ _).alloc (Nat.le_refl _) _

set_option maxHeartbeats 1000000 in
theorem law_bad (w : World) (C : Array Value) (a : Option Addr) (zs : List Int) (c : Nat) (m : Option Nat) (r : Int) (L : Nat) (gm : Int) (N : Nat) (hN : zs.length = N) (h : Inp w C a zs m r L gm)
    (hbad : ¬ ((N : Int) ≤ 1048576 ∧ (L : Int) ≤ 131072 ∧ (N : Int) + 8 * L ≤ 1048576 ∧ 128 ≤ r ∧ r ≤ 1114111)) :
    Calls Try.prog 5 #[.agg C, .map m, .slice a N c, .int .i32 r] w fun e w' => e = .returned (.bool true) ∧ Below w.heap.size w w' := by
  have hlen := h.len _ (alloc_below w (.cells C 29))
  have hmx := h.max
  unfold maxLen at hmx
  rw [hN] at hmx
  have HB := hid hbad
  clear h hN hbad
  go_enter Try.func5, Try.ntmps5
  go_wp2_with fail
  all_goals first
    | (go_ret; exact ⟨rfl, alloc_below w _⟩)
    | skip
  exact absurd (by refine ⟨?_, ?_, ?_, ?_, ?_⟩ <;> omega) HB.out

/-- Nil stays nil; else a full copy. -/
theorem clone_uni (w : World) (a : Option Addr) (cap N : Nat) (zs : List Int) (hN : zs.length = N) (hr : InU .u8 w a zs) (hl : N ≤ 1048576) :
    Calls Try.prog 13 #[.slice a N cap] w fun e w' => ∃ da, e = .returned (.slice da N N) ∧ (da = none ∨ ∃ b o, da = some ⟨b, o, none⟩) ∧ (da = none → zs = []) ∧ InU .u8 w' da zs ∧ Below w.heap.size w w' := by
  subst hN
  refine (clone_any w a cap zs hr hl).mono ?_
  rintro e w' (⟨ha, rfl, rfl⟩ | ⟨_, rfl, hrow, hb⟩)
  · subst ha
    rcases hr with rfl | ⟨b, o, e, _⟩
    · exact ⟨none, rfl, .inl rfl, fun _ => rfl, .inl rfl, Below.refl _ _⟩
    · cases e
  · refine ⟨_, rfl, .inr ⟨_, _, rfl⟩, (by simp), ?_, hb⟩
    rcases Nat.eq_zero_or_pos zs.length with h0 | h0
    · exact .inl (List.eq_nil_of_length_eq_zero h0)
    · refine .inr ⟨_, _, rfl, fun i hi => ?_⟩
      rw [Nat.zero_add, hrow.cell hi]
      simp [List.getD, hi]

theorem coded_of {w W : World} {zs : List Int} {c : Int} {e : Ending} {w' : World} (hb : Below w.heap.size w W) (h : CodedT W zs c e w') : ∃ ra rn rc ok, e = .returned (.tuple #[.slice ra rn rc, .bool ok]) ∧ CodedT w zs c e w' := by
  obtain ⟨g, cap, he, h1, h2, h3⟩ := h
  exact ⟨_, _, _, _, he, g, cap, he, h1, h2, hb.trans (h3.mono hb.size)⟩

theorem zz_low (w : World) (C : Array Value) (a : Option Addr) (m : Option Nat) (zs : List Int) (r g : Int) (hC : C.size = 65536) (hz : InU .u8 w a zs) (ha : a = none ∨ ∃ b o, a = some ⟨b, o, none⟩) (hnil : a = none → zs = []) (hl : zs.length ≤ 1048576) (hr : 128 ≤ r ∧ r < 65536) (hc : C[r.toNat]? = some (.int .u32 g)) (hg : 0 < g ∧ g < 4294967296) :
    Calls Try.prog 14 #[.agg C, .map m, .slice a zs.length zs.length, .int .i32 r] w (CodedT w zs g) :=
  zz_of w C hC a _ _ m r _ fun W B hb hcell _ => (append_low W B a zs r g hr ((hcell r.toNat (by omega)).trans hc) hg (hz.below hb) ha hnil hl).mono fun _ _ h => coded_of hb h

theorem zz_high (w : World) (C : Array Value) (a : Option Addr) (m : Option Nat) (zs : List Int) (r g : Int) (hC : C.size = 65536) (hz : InU .u8 w a zs) (ha : a = none ∨ ∃ b o, a = some ⟨b, o, none⟩) (hnil : a = none → zs = []) (hl : zs.length ≤ 1048576) (hr : 65536 ≤ r ∧ r ≤ 1114111) (hlk : ∀ W, Below w.heap.size w W → (Instr.lookup 30 (.map m) (.int .i32 r) false).run Try.prog W = .ok (.int .u32 g) W) (hg : 0 < g ∧ g < 4294967296) :
    Calls Try.prog 14 #[.agg C, .map m, .slice a zs.length zs.length, .int .i32 r] w (CodedT w zs g) :=
  zz_of w C hC a _ _ m r _ fun W B hb _ hmap => (append_high W B a m zs r g hr hmap hg (hlk W hb) (hz.below hb) ha hnil hl).mono fun _ _ h => coded_of hb h

theorem zz_four (w : World) (C : Array Value) (a : Option Addr) (m : Option Nat) (zs : List Int) (r : Int) (hC : C.size = 65536) (hz : InU .u8 w a zs) (ha : a = none ∨ ∃ b o, a = some ⟨b, o, none⟩) (hnil : a = none → zs = []) (hl : zs.length ≤ 1048576) (hr : 65536 ≤ r ∧ r ≤ 1114111) (hlk : ∀ W, Below w.heap.size w W → (Instr.lookup 30 (.map m) (.int .i32 r) false).run Try.prog W = .ok (.int .u32 0) W) :
    Calls Try.prog 14 #[.agg C, .map m, .slice a zs.length zs.length, .int .i32 r] w (CodedT w zs (fourC (189000 + (r - 65536)))) :=
  zz_of w C hC a _ _ m r _ fun W B hb _ hmap => (append_four W B a m zs r hr hmap (hlk W hb) (hz.below hb) ha hnil hl).mono fun _ _ h => coded_of hb h

theorem zz_none (w : World) (C : Array Value) (hC : C.size = 65536) (a : Option Addr) (n c : Nat) (m : Option Nat) (r : Int) (hr : 128 ≤ r ∧ r < 65536) (hc : C[r.toNat]? = some (.int .u32 0)) :
    Calls Try.prog 14 #[.agg C, .map m, .slice a n c, .int .i32 r] w fun e w' => e = .returned (.tuple #[.slice a n c, .bool false]) ∧ Below w.heap.size w w' :=
  zz_of w C hC a _ _ m r _ fun W B hb hcell _ => (append_none W B a n c r hr ((hcell r.toNat (by omega)).trans hc)).mono fun e w' ⟨he, hw⟩ => ⟨_, _, _, _, he, he, by rw [hw]; exact hb⟩
end Go.Proofs.Qxb6602675a
