import Derived.Test.Qxb6602566aHeap
namespace Go.Proofs.Qxb6602566a
open Go.RowKit

theorem wraps_u64' (n : Int) (h₀ : 0 ≤ n) (h₁ : n < 2 ^ 64) : IntKind.u64.wrap n = n := by
  simp [IntKind.wrap, IntKind.bits, IntKind.signed]
  omega

theorem or16 (m att : Int) (h0 : 0 ≤ m) (h1 : m < 17592186044416) (h2 : 0 ≤ att) (h3 : att < 65536) : bits .or .u64 (m * 65536) att = m * 65536 + att :=
  bits_join .u64 64 (by decide) wraps_u64' 16 (m * 65536) att (by omega) (by omega) (by omega) h2 (by omega) (by omega)

theorem or32 (h l : Int) (h0 : 0 ≤ h) (h1 : h < 4294967296) (h2 : 0 ≤ l) (h3 : l < 4294967296) : bits .or .u64 (h * 4294967296) l = h * 4294967296 + l :=
  bits_join .u64 64 (by decide) wraps_u64' 32 (h * 4294967296) l (by omega) (by omega) (by omega) h2 (by omega) (by omega)

theorem mask16 (x : Int) (h0 : 0 ≤ x) (h1 : x < 18446744073709551616) : bits .and .u64 x 65535 = x % 65536 :=
  bits_mask .u64 64 (by decide) wraps_u64' 16 (by decide) x h0 (by omega)

/-- A due time in whole milliseconds, rounded up; 0 where it is not past 0. -/
def dueMs (due : Int) : Int := if 0 < due then due / 1000000 + (if due % 1000000 = 0 then 0 else 1) else 0

theorem dueMs_bd (due : Int) (h : due ≤ 9223372036854775807) : 0 ≤ dueMs due ∧ dueMs due ≤ 9223372036855 := by
  unfold dueMs; split
  · split <;> omega
  · omega

/-- What an entry packs into. -/
def packOf (s o i att due : Int) : Pk := ⟨s, o, i, (dueMs due * 65536 + att) / 4294967296, (dueMs due * 65536 + att) % 4294967296⟩

theorem pack_any (w : World) (s o i att due : Int) (ha : 0 ≤ att ∧ att < 65536) (hd : -9223372036854775808 ≤ due ∧ due ≤ 9223372036854775807) :
    Calls Try.prog 35 #[.agg #[.int .u32 s, .int .u32 o, .int .u32 i, .int .u16 att, .int .i64 due]] w fun e w' => e = .returned (.agg #[.int .u32 s, .int .u32 o, .int .u32 i, .int .u32 (packOf s o i att due).d, .int .u32 (packOf s o i att due).e]) ∧ Below w.heap.size w w' := by
  have hm := dueMs_bd due hd.2
  have hor := or16 (dueMs due) att hm.1 (by omega) ha.1 ha.2
  have fin : ∀ W : Int, W = dueMs due * 65536 + att → (packOf s o i att due).d = W / 4294967296 ∧ (packOf s o i att due).e = W % 4294967296 ∧ W / 4294967296 % 4294967296 = W / 4294967296 := by
    rintro W rfl
    refine ⟨rfl, rfl, ?_⟩
    omega
  have FIN := hid fin
  have HE := hid (show ∃ W : Int, W = dueMs due * 65536 + att from ⟨_, rfl⟩)
  clear fin
  by_cases h1 : 0 < due
  · by_cases h2 : due % 1000000 = 0
    · have hms : dueMs due = due / 1000000 := by unfold dueMs; rw [if_pos h1, if_pos h2]; omega
      rw [hms] at hor
      obtain ⟨W, hW⟩ := HE.out
      rw [hms, ← hor] at hW
      obtain ⟨f1, f2, f3⟩ := FIN.out W (by rw [hW, hor, hms])
      have F1 := hid f1
      have F2 := hid f2
      have F3 := hid f3
      clear f1 f2 f3 hms hor
      have h2' : (due % 1000000 != 0) = false := by simp [h2]
      clear h2
      have hW' := hW.symm
      clear hW
      go_enter Try.func35, Try.ntmps35
      go_wp2
      refine bodyPost_ret (v := .agg #[.int .u32 s, .int .u32 o, .int .u32 i, .int .u32 (W / 4294967296 % 4294967296), .int .u32 (W % 4294967296)]) (by simp [results, Try.results35, go_sem]) rfl ⟨by rw [F3.out, ← F1.out, ← F2.out], ((Below.refl _ _).alloc (Nat.le_refl _) _).alloc (by simp) _⟩
    · have hms : dueMs due = due / 1000000 + 1 := by unfold dueMs; rw [if_pos h1, if_neg h2]
      rw [hms] at hor
      obtain ⟨W, hW⟩ := HE.out
      rw [hms, ← hor] at hW
      obtain ⟨f1, f2, f3⟩ := FIN.out W (by rw [hW, hor, hms])
      have F1 := hid f1
      have F2 := hid f2
      have F3 := hid f3
      clear f1 f2 f3 hms hor
      have h2' : (due % 1000000 != 0) = true := by simp [h2]
      clear h2
      have hW' := hW.symm
      clear hW
      go_enter Try.func35, Try.ntmps35
      go_wp2
      refine bodyPost_ret (v := .agg #[.int .u32 s, .int .u32 o, .int .u32 i, .int .u32 (W / 4294967296 % 4294967296), .int .u32 (W % 4294967296)]) (by simp [results, Try.results35, go_sem]) rfl ⟨by rw [F3.out, ← F1.out, ← F2.out], ((Below.refl _ _).alloc (Nat.le_refl _) _).alloc (by simp) _⟩
  · have hms : dueMs due = 0 := by unfold dueMs; rw [if_neg h1]
    rw [hms, Int.zero_mul] at hor
    obtain ⟨W, hW⟩ := HE.out
    rw [hms, Int.zero_mul, ← hor] at hW
    obtain ⟨f1, f2, f3⟩ := FIN.out W (by rw [hW, hor, hms, Int.zero_mul])
    have F1 := hid f1
    have F2 := hid f2
    have F3 := hid f3
    clear f1 f2 f3 hms hor
    have hW' := hW.symm
    clear hW
    go_enter Try.func35, Try.ntmps35
    go_wp2
    refine bodyPost_ret (v := .agg #[.int .u32 s, .int .u32 o, .int .u32 i, .int .u32 (W / 4294967296 % 4294967296), .int .u32 (W % 4294967296)]) (by simp [results, Try.results35, go_sem]) rfl ⟨by rw [F3.out, ← F1.out, ← F2.out], ((Below.refl _ _).alloc (Nat.le_refl _) _).alloc (by simp) _⟩

theorem packedOf_yes (w : World) (s o i att due : Int) (ha : 0 ≤ att ∧ att < 65536) (hd : -9223372036854775808 ≤ due ∧ due ≤ 9223372036854775807) :
    Calls Try.prog 25 #[.agg #[.int .u32 s, .int .u32 o, .int .u32 i, .int .u32 (packOf s o i att due).d, .int .u32 (packOf s o i att due).e], .int .u32 s, .int .u32 o, .int .u32 i, .int .u16 att, .int .i64 due] w fun e w' => e = .returned (.bool true) ∧ Below w.heap.size w w' := by
  have hm := dueMs_bd due hd.2
  have hdef : (packOf s o i att due).d = (dueMs due * 65536 + att) / 4294967296 ∧ (packOf s o i att due).e = (dueMs due * 65536 + att) % 4294967296 := ⟨rfl, rfl⟩
  generalize (packOf s o i att due).d = h at *
  generalize (packOf s o i att due).e = l at *
  have hh : 0 ≤ h ∧ h < 4294967296 := by omega
  have hl : 0 ≤ l ∧ l < 4294967296 := by omega
  have hor := or32 h l hh.1 hh.2 hl.1 hl.2
  rw [show h * 4294967296 + l = dueMs due * 65536 + att by omega] at hor
  have hmask := mask16 (dueMs due * 65536 + att) (by omega) (by omega)
  rw [show (dueMs due * 65536 + att) % 65536 = att by omega] at hmask
  have hdiv : (dueMs due * 65536 + att) / 65536 = dueMs due := by omega
  have hlaw := hid (show (0 < due → due ≤ dueMs due * 1000000 ∧ 1 ≤ dueMs due ∧ (dueMs due - 1) * 1000000 < due) ∧ (¬ 0 < due → dueMs due = 0) by
    unfold dueMs; constructor
    · intro h; rw [if_pos h]; split <;> omega
    · intro h; rw [if_neg h])
  clear hdef
  generalize dueMs due = M at *
  have hne : ∀ x : Int, (x != x) = false := by simp
  have hs := hne s
  have ho := hne o
  have hi := hne i
  have hat := hne att
  clear hne
  by_cases hp : 0 < due
  · obtain ⟨g1, g2, g3⟩ := hlaw.out.1 hp
    go_enter Try.func25, Try.ntmps25
    go_wp2
    go_ret
    exact ⟨by simp, (Below.refl _ _).alloc (Nat.le_refl _) _⟩
  · have hM := hlaw.out.2 hp
    subst hM
    rw [Int.zero_mul, Int.zero_add] at hor hmask hdiv
    go_enter Try.func25, Try.ntmps25
    go_wp2
    go_ret
    exact ⟨by simp, (Below.refl _ _).alloc (Nat.le_refl _) _⟩
end Go.Proofs.Qxb6602566a
