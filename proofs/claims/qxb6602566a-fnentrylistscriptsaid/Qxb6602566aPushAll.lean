import Derived.Test.Qxb6602566aPush3
namespace Go.Proofs.Qxb6602566a
open Go.RowKit

/-- The blocks behind a push. -/
def pushB (bs : List (List Pk)) (p : Pk) : List (List Pk) :=
  if bs = [] ∨ (bs.getD (bs.length - 1) []).length = 4096 then bs ++ [[p]] else bs.set (bs.length - 1) (bs.getD (bs.length - 1) [] ++ [p])

theorem push_any (w : World) (B l : Nat) (bs : List (List Pk)) (pt cp : Nat → Nat) (hv : Value) (head n : Int) (h : LstAt w B l bs pt cp hv head n) (hl : bs.length ≤ 1048577) (hn : -9223372036854775808 ≤ n ∧ n < 9223372036854775807)
    (s o i att due : Int) (ha : 0 ≤ att ∧ att < 65536) (hd : -9223372036854775808 ≤ due ∧ due ≤ 9223372036854775807) :
    Calls Try.prog 33 #[.pointer (some ⟨l, 0, none⟩), .agg #[.int .u32 s, .int .u32 o, .int .u32 i, .int .u16 att, .int .i64 due]] w fun e w' => e = .returned (.tuple #[]) ∧
      (∃ pt' cp' hv', LstAt w' B l (pushB bs (packOf s o i att due)) pt' cp' hv' head (n + 1)) ∧ Fr B w w' := by
  unfold pushB
  by_cases h0 : bs = []
  · rw [if_pos (.inl h0)]
    exact push_first w B l bs pt cp hv head n h hl hn h0 s o i att due ha hd
  · have hp : 0 < bs.length := List.length_pos_iff.2 h0
    have hk : bs.length - 1 + 1 = bs.length := by omega
    by_cases h1 : (bs.getD (bs.length - 1) []).length = 4096
    · rw [if_pos (.inr h1)]
      exact push_next w B l bs pt cp hv head n h hl hn (bs.length - 1) hk h1 s o i att due ha hd
    · rw [if_neg (by rintro (e | e) <;> contradiction)]
      have hle := h.le (i := bs.length - 1) (by omega)
      have hes : bs.getD (bs.length - 1) [] = bs[bs.length - 1] := by
        have : bs.length - 1 < bs.length := by omega
        simp [List.getD, this]
      rw [← hes] at hle
      by_cases h2 : (bs.getD (bs.length - 1) []).length < cp (bs.length - 1)
      · exact push_room w B l bs pt cp hv head n h hl hn (bs.length - 1) hk h2 s o i att due ha hd
      · have h3 : (bs.getD (bs.length - 1) []).length = cp (bs.length - 1) := by omega
        by_cases h4 : (bs.getD (bs.length - 1) []).length < 2
        · exact push_grow4 w B l bs pt cp hv head n h hl hn (bs.length - 1) hk _ rfl h3 h4 s o i att due ha hd
        · by_cases h5 : (bs.getD (bs.length - 1) []).length ≤ 2048
          · exact push_grow2 w B l bs pt cp hv head n h hl hn (bs.length - 1) hk _ rfl h3 (by omega) h5 s o i att due ha hd
          · exact push_grow4096 w B l bs pt cp hv head n h hl hn (bs.length - 1) hk _ rfl h3 (by omega) (by omega) s o i att due ha hd

theorem zzpush_any (w : World) (B l : Nat) (bs : List (List Pk)) (pt cp : Nat → Nat) (hv : Value) (head n : Int) (h : LstAt w B l bs pt cp hv head n) (hl : bs.length ≤ 1048577) (hn : -9223372036854775808 ≤ n ∧ n < 9223372036854775807)
    (s o i att due : Int) (ha : 0 ≤ att ∧ att < 65536) (hd : -9223372036854775808 ≤ due ∧ due ≤ 9223372036854775807) :
    Calls Try.prog 22 #[.pointer (some ⟨l, 0, none⟩), .int .u32 s, .int .u32 o, .int .u32 i, .int .u16 att, .int .i64 due] w fun e w' => e = .returned (.tuple #[]) ∧
      (∃ pt' cp' hv', LstAt w' B l (pushB bs (packOf s o i att due)) pt' cp' hv' head (n + 1)) ∧ Fr B w w' := by
  have H := hid h
  clear h
  go_enter Try.func22, Try.ntmps22
  go_wp2_with fail
  refine (push_any _ B l bs pt cp hv head n H.out hl hn s o i att due ha hd).mono ?_
  rintro e w1 ⟨rfl, h1, h2⟩
  go_wp2
  go_end0
  exact ⟨rfl, h1, h2⟩
end Go.Proofs.Qxb6602566a
