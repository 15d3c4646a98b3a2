/- The exported reading. -/
import Derived.Test.Qxb6602611aRead
namespace Go.Proofs.Qxb6602611a
open Go.RowKit

/-- What the exported reading hands back, read off the inner one. -/
def TupOf (Q : Value → World → Prop) (e : Ending) (w' : World) : Prop :=
  ∃ ta tn tc fi si ua un uc, e = .returned (.tuple #[.slice ta tn tc, .int .i64 fi, .int .i64 si, .slice ua un uc]) ∧ Q (.agg #[.slice ta tn tc, .int .i64 fi, .int .i64 si, .slice ua un uc]) w'

theorem zz_of (w : World) (a : Option Addr) (n c : Nat) (Q : Value → World → Prop)
    (h : Calls Try.prog 9 #[.slice a n c] w fun e w' => ∃ v, e = .returned v ∧ Q v w')
    (hs : ∀ v w', Q v w' → ∃ ta tn tc fi si ua un uc, v = .agg #[.slice ta tn tc, .int .i64 fi, .int .i64 si, .slice ua un uc])
    (hq : ∀ v w' w'', Q v w' → Below w'.heap.size w' w'' → Q v w'') :
    Calls Try.prog 7 #[.slice a n c] w (TupOf Q) := by
  have HS := hid hs
  have HQ := hid hq
  clear hs hq
  go_enter Try.func7, Try.ntmps7
  go_wp2_with fail
  refine h.mono ?_
  rintro e w2 ⟨v, rfl, hv⟩
  obtain ⟨ta, tn, tc, fi, si, ua, un, uc, rfl⟩ := HS.out v w2 hv
  have HV := hid hv
  clear hv
  go_wp2_with fail
  go_quiet (fail)
  go_wp2_with fail
  refine bodyPost_ret (v := .tuple #[.slice ta tn tc, .int .i64 fi, .int .i64 si, .slice ua un uc]) (by simp [results, Try.results7, go_sem]) rfl ⟨ta, tn, tc, fi, si, ua, un, uc, rfl, ?_⟩
  exact HQ.out _ _ _ HV.out (((Below.refl _ _).alloc (Nat.le_refl _) _).trans ⟨rfl, rfl, rfl, Nat.le_refl _, fun _ _ => rfl⟩)

theorem Rd16.shape {w : World} {zs : List Int} {low : Nat} {v : Value} {w' : World} (h : Rd16 w zs low v w') : ∃ ta tn tc fi si ua un uc, v = .agg #[.slice ta tn tc, .int .i64 fi, .int .i64 si, .slice ua un uc] := by
  obtain ⟨bt, bu, h, _⟩ := h
  exact ⟨_, _, _, _, _, _, _, _, h⟩
theorem Rd8.shape {w : World} {zs : List Int} {k : Nat} {v : Value} {w' : World} (h : Rd8 w zs k v w') : ∃ ta tn tc fi si ua un uc, v = .agg #[.slice ta tn tc, .int .i64 fi, .int .i64 si, .slice ua un uc] := by
  obtain ⟨bt, bu, h, _⟩ := h
  exact ⟨_, _, _, _, _, _, _, _, h⟩
theorem Rd16.stay {w : World} {zs : List Int} {low : Nat} {v : Value} {w' w'' : World} (h : Rd16 w zs low v w') (hb : Below w'.heap.size w' w'') : Rd16 w zs low v w'' := by
  obtain ⟨bt, bu, h1, h2, h3⟩ := h
  exact ⟨bt, bu, h1, fun i hi => ⟨(hb.cell (World.block_lt_of_cell? _ _ (h2 i hi).1)).trans (h2 i hi).1, (hb.cell (World.block_lt_of_cell? _ _ (h2 i hi).2)).trans (h2 i hi).2⟩, h3.trans (hb.mono h3.size)⟩
theorem Rd8.stay {w : World} {zs : List Int} {k : Nat} {v : Value} {w' w'' : World} (h : Rd8 w zs k v w') (hb : Below w'.heap.size w' w'') : Rd8 w zs k v w'' := by
  obtain ⟨ra, c, h1, h2, h3⟩ := h
  exact ⟨ra, c, h1, h2.below hb, h3.trans (hb.mono h3.size)⟩

theorem zz16 {w : World} {a : Option Addr} {c low : Nat} {zs : List Int} (h : Calls Try.prog 9 #[.slice a zs.length c] w fun e w' => ∃ v, e = .returned v ∧ Rd16 w zs low v w') :
    Calls Try.prog 7 #[.slice a zs.length c] w fun e w' => ∃ bt bu, e = .returned (.tuple #[.slice (some ⟨bt, 0, none⟩) ((zs.length - 2) / 2) ((zs.length - 2) / 2), .int .i64 (2 + low : Int), .int .i64 2, .slice (some ⟨bu, 0, none⟩) ((zs.length - 2) / 2) ((zs.length - 2) / 2)]) ∧
    (∀ i, i < (zs.length - 2) / 2 → w'.cell? ⟨bu, i, none⟩ = some (.int .u16 (unit (zs.drop 2) low i)) ∧ w'.cell? ⟨bt, i, none⟩ = some (.int .u8 (min (unit (zs.drop 2) low i) 128))) ∧ Below w.heap.size w w' := by
  refine (zz_of w a _ c _ h (fun v w' h => h.shape) (fun v w' w'' h hb => h.stay hb)).mono ?_
  rintro e w' ⟨ta, tn, tc, fi, si, ua, un, uc, rfl, bt, bu, hv, h2, h3⟩
  refine ⟨bt, bu, ?_, h2, h3⟩
  simp only [Value.agg.injEq] at hv
  rw [hv]
theorem zz8 {w : World} {a : Option Addr} {c k : Nat} {zs : List Int} (h : Calls Try.prog 9 #[.slice a zs.length c] w fun e w' => ∃ v, e = .returned v ∧ Rd8 w zs k v w') :
    Calls Try.prog 7 #[.slice a zs.length c] w fun e w' => ∃ ra c', e = .returned (.tuple #[.slice ra (zs.length - k) c', .int .i64 (k : Int), .int .i64 1, .slice none 0 0]) ∧ InU .u8 w' ra (zs.drop k) ∧ Below w.heap.size w w' := by
  refine (zz_of w a _ c _ h (fun v w' h => h.shape) (fun v w' w'' h hb => h.stay hb)).mono ?_
  rintro e w' ⟨ta, tn, tc, fi, si, ua, un, uc, rfl, ra, c', hv, h2, h3⟩
  refine ⟨ra, c', ?_, h2, h3⟩
  simp only [Value.agg.injEq] at hv
  rw [hv]

theorem clone_any (w : World) (a : Option Addr) (cap : Nat) (zs : List Int) (hr : InU .u8 w a zs) (hl : zs.length ≤ 1048576) :
    Calls Try.prog 6 #[.slice a zs.length cap] w fun e w' => ∃ da c, e = .returned (.slice da zs.length c) ∧ zs.length ≤ c ∧ InU .u8 w' da zs ∧ Below w.heap.size w w' := by
  cases a with
  | none =>
    rcases hr with rfl | ⟨b, off, e, _⟩
    · refine (clone_nil w _ cap).mono ?_
      rintro e w' ⟨rfl, rfl⟩
      exact ⟨none, 0, rfl, Nat.le_refl _, .inl rfl, Below.refl _ _⟩
    · cases e
  | some a =>
    refine (clone_some w a cap zs hr hl).mono ?_
    rintro e w' ⟨rfl, h2, h3⟩
    exact ⟨_, _, rfl, Nat.le_refl _, h2, h3⟩
end Go.Proofs.Qxb6602611a
