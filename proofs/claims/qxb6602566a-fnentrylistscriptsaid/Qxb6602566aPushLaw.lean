import Derived.Test.Qxb6602566aPlain
import Derived.Test.Qxb6602566aMk
import Derived.Test.Qxb6602566aFlat
namespace Go.Proofs.Qxb6602566a
open Go.RowKit

/-- 'ZZMakeList' at every list of blocks that is let in. -/
theorem makeList_all (w : World) (ao : Option Addr) (cap : Nat) (bs : List (List Pk)) (hr : InRows w ao bs) (hl : bs.length ≤ 1048577) (lc : Int) (hsm : ∀ i, i < bs.length → (bs.getD i []).length ≤ 4096) (hlc : lastCapB bs lc = true) (head n : Int) :
    Calls Try.prog 21 #[.slice ao bs.length cap, .int .i64 lc, .int .i64 head, .int .i64 n] w fun e w' => e = .returned (.pointer (some ⟨w.heap.size, 0, none⟩)) ∧ (∃ pt cp hv, LstAt w' w.heap.size w.heap.size bs pt cp hv head n) ∧ Below w.heap.size w w' := by
  by_cases h0 : bs = []
  · subst h0
    refine (makeList_nil w ao cap lc head n).mono ?_
    rintro e w' ⟨h1, h2, h3⟩
    exact ⟨h1, ⟨_, _, _, h2⟩, h3⟩
  · have hp : 0 < bs.length := List.length_pos_iff.2 h0
    have hlast : bs.getLast? = some (bs.getD (bs.length - 1) []) := by
      have : bs.length - 1 < bs.length := by omega
      rw [List.getLast?_eq_getElem?, List.getElem?_eq_getElem this]
      simp [List.getD, this]
    simp only [lastCapB, hlast, Bool.and_eq_true, decide_eq_true_eq] at hlc
    obtain ⟨c, rfl⟩ := Int.eq_ofNat_of_zero_le (show 0 ≤ lc by omega)
    refine (makeList_cons w ao cap bs hr hl hp c hsm (by omega) (by omega) head n).mono ?_
    rintro e w' ⟨h1, ⟨pt, hv, h2⟩, h3⟩
    exact ⟨h1, ⟨_, _, _, h2⟩, h3⟩

theorem In5.lt {w : World} {b : Nat} {es : List Pk} (h : In5 w (some ⟨b, 0, none⟩) es) : es = [] ∨ b < w.heap.size := by
  rcases Nat.eq_zero_or_pos es.length with h0 | h0
  · exact .inl (List.eq_nil_of_length_eq_zero h0)
  · obtain ⟨b', off', e, e1, _⟩ := h.at h0
    simp only [Option.some.injEq, Addr.mk.injEq] at e
    have := World.block_lt_of_cell? _ _ e1
    exact .inr (by rw [e.1]; exact this)

theorem In5.belowB {w w' : World} {B b : Nat} {es : List Pk} (h : In5 w (some ⟨b, 0, none⟩) es) (hb : Below B w w') (hlt : es = [] ∨ b < B) : In5 w' (some ⟨b, 0, none⟩) es := by
  rcases hlt with hlt | hlt
  · exact .inl hlt
  rcases h with h | ⟨b', off, e, hc⟩
  · exact .inl h
  · simp only [Option.some.injEq, Addr.mk.injEq] at e
    obtain ⟨rfl, rfl, _⟩ := e
    refine .inr ⟨b, 0, rfl, fun j hj => ?_⟩
    obtain ⟨a1, a2, a3, a4, a5⟩ := hc j hj
    exact ⟨(hb.cell (p := ⟨b, _, none⟩) hlt).trans a1, (hb.cell (p := ⟨b, _, none⟩) hlt).trans a2, (hb.cell (p := ⟨b, _, none⟩) hlt).trans a3, (hb.cell (p := ⟨b, _, none⟩) hlt).trans a4, (hb.cell (p := ⟨b, _, none⟩) hlt).trans a5⟩

/-- Entry k of two rows that agree there. -/
theorem both_at {w : World} {b c : Nat} {fs gs : List Pk} {p : Pk} (h1 : In5 w (some ⟨b, 0, none⟩) fs) (h2 : In5 w (some ⟨c, 0, none⟩) gs) (e : gs = fs ++ [p]) {k : Nat} (hk : k < fs.length) :
    w.cell? ⟨b, k * 5, none⟩ = some (.int .u32 fs[k].a) ∧ w.cell? ⟨b, k * 5 + 1, none⟩ = some (.int .u32 fs[k].b) ∧ w.cell? ⟨b, k * 5 + 2, none⟩ = some (.int .u32 fs[k].c) ∧ w.cell? ⟨b, k * 5 + 3, none⟩ = some (.int .u32 fs[k].d) ∧ w.cell? ⟨b, k * 5 + 4, none⟩ = some (.int .u32 fs[k].e) ∧
    w.cell? ⟨c, k * 5, none⟩ = some (.int .u32 fs[k].a) ∧ w.cell? ⟨c, k * 5 + 1, none⟩ = some (.int .u32 fs[k].b) ∧ w.cell? ⟨c, k * 5 + 2, none⟩ = some (.int .u32 fs[k].c) ∧ w.cell? ⟨c, k * 5 + 3, none⟩ = some (.int .u32 fs[k].d) ∧ w.cell? ⟨c, k * 5 + 4, none⟩ = some (.int .u32 fs[k].e) := by
  subst e
  obtain ⟨b', o', hb, a1, a2, a3, a4, a5⟩ := h1.at hk
  obtain ⟨c', p', hc, c1, c2, c3, c4, c5⟩ := h2.at (k := k) (by simp; omega)
  simp only [Option.some.injEq, Addr.mk.injEq, and_true] at hb hc
  obtain ⟨rfl, rfl⟩ := hb
  obtain ⟨rfl, rfl⟩ := hc
  rw [List.getElem_append_left hk] at c1 c2 c3 c4 c5
  simp only [Nat.zero_add] at a1 a2 a3 a4 a5 c1 c2 c3 c4 c5
  exact ⟨a1, a2, a3, a4, a5, c1, c2, c3, c4, c5⟩

theorem last_at {w : World} {c : Nat} {fs gs : List Pk} {p : Pk} (h2 : In5 w (some ⟨c, 0, none⟩) gs) (e : gs = fs ++ [p]) :
    w.cell? ⟨c, fs.length * 5, none⟩ = some (.int .u32 p.a) ∧ w.cell? ⟨c, fs.length * 5 + 1, none⟩ = some (.int .u32 p.b) ∧ w.cell? ⟨c, fs.length * 5 + 2, none⟩ = some (.int .u32 p.c) ∧ w.cell? ⟨c, fs.length * 5 + 3, none⟩ = some (.int .u32 p.d) ∧ w.cell? ⟨c, fs.length * 5 + 4, none⟩ = some (.int .u32 p.e) := by
  subst e
  obtain ⟨c', p', hc, c1, c2, c3, c4, c5⟩ := h2.at (k := fs.length) (by simp)
  simp only [Option.some.injEq, Addr.mk.injEq, and_true] at hc
  obtain ⟨rfl, rfl⟩ := hc
  simp only [List.getElem_concat_length, Nat.zero_add] at c1 c2 c3 c4 c5
  exact ⟨c1, c2, c3, c4, c5⟩

/-- What is known of the blocks that came in. -/
structure ArgRows (w : World) (ao : Option Addr) (bs : List (List Pk)) : Prop where
  rows : InRows w ao bs
  len : bs.length ≤ maxLen
  lens : ∀ l ∈ bs, l.length ≤ maxLen

theorem shape_bs (w : World) (ao : Option Addr) (cap : Nat) (bs : List (List Pk)) (head n : Int) (hr : InInts w ao (bs.map List.length)) (hl : bs.length ≤ 1048577) :
    Calls Try.prog 17 #[.slice ao bs.length cap, .int .i64 head, .int .i64 n] w (RetB w fun r => (r = true ↔ ShapeP (bs.map List.length) head n)) := by
  have := shape_any w ao cap (bs.map List.length) head n hr (by simpa using hl)
  rwa [List.length_map] at this

theorem caps_bs (w : World) (ao ac : Option Addr) (cap cap' : Nat) (bs : List (List Pk)) (cp : Nat → Nat) (hr : InInts w ao (bs.map List.length)) (hs : InInts w ac ((List.range bs.length).map cp)) (hl : bs.length ≤ 1048577)
    (hp : ∀ i (h : i < bs.length), bs[i].length ≤ cp i ∧ cp i ≤ 4096) :
    Calls Try.prog 24 #[.slice ao bs.length cap, .slice ac bs.length cap'] w fun e w' => e = .returned (.bool true) ∧ ∃ n, w' = w.drewN n := by
  have := caps_yes w ao ac cap cap' (bs.map List.length) ((List.range bs.length).map cp) hr hs (by simpa using hl) ⟨by simp, fun j hj => by
    have hj' : j < bs.length := by simpa using hj
    have := hp j hj'
    simpa [List.getD, hj'] using this⟩
  simpa using this

theorem retb {b : Bool} (h : b = true) : Ending.returned (.bool b) = .returned (.bool true) := by rw [h]

set_option maxHeartbeats 2000000 in
set_option maxRecDepth 100000 in
theorem pushSpec_walk (w : World) (ao : Option Addr) (cap : Nat) (bs : List (List Pk)) (hA : ArgRows w ao bs) (lc head n s o i att due : Int)
    (ha : 0 ≤ att ∧ att < 65536) (hd : -9223372036854775808 ≤ due ∧ due ≤ 9223372036854775807) :
    Calls Try.prog 5 #[.slice ao bs.length cap, .int .i64 lc, .int .i64 head, .int .i64 n, .int .u32 s, .int .u32 o, .int .u32 i, .int .u16 att, .int .i64 due] w fun e w' => e = .returned (.bool true) ∧ Below w.heap.size w w' := by
  have HA := hid hA
  clear hA
  go_enter Try.func5, Try.ntmps5
  go_wp2_with fail
  refine (bytes15_any w ao cap bs HA.out.rows HA.out.len HA.out.lens _ _ _ _ _ _ _ _).mono ?_
  rintro e w1 ⟨r1, rfl, rfl, -⟩
  cases r1
  · go_wp2
    go_ret
    exact ⟨rfl, Below.refl _ _⟩
  go_wp2_with fail
  refine (listBytesOK_any w1 ao cap bs HA.out.rows HA.out.len HA.out.lens).mono ?_
  rintro e w2 ⟨r2, rfl, rfl, hb⟩
  cases r2
  · go_wp2
    go_ret
    exact ⟨rfl, Below.refl _ _⟩
  have hb' := hb rfl
  clear hb
  have hlen : bs.length ≤ 1048577 := by omega
  go_wp2_with fail
  refine (lens_any w2 ao cap bs HA.out.rows hlen).mono ?_
  rintro e w3 ⟨rfl, hl3, hb3⟩
  have HL3 := hid hl3
  have HB3 := hid hb3
  clear hl3 hb3
  go_wp2_with fail
  refine (shape_bs w3 _ _ bs head n HL3.out hlen).mono ?_
  rintro e w4 ⟨r4, rfl, rfl, hs⟩
  cases r4
  · go_wp2
    go_ret
    exact ⟨rfl, HB3.out⟩
  have hsh := hs.1 rfl
  have HSH := hid hsh
  have hsm := shape_small bs head n hsh
  have HSM := hid hsm
  obtain ⟨hn1, hn2, hn3, hn4, hn5⟩ := shape_n bs head n hsh
  have HN4 := hid hn4
  have hR4 := HA.out.rows.below HB3.out
  have HR4 := hid hR4
  clear hs hsh hsm hn4 hR4 HL3
  go_wp2_with fail
  refine (lastCap_any w4 ao cap bs lc HR4.out HA.out.len).mono ?_
  rintro e w5 ⟨r5, rfl, rfl, hs⟩
  have HLC := hid hs.symm
  clear hs
  cases r5
  · go_wp2
    go_ret
    exact ⟨rfl, HB3.out⟩
  go_wp2_with fail
  refine (flat_any w5 ao cap bs HR4.out hlen (by omega)).mono ?_
  rintro e w6 ⟨rfl, hf6, hb6⟩
  have HF6 := hid hf6
  have HB6 := hid (HB3.out.trans (hb6.mono HB3.out.size))
  have HR6 := hid (HR4.out.below hb6)
  clear hf6 hb6
  go_wp2_with fail
  refine (makeList_all w6 ao cap bs HR6.out hlen lc HSM.out HLC.out head n).mono ?_
  rintro e w7 ⟨rfl, ⟨pt7, cp7, hv7, h7⟩, hb7⟩
  have H7 := hid h7
  have HF7 := hid (HF6.out.below hb7)
  have HB7 := hid (HB6.out.trans (hb7.mono HB6.out.size))
  clear h7 hb7
  go_wp2_with fail
  refine (zzpush_any w7 w6.heap.size w6.heap.size bs pt7 cp7 hv7 head n H7.out hlen (by omega) s o i att due ha hd).mono ?_
  rintro e w8 ⟨rfl, ⟨pt8, cp8, hv8, h8⟩, ⟨hb8, -⟩⟩
  have H8 := hid h8
  have HF8 := hid (HF7.out.belowB hb8 HF6.out.lt)
  have HB8 := hid (HB7.out.trans (hb8.mono HB6.out.size))
  have hfl := pushB_flatten bs (packOf s o i att due)
  have hsh := shape_pushB bs (packOf s o i att due) head n HSH.out
  have hln : (pushB bs (packOf s o i att due)).length ≤ bs.length + 1 := by
    unfold pushB; split <;> simp
  generalize pushB bs (packOf s o i att due) = bs' at *
  have HFL := hid hfl
  have HSH' := hid hsh
  have hT : total bs' = total bs + 1 := by rw [total_flatten, total_flatten, hfl]; simp
  clear h8 hb8 hfl hsh H7 HF7 HF6 HR6 HR4 HB7 HB6 HB3 HLC HSM HN4 HSH
  go_wp2_with fail
  refine (listState_any w8 w6.heap.size w6.heap.size bs' pt8 cp8 hv8 head (n + 1) H8.out (by omega)).mono ?_
  rintro e w9 ⟨rfl, hr9, hc9, hb9⟩
  have HR9 := hid hr9
  have HC9 := hid hc9
  have HF9 := hid (HF8.out.below hb9)
  have HB9 := hid (HB8.out.trans (hb9.mono HB8.out.size))
  clear hr9 hc9 hb9
  go_wp2_with fail
  refine (lens_any w9 _ _ bs' HR9.out (by omega)).mono ?_
  rintro e w10 ⟨rfl, hl10, hb10⟩
  have HL10 := hid hl10
  have HR10 := hid (HR9.out.below hb10)
  have HC10 := hid (HC9.out.below hb10)
  have HF10 := hid (HF9.out.below hb10)
  have HB10 := hid (HB9.out.trans (hb10.mono HB9.out.size))
  clear hl10 hb10
  go_wp2_with fail
  refine (shape_bs w10 _ _ bs' head (n + 1) HL10.out (by omega)).mono ?_
  rintro e w11 ⟨r11, rfl, rfl, hs⟩
  have hr11 := hs.2 HSH'.out
  subst hr11
  clear hs
  go_wp2_with fail
  refine (caps_bs w11 _ _ _ _ bs' cp8 HL10.out HC10.out (by omega) (fun i hi => H8.out.le hi)).mono ?_
  rintro e w12 ⟨rfl, m, rfl⟩
  go_wp2_with fail
  refine (flat_any (w11.drewN m) _ _ bs' HR10.out (by omega) (by omega)).mono ?_
  rintro e w13 ⟨rfl, hf13, hb13⟩
  have HF13 := hid (show In5 w13 (some ⟨w11.heap.size, 0, none⟩) bs'.flatten from hf13)
  have HG13 := hid (In5.below (w := w11.drewN m) HF10.out hb13)
  have HB13 := hid ((below_drewN (n := m) HB10.out).trans (hb13.mono HB10.out.size))
  clear hf13 hb13
  go_wp2_with fail
  have HP := hid (show total bs = bs.flatten.length from total_flatten bs)
  generalize w5.heap.size = P5 at *
  generalize w11.heap.size = P11 at *
  generalize total bs = T at *
  go_loopw [27] (fun i wr => ∃ k n : Nat, k ≤ T ∧ i = .int .i64 k ∧ wr = w13.drewN n) (fun i _ => T - (intOf i).toNat)
  case atStart => exact ⟨0, 0, Nat.zero_le _, rfl, rfl⟩
  case round =>
    obtain ⟨k, q, hk, rfl, rfl⟩ := hrel
    by_cases hlt : k < T
    · obtain ⟨e1, e2, e3, e4, e5, e6, e7, e8, e9, e10⟩ := both_at HG13.out HF13.out HFL.out (k := k) (by rw [← HP.out]; exact hlt)
      generalize bs.flatten[k]'(by rw [← HP.out]; exact hlt) = p at *
      have i1 : (k : Int) < (T : Int) := by omega
      have i2 : (k : Int) < (T : Int) + 1 := by omega
      have i0 : (0 : Int) ≤ (k : Int) := by omega
      have heq := fun w => eq60 w p
      have hgd := eqG60
      go_wp2_with fail
      go_quiet (fail)
      go_wp2
      go_roundw
      case rel => exact ⟨k + 1, q + nq, by omega, by go_num, rfl⟩
      case measure => simp [intOf]; omega
    · obtain ⟨e1, e2, e3, e4, e5⟩ := last_at HF13.out HFL.out
      rw [← HP.out] at e1 e2 e3 e4 e5
      obtain rfl : k = T := by omega
      go_wp2_with fail
      refine (packedOf_yes (w13.drewN q) s o i att due ha hd).mono ?_
      rintro e w14 ⟨rfl, hb14⟩
      go_wp2
      go_ret
      exact ⟨rfl, (below_drewN (n := q) HB13.out).trans (hb14.mono HB13.out.size)⟩
end Go.Proofs.Qxb6602566a
