import Derived.Test.Qxb6602566aPush3
import Derived.WalkSmall
namespace Go.Proofs.Qxb6602566a
open Go.RowKit
set_option linter.unusedVariables false

theorem wrap_small (L : Nat) (h : L ≤ 4096) : IntKind.i64.wrap (L : Int) = L ∧ wrap64 (L : Int) = L := by
  constructor
  · rw [IntKind.wrap_i64]; omega
  · unfold wrap64; omega

theorem blk_set5 {w : World} {N : Nat} {t : TypeId} {x0 x1 x2 x3 x4 v0 v1 v2 v3 v4 : Value} (h : w.heap[N]? = some (.cells #[x0, x1, x2, x3, x4] t (0, 0))) :
    (((((w.setCell ⟨N, 0, none⟩ v0).setCell ⟨N, 1, none⟩ v1).setCell ⟨N, 2, none⟩ v2).setCell ⟨N, 3, none⟩ v3).setCell ⟨N, 4, none⟩ v4).heap[N]? = some (.cells #[v0, v1, v2, v3, v4] t (0, 0)) := by
  simp [World.setCell, Array.getElem?_modify, h]

theorem lst_alloc {w : World} {B l : Nat} {bs : List (List Pk)} {pt cp : Nat → Nat} {hv : Value} {head n : Int} (h : LstAt w B l bs pt cp hv head n) (o : Obj) : LstAt (w.alloc o) B l bs pt cp hv head n :=
  ⟨h.hl, by rw [Below.heap_alloc _ _ _ (lt_of_block h.own)]; exact h.own, h.hdr.alloc o, fun i hi => (h.row i hi).alloc o, h.inj, h.cap⟩

theorem lst_drewN {w : World} {B l m : Nat} {bs : List (List Pk)} {pt cp : Nat → Nat} {hv : Value} {head n : Int} (h : LstAt w B l bs pt cp hv head n) : LstAt (w.drewN m) B l bs pt cp hv head n :=
  ⟨h.hl, h.own, h.hdr, h.row, h.inj, h.cap⟩

/-- What lies below N stays. -/
theorem lst_keep {A A' : World} {N B l : Nat} {bs : List (List Pk)} {pt cp : Nat → Nat} {hv : Value} {head n : Int} (h : LstAt A B l bs pt cp hv head n) (hb : Below N A A') (hl : l < N) (hhv : ∀ g, hv.ownBlock = some g → g < N) (hpt : ∀ i, i < bs.length → pt i < N) :
    LstAt A' B l bs pt cp hv head n := by
  refine ⟨h.hl, by rw [hb.block _ hl]; exact h.own, ?_, fun i hi => ?_, h.inj, h.cap⟩
  · obtain ⟨h1, h2⟩ := h.hdr
    refine ⟨h1, ?_⟩
    rcases h2 with h2 | ⟨g, cap, cur, e, hg, hh, r⟩
    · exact .inl h2
    · exact .inr ⟨g, cap, cur, e, hg, by rw [hb.block _ (hhv g (by rw [e]; rfl))]; exact hh, r⟩
  · obtain ⟨h1, h2⟩ := h.row i hi
    refine ⟨h1, ?_⟩
    rcases h2 with h2 | ⟨g, cap, cur, e, hg, hh, r⟩
    · exact .inl h2
    · have hgi : g = pt i := by simp only [Value.slice.injEq, Option.some.injEq, Addr.mk.injEq] at e; exact e.1.1.symm
      exact .inr ⟨g, cap, cur, e, hg, by rw [hb.block _ (by rw [hgi]; exact hpt i hi)]; exact hh, r⟩

theorem own_set0 {w : World} {l : Nat} {a b c x : Value} (h : w.heap[l]? = some (.cells #[a, b, c] 79 (0, 0))) : (w.setCell ⟨l, 0, none⟩ x).heap[l]? = some (.cells #[x, b, c] 79 (0, 0)) := by
  simp [World.setCell, Array.getElem?_modify, h]
theorem own_set1 {w : World} {l : Nat} {a b c x : Value} (h : w.heap[l]? = some (.cells #[a, b, c] 79 (0, 0))) : (w.setCell ⟨l, 1, none⟩ x).heap[l]? = some (.cells #[a, x, c] 79 (0, 0)) := by
  simp [World.setCell, Array.getElem?_modify, h]
theorem own_set2 {w : World} {l : Nat} {a b c x : Value} (h : w.heap[l]? = some (.cells #[a, b, c] 79 (0, 0))) : (w.setCell ⟨l, 2, none⟩ x).heap[l]? = some (.cells #[a, b, x] 79 (0, 0)) := by
  simp [World.setCell, Array.getElem?_modify, h]

theorem lst_nil {w : World} {B l : Nat} (hB : B ≤ l) (h : w.heap[l]? = some (.cells #[.slice none 0 0, .int .i64 0, .int .i64 0] 79 (0, 0))) : LstAt w B l [] (fun _ => 0) (fun _ => 0) (.slice none 0 0) 0 0 :=
  ⟨hB, h, ⟨by simp, .inl ⟨rfl, rfl⟩⟩, by simp, by intro i j hi; simp at hi, by simp⟩

/-- The last row is dropped: its header cell is nil, the header one shorter. -/
theorem lst_drop {w : World} {B l hb hc k : Nat} {bs : List (List Pk)} {pt cp : Nat → Nat} {head n : Int} (h : LstAt w B l bs pt cp (.slice (some ⟨hb, 0, none⟩) bs.length hc) head n) (hk : k + 1 = bs.length) (x : Value) :
    LstAt ((w.setCell ⟨hb, k, none⟩ x).setCell ⟨l, 0, none⟩ (.slice (some ⟨hb, 0, none⟩) k hc)) B l (bs.take k) pt cp (.slice (some ⟨hb, 0, none⟩) k hc) head n := by
  obtain ⟨cur, hcur⟩ := (owns_block h.hdr).2
  have hlb : l ≠ hb := ne_of_type h.own hcur (by decide)
  have hlen : (bs.take k).length = k := by rw [List.length_take]; omega
  have hget : ∀ i, i < k → (bs.take k).getD i [] = bs.getD i [] := fun i hi => by simp [List.getD, hi]
  refine ⟨h.hl, ?_, ?_, fun i hi => ?_, fun i j hi hj => h.inj i j (by omega) (by omega), fun i hi => h.cap i (by omega)⟩
  · exact own_set0 (by rw [Below.heap_setCell _ _ _ _ hlb]; exact h.own)
  · rw [hlen]
    have h1 := h.hdr
    rw [show bs.length = k + 1 from hk.symm, List.range_succ, List.map_append] at h1
    have h2 := ownsRow_pop (n := k) (by simp) h1
    have h3 := (h2.stored k x).1
    rw [List.set_eq_of_length_le (by simp)] at h3
    rw [List.map_congr_left (g := fun i => Value.slice (some ⟨pt i, 0, none⟩) (bs.getD i []).length (cp i)) (fun i hi => by rw [hget i (List.mem_range.1 hi)])]
    exact ownsRow_setCell_other h3 (by simpa [Value.ownBlock] using fun e => hlb e.symm) _
  · rw [hlen] at hi
    rw [hget i hi]
    have hr := h.row i (by omega)
    obtain ⟨c2, hc2⟩ := (owns_block hr).2
    exact ownsRow_setCell_other (ownsRow_setCell_other hr (by simpa [Value.ownBlock] using ne_of_type hc2 hcur (by decide)) _) (by simpa [Value.ownBlock] using fun e => ne_of_type h.own hc2 (by decide) e.symm) _


set_option maxHeartbeats 1000000 in
set_option maxRecDepth 100000 in
theorem pop_clear (w : World) (B l : Nat) (bs : List (List Pk)) (pt cp : Nat → Nat) (hv : Value) (head n : Int) (h : LstAt w B l bs pt cp hv head 1) (hl : bs.length ≤ 1048577)
    (k L : Nat) (hk : k + 1 = bs.length) (hL : (bs.getD k []).length = L + 1) (p : Pk) (hp : (bs.getD k [])[L]? = some p)  :
    Calls Try.prog 34 #[.pointer (some ⟨l, 0, none⟩)] w fun e w' => e = .returned (.agg #[.int .u32 p.a, .int .u32 p.b, .int .u32 p.c, .int .u32 p.d, .int .u32 p.e]) ∧
      LstAt w' B l [] (fun _ => 0) (fun _ => 0) (.slice none 0 0) 0 0 ∧ Fr B w w' := by
  obtain ⟨ha', hc, rfl⟩ := h.shape
  obtain ⟨hb, rfl, hBb, -, hlc, hcell, hfr⟩ := h.cells (i := k) (by omega)
  have hc0 : w.cell? ⟨l, 0, none⟩ = some (.slice (some ⟨hb, 0, none⟩) bs.length hc) := by simp [World.cell?, h.own]
  have hc1 : w.cell? ⟨l, 1, none⟩ = some (.int .i64 head) := by simp [World.cell?, h.own]
  have hc2 : w.cell? ⟨l, 2, none⟩ = some (.int .i64 1) := by simp [World.cell?, h.own]
  have hf0 : w.frozen? ⟨l, 0, none⟩ = false := by simp [World.frozen?, h.own]
  have hf1 : w.frozen? ⟨l, 1, none⟩ = false := by simp [World.frozen?, h.own]
  have hf2 : w.frozen? ⟨l, 2, none⟩ = false := by simp [World.frozen?, h.own]
  have hll : l < w.heap.size := lt_of_block h.own
  have hbl : hb < w.heap.size := World.block_lt_of_cell? _ _ hcell
  obtain ⟨cur2, hcur2⟩ := (owns_block h.hdr).2
  have hlb : l ≠ hb := ne_of_type h.own hcur2 (by decide)
  have hbl' : hb ≠ l := fun e => hlb e.symm
  have hkl : k < bs.length := by omega
  have hes : bs.getD k [] = bs[k] := by simp [List.getD, hkl]
  obtain ⟨hle1, hle2⟩ := h.le (i := k) hkl
  have h5 := h.in5 hkl
  rw [hes] at hL hp
  rw [hL] at hcell hle1
  obtain ⟨b', off', hbo, e1, e2, e3, e4, e5⟩ := h5.at (k := L) (by omega)
  simp only [Option.some.injEq, Addr.mk.injEq, and_true] at hbo
  obtain ⟨rfl, rfl⟩ := hbo
  have hpe : bs[k][L]'(by omega) = p := by rw [List.getElem?_eq_getElem (by omega)] at hp; simpa using hp
  have HES := hid hes
  have HL := hid hL
  have HP := hid hp
  rw [hpe] at e1 e2 e3 e4 e5
  simp only [Nat.zero_add] at e1 e2 e3 e4 e5
  have hpl : pt k < w.heap.size := World.block_lt_of_cell? _ _ e1
  clear hpe h5
  generalize bs[k] = es at *
  have HK := hid hk
  rw [← hk] at hc0 hl hlc
  have H := hid h
  clear h hes hL hp hkl hk hcur2
  go_enter Try.func34, Try.ntmps34
  go_wp2
  go_end0
  go_wp2
  refine bodyPost_ret (v := .agg #[.int .u32 p.a, .int .u32 p.b, .int .u32 p.c, .int .u32 p.d, .int .u32 p.e]) (by simp [results, Try.results34, go_sem]) rfl ⟨rfl, ?_, ?_⟩
  · exact lst_alloc (lst_alloc (lst_nil H.out.hl (own_set2 (own_set1 (own_set0 (own_set2 H.out.own))))) _) _
  · have hB := H.out.hl
    refine ⟨((((((Below.refl B w).setCell (p := ⟨l, 2, none⟩) hB _).setCell (p := ⟨l, 0, none⟩) hB _).setCell (p := ⟨l, 1, none⟩) hB _).setCell (p := ⟨l, 2, none⟩) hB _).alloc (by simp; omega) _).alloc (by simp; omega) _, ?_⟩
    exact ((((((Quiet3.refl w).set H.out.own (.inl rfl) _).set H.out.own (.inl rfl) _).set H.out.own (.inl rfl) _).set H.out.own (.inl rfl) _).alloc _).alloc _

set_option maxHeartbeats 1000000 in
set_option maxRecDepth 100000 in
theorem pop_row (w : World) (B l : Nat) (bs : List (List Pk)) (pt cp : Nat → Nat) (hv : Value) (head n : Int) (h : LstAt w B l bs pt cp hv head n) (hl : bs.length ≤ 1048577)
    (k L : Nat) (hk : k + 1 = bs.length) (hL : (bs.getD k []).length = L + 1) (p : Pk) (hp : (bs.getD k [])[L]? = some p) (hL0 : L = 0) (hn : 1 < n) (hn2 : n ≤ 9223372036854775807) :
    Calls Try.prog 34 #[.pointer (some ⟨l, 0, none⟩)] w fun e w' => e = .returned (.agg #[.int .u32 p.a, .int .u32 p.b, .int .u32 p.c, .int .u32 p.d, .int .u32 p.e]) ∧
      (∃ hv', LstAt w' B l (bs.take k) pt cp hv' head (n - 1)) ∧ Fr B w w' := by
  obtain ⟨ha', hc, rfl⟩ := h.shape
  obtain ⟨hb, rfl, hBb, -, hlc, hcell, hfr⟩ := h.cells (i := k) (by omega)
  have hc0 : w.cell? ⟨l, 0, none⟩ = some (.slice (some ⟨hb, 0, none⟩) bs.length hc) := by simp [World.cell?, h.own]
  have hc1 : w.cell? ⟨l, 1, none⟩ = some (.int .i64 head) := by simp [World.cell?, h.own]
  have hc2 : w.cell? ⟨l, 2, none⟩ = some (.int .i64 n) := by simp [World.cell?, h.own]
  have hf0 : w.frozen? ⟨l, 0, none⟩ = false := by simp [World.frozen?, h.own]
  have hf1 : w.frozen? ⟨l, 1, none⟩ = false := by simp [World.frozen?, h.own]
  have hf2 : w.frozen? ⟨l, 2, none⟩ = false := by simp [World.frozen?, h.own]
  have hll : l < w.heap.size := lt_of_block h.own
  have hbl : hb < w.heap.size := World.block_lt_of_cell? _ _ hcell
  obtain ⟨cur2, hcur2⟩ := (owns_block h.hdr).2
  have hlb : l ≠ hb := ne_of_type h.own hcur2 (by decide)
  have hbl' : hb ≠ l := fun e => hlb e.symm
  have hkl : k < bs.length := by omega
  have hes : bs.getD k [] = bs[k] := by simp [List.getD, hkl]
  obtain ⟨hle1, hle2⟩ := h.le (i := k) hkl
  have h5 := h.in5 hkl
  rw [hes] at hL hp
  rw [hL] at hcell hle1
  obtain ⟨b', off', hbo, e1, e2, e3, e4, e5⟩ := h5.at (k := L) (by omega)
  simp only [Option.some.injEq, Addr.mk.injEq, and_true] at hbo
  obtain ⟨rfl, rfl⟩ := hbo
  have hpe : bs[k][L]'(by omega) = p := by rw [List.getElem?_eq_getElem (by omega)] at hp; simpa using hp
  have HES := hid hes
  have HL := hid hL
  have HP := hid hp
  rw [hpe] at e1 e2 e3 e4 e5
  simp only [Nat.zero_add] at e1 e2 e3 e4 e5
  have hpl : pt k < w.heap.size := World.block_lt_of_cell? _ _ e1
  clear hpe h5
  generalize bs[k] = es at *
  have HK := hid hk
  rw [← hk] at hc0 hl hlc
  have H := hid h
  clear h hes hL hp hkl hk hcur2
  subst hL0
  have hn0 : (n - 1 == 0) = false := beq_eq_false_iff_ne.2 (by omega)
  go_enter Try.func34, Try.ntmps34
  go_wp2
  refine bodyPost_ret (v := .agg #[.int .u32 p.a, .int .u32 p.b, .int .u32 p.c, .int .u32 p.d, .int .u32 p.e]) (by simp [results, Try.results34, go_sem]) rfl ⟨rfl, ?_, ?_⟩
  · have hd := lst_drop (k := k) (lst_n H.out (n - 1)) HK.out (.slice none 0 0)
    exact ⟨_, lst_alloc (lst_alloc hd _) _⟩
  · have hB := H.out.hl
    refine ⟨(((((Below.refl B w).setCell (p := ⟨l, 2, none⟩) hB _).setCell (p := ⟨hb, k, none⟩) hBb _).setCell (p := ⟨l, 0, none⟩) hB _).alloc (by simp; omega) _).alloc (by simp; omega) _, ?_⟩
    exact (((((Quiet3.refl w).set H.out.own (.inl rfl) _).set (owns_block H.out.hdr).2.choose_spec (.inr (.inl rfl)) _).set H.out.own (.inl rfl) _).alloc _).alloc _

set_option maxHeartbeats 1000000 in
set_option maxRecDepth 100000 in
theorem pop_in (w : World) (B l : Nat) (bs : List (List Pk)) (pt cp : Nat → Nat) (hv : Value) (head n : Int) (h : LstAt w B l bs pt cp hv head n) (hl : bs.length ≤ 1048577)
    (k L : Nat) (hk : k + 1 = bs.length) (hL : (bs.getD k []).length = L + 1) (p : Pk) (hp : (bs.getD k [])[L]? = some p) (hL0 : 0 < L) (hn : 1 < n) (hn2 : n ≤ 9223372036854775807) :
    Calls Try.prog 34 #[.pointer (some ⟨l, 0, none⟩)] w fun e w' => e = .returned (.agg #[.int .u32 p.a, .int .u32 p.b, .int .u32 p.c, .int .u32 p.d, .int .u32 p.e]) ∧
      (∃ pt' cp' hv', LstAt w' B l (bs.set k ((bs.getD k []).take L)) pt' cp' hv' head (n - 1)) ∧ Fr B w w' := by
  obtain ⟨ha', hc, rfl⟩ := h.shape
  obtain ⟨hb, rfl, hBb, -, hlc, hcell, hfr⟩ := h.cells (i := k) (by omega)
  have hc0 : w.cell? ⟨l, 0, none⟩ = some (.slice (some ⟨hb, 0, none⟩) bs.length hc) := by simp [World.cell?, h.own]
  have hc1 : w.cell? ⟨l, 1, none⟩ = some (.int .i64 head) := by simp [World.cell?, h.own]
  have hc2 : w.cell? ⟨l, 2, none⟩ = some (.int .i64 n) := by simp [World.cell?, h.own]
  have hf0 : w.frozen? ⟨l, 0, none⟩ = false := by simp [World.frozen?, h.own]
  have hf1 : w.frozen? ⟨l, 1, none⟩ = false := by simp [World.frozen?, h.own]
  have hf2 : w.frozen? ⟨l, 2, none⟩ = false := by simp [World.frozen?, h.own]
  have hll : l < w.heap.size := lt_of_block h.own
  have hbl : hb < w.heap.size := World.block_lt_of_cell? _ _ hcell
  obtain ⟨cur2, hcur2⟩ := (owns_block h.hdr).2
  have hlb : l ≠ hb := ne_of_type h.own hcur2 (by decide)
  have hbl' : hb ≠ l := fun e => hlb e.symm
  have hkl : k < bs.length := by omega
  have hes : bs.getD k [] = bs[k] := by simp [List.getD, hkl]
  obtain ⟨hle1, hle2⟩ := h.le (i := k) hkl
  have h5 := h.in5 hkl
  rw [hes] at hL hp
  rw [hL] at hcell hle1
  obtain ⟨b', off', hbo, e1, e2, e3, e4, e5⟩ := h5.at (k := L) (by omega)
  simp only [Option.some.injEq, Addr.mk.injEq, and_true] at hbo
  obtain ⟨rfl, rfl⟩ := hbo
  have hpe : bs[k][L]'(by omega) = p := by rw [List.getElem?_eq_getElem (by omega)] at hp; simpa using hp
  have HES := hid hes
  have HL := hid hL
  have HP := hid hp
  rw [hpe] at e1 e2 e3 e4 e5
  simp only [Nat.zero_add] at e1 e2 e3 e4 e5
  have hpl : pt k < w.heap.size := World.block_lt_of_cell? _ _ e1
  clear hpe h5
  generalize bs[k] = es at *
  have HK := hid hk
  rw [← hk] at hc0 hl hlc
  have H := hid h
  clear h hes hL hp hkl hk hcur2
  have hn0 : (n - 1 == 0) = false := beq_eq_false_iff_ne.2 (by omega)
  have hL1 : ((L : Int) + 1 == 1) = false := beq_eq_false_iff_ne.2 (by omega)
  go_enter Try.func34, Try.ntmps34
  go_wp2
  have i0 : (0 : Int) ≤ (k : Int) := by omega
  have i1 : (k : Int) < (k : Int) + 1 := by omega
  have i2 : (0 : Int) ≤ (L : Int) := by omega
  have i3 : (L : Int) ≤ (cp k : Int) := by omega
  have i4 : ¬ cp k = 0 := by omega
  have i5 : ¬ (0 : Nat) = cp k := by omega
  have I6 := hid (wrap_small L (by omega))
  have i7 : L ≤ cp k := by omega
  obtain ⟨wx, hwx⟩ : ∃ wx, wx = ((w.setCell ⟨l, 2, none⟩ (.int .i64 (n - 1))).alloc (.cells #[.int .u32 0, .int .u32 0, .int .u32 0, .int .u32 0, .int .u32 0] 84)).alloc (.cells #[.int .u32 p.a, .int .u32 p.b, .int .u32 p.c, .int .u32 p.d, .int .u32 p.e] 84) := ⟨_, rfl⟩
  rw [← hwx]
  have gx : ∀ q v, w.cell? q = some v → q ≠ ⟨l, 2, none⟩ → wx.cell? q = some v := fun q v hq hne => by
    have hlt := World.block_lt_of_cell? _ _ hq
    rw [hwx, World.cell?_alloc_lt _ _ _ (by simp; omega), World.cell?_alloc_lt _ _ _ (by simp; omega), World.cell?_setCell_other _ _ _ _ (Ne.symm hne), hq]
  have x0 := gx _ _ hc0 (by simp)
  have xk := gx _ _ hcell (by intro e; simp only [Addr.mk.injEq] at e; omega)
  have xf : wx.frozen? ⟨hb, k, none⟩ = false := by rw [hwx, World.frozen?_alloc_old _ _ _ (by simp; omega), World.frozen?_alloc_old _ _ _ (by simp; omega), World.frozen?_setCell, hfr]
  have hblkN : wx.heap[w.heap.size]? = some (.cells #[.int .u32 0, .int .u32 0, .int .u32 0, .int .u32 0, .int .u32 0] 84 (0, 0)) := by
    rw [hwx, Below.heap_alloc _ _ _ (by simp)]
    have := heap_alloc_new (w.setCell ⟨l, 2, none⟩ (.int .i64 (n - 1))) (.cells #[.int .u32 0, .int .u32 0, .int .u32 0, .int .u32 0, .int .u32 0] 84)
    rwa [World.size_setCell] at this
  have hblkM : wx.heap[w.heap.size + 1]? = some (.cells #[.int .u32 p.a, .int .u32 p.b, .int .u32 p.c, .int .u32 p.d, .int .u32 p.e] 84 (0, 0)) := by
    rw [hwx]
    have := heap_alloc_new ((w.setCell ⟨l, 2, none⟩ (.int .i64 (n - 1))).alloc (.cells #[.int .u32 0, .int .u32 0, .int .u32 0, .int .u32 0, .int .u32 0] 84)) (.cells #[.int .u32 p.a, .int .u32 p.b, .int .u32 p.c, .int .u32 p.d, .int .u32 p.e] 84)
    rwa [World.size_alloc, World.size_setCell] at this
  have HB := hid (show (w.setCell ⟨l, 2, none⟩ (.int .i64 (n - 1))).grownBy wx.drew (some (pt k)) by rw [hwx]; exact grown_drew (grown_alloc (grown_alloc ⟨rfl, rfl, rfl, Nat.le_refl _, fun _ _ _ => rfl⟩ _) _))
  have HBN := hid hblkN
  have HWX := hid hwx
  have HRX := hid (show wx.ownsRow B 84 5 (.slice (some ⟨pt k, 0, none⟩) (L + 1) (cp k)) (L + 1) (flat es) by
    have hr := H.out.row k (by have := HK.out; omega)
    rw [HES.out, HL.out] at hr
    have h1 := (owns_block hr).2.choose_spec
    rw [hwx]
    exact ((ownsRow_setCell_other hr (by simpa [Value.ownBlock] using fun e => ne_of_type H.out.own h1 (by decide) e.symm) _).alloc _).alloc _)
  have n0 : wx.cell? ⟨w.heap.size, 0, none⟩ = some (.int .u32 0) := by simp [World.cell?, hblkN]
  have n1 : wx.cell? ⟨w.heap.size, 1, none⟩ = some (.int .u32 0) := by simp [World.cell?, hblkN]
  have n2 : wx.cell? ⟨w.heap.size, 2, none⟩ = some (.int .u32 0) := by simp [World.cell?, hblkN]
  have n3 : wx.cell? ⟨w.heap.size, 3, none⟩ = some (.int .u32 0) := by simp [World.cell?, hblkN]
  have n4 : wx.cell? ⟨w.heap.size, 4, none⟩ = some (.int .u32 0) := by simp [World.cell?, hblkN]
  have q0 : wx.frozen? ⟨w.heap.size, 0, none⟩ = false := by simp [World.frozen?, hblkN]
  have q1 : wx.frozen? ⟨w.heap.size, 1, none⟩ = false := by simp [World.frozen?, hblkN]
  have q2 : wx.frozen? ⟨w.heap.size, 2, none⟩ = false := by simp [World.frozen?, hblkN]
  have q3 : wx.frozen? ⟨w.heap.size, 3, none⟩ = false := by simp [World.frozen?, hblkN]
  have q4 : wx.frozen? ⟨w.heap.size, 4, none⟩ = false := by simp [World.frozen?, hblkN]
  have m0 : wx.cell? ⟨w.heap.size + 1, 0, none⟩ = some (.int .u32 p.a) := by simp [World.cell?, hblkM]
  have m1 : wx.cell? ⟨w.heap.size + 1, 1, none⟩ = some (.int .u32 p.b) := by simp [World.cell?, hblkM]
  have m2 : wx.cell? ⟨w.heap.size + 1, 2, none⟩ = some (.int .u32 p.c) := by simp [World.cell?, hblkM]
  have m3 : wx.cell? ⟨w.heap.size + 1, 3, none⟩ = some (.int .u32 p.d) := by simp [World.cell?, hblkM]
  have m4 : wx.cell? ⟨w.heap.size + 1, 4, none⟩ = some (.int .u32 p.e) := by simp [World.cell?, hblkM]
  have d1 : hb ≠ w.heap.size := by omega
  have d2 : hb ≠ w.heap.size + 1 := by omega
  have d3 : w.heap.size ≠ w.heap.size + 1 := by omega
  have d4 : w.heap.size ≠ hb := by omega
  have d5 : w.heap.size + 1 ≠ hb := by omega
  clear gx hwx hblkN hblkM hc0 hc1 hc2 hf0 hf1 hf2 hcell hfr e1 e2 e3 e4 e5
  generalize hN : w.heap.size = N at *
  have HN := hid hN
  clear hN
  obtain ⟨i6, i8⟩ := I6.out
  go_region_held3 (fun w' => w'.cell? ⟨l, 0, none⟩ = some (.slice (some ⟨hb, 0, none⟩) (k + 1) hc)) (go_keep) (fail)
  clear i6 i8
  go_wp2
  obtain ⟨w4, hw4⟩ : ∃ w4, w4 = wx.setCell ⟨hb, k, none⟩ (.slice (some ⟨pt k, 0, none⟩) L (cp k)) := ⟨_, rfl⟩
  rw [← hw4]
  obtain ⟨wf, hwf⟩ : ∃ wf, wf = ((((w4.setCell ⟨N, 0, none⟩ (.int .u32 p.a)).setCell ⟨N, 1, none⟩ (.int .u32 p.b)).setCell ⟨N, 2, none⟩ (.int .u32 p.c)).setCell ⟨N, 3, none⟩ (.int .u32 p.d)).setCell ⟨N, 4, none⟩ (.int .u32 p.e) := ⟨_, rfl⟩
  rw [← hwf]
  have hbf : wf.heap[N]? = some (.cells #[.int .u32 p.a, .int .u32 p.b, .int .u32 p.c, .int .u32 p.d, .int .u32 p.e] 84 (0, 0)) := by
    rw [hwf]; exact blk_set5 (by rw [hw4, Below.heap_setCell _ _ _ _ d4]; exact HBN.out)
  have z0 : wf.cell? ⟨N, 0, none⟩ = some (.int .u32 p.a) := by simp [World.cell?, hbf]
  have z1 : wf.cell? ⟨N, 1, none⟩ = some (.int .u32 p.b) := by simp [World.cell?, hbf]
  have z2 : wf.cell? ⟨N, 2, none⟩ = some (.int .u32 p.c) := by simp [World.cell?, hbf]
  have z3 : wf.cell? ⟨N, 3, none⟩ = some (.int .u32 p.d) := by simp [World.cell?, hbf]
  have z4 : wf.cell? ⟨N, 4, none⟩ = some (.int .u32 p.e) := by simp [World.cell?, hbf]
  refine bodyPost_ret (v := .agg #[.int .u32 p.a, .int .u32 p.b, .int .u32 p.c, .int .u32 p.d, .int .u32 p.e]) (by simp [results, Try.results34, go_sem, z0, z1, z2, z3, z4]) rfl ⟨rfl, ?_, ?_⟩
  · have hkb := HK.out
    have htk : es = es.take L ++ [p] := by
      have h1 := HP.out
      have h2 := HL.out
      obtain ⟨hlt, hpp⟩ := List.getElem?_eq_some_iff.1 h1
      rw [← hpp, ← List.take_succ_eq_append_getElem hlt, List.take_of_length_le (by omega)]
    have hlen : (es.take L).length = L := by rw [List.length_take]; have := HL.out; omega
    have hown : wx.ownsRow B 84 5 (.slice (some ⟨pt k, 0, none⟩) L (cp k)) L (flat (es.take L)) := by
      have hr := HRX.out
      rw [show flat es = flat (es.take L) ++ _ from by conv => lhs; rw [htk, flat_snoc]] at hr
      exact ownsRow_pop (by rw [flat_length, hlen]) hr
    have h1 := (owns_block (H.out.row k (by omega))).2.choose_spec
    have h2 := (owns_block H.out.hdr).2.choose_spec
    have hlst := lst_store (es := es.take L) (c := cp k) (k := k) ((lst_n H.out (n - 1)).but k) HB.out (fun j hj hne e => hne (H.out.inj j k hj (by omega) e)) (ne_of_type H.out.own h1 (by decide)) (ne_of_type h2 h1 (by decide))
      (by rw [hlen]; exact hown) hle2
    rw [hlen] at hlst
    have hlst' : LstAt w4.drew B l (bs.set k (es.take L)) (upd pt k (pt k)) (upd cp k (cp k)) (.slice (some ⟨hb, 0, none⟩) bs.length hc) head (n - 1) := by rw [hw4]; exact hlst
    have hbw : Below N w4 wf := by
      rw [hwf]
      exact (((((Below.refl N w4).setCell (Nat.le_refl _) _).setCell (Nat.le_refl _) _).setCell (Nat.le_refl _) _).setCell (Nat.le_refl _) _).setCell (Nat.le_refl _) _
    rw [HES.out]
    refine ⟨_, _, _, lst_keep (N := N) hlst' ⟨hbw.os, hbw.tape, hbw.output, hbw.size, hbw.block⟩ hll ?_ ?_⟩
    · intro g e
      simp only [Value.ownBlock, Option.some.injEq] at e
      omega
    · intro i hi
      rw [List.length_set] at hi
      have h3 := lt_of_block (owns_block (H.out.row i hi)).2.choose_spec
      have h4 := HN.out
      unfold upd
      split
      · omega
      · omega
  · have hB := H.out.hl
    have hNn := HN.out
    have b1 : Below B w wx := by
      rw [HWX.out]
      exact (((Below.refl B w).setCell (p := ⟨l, 2, none⟩) hB _).alloc (by simp; omega) _).alloc (by simp; omega) _
    have b2 : Below B w wf := by
      rw [hwf, hw4]
      exact (((((b1.setCell (p := ⟨hb, k, none⟩) hBb _).setCell (by simp; omega) _).setCell (by simp; omega) _).setCell (by simp; omega) _).setCell (by simp; omega) _).setCell (by simp; omega) _
    refine ⟨b2.drew, ?_⟩
    have q1 : Quiet3 w wx := by
      rw [HWX.out]
      exact (((Quiet3.refl w).set H.out.own (.inl rfl) _).alloc _).alloc _
    rw [hwf, hw4]
    exact ((((((q1.set (owns_block H.out.hdr).2.choose_spec (.inr (.inl rfl)) _).setNew (by omega) _).setNew (by omega) _).setNew (by omega) _).setNew (by omega) _).setNew (by omega) _).drew
end Go.Proofs.Qxb6602566a
