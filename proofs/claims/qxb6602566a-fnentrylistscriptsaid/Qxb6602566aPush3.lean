import Derived.Test.Qxb6602566aPush2
namespace Go.Proofs.Qxb6602566a
open Go.RowKit
set_option linter.unusedVariables false

theorem ownBlock_len (a : Option Addr) (n c m : Nat) : (Value.slice a n c).ownBlock = (Value.slice a m c).ownBlock := by cases a <;> rfl

theorem hdr_row {w : World} {B l : Nat} {bs : List (List Pk)} {pt cp : Nat → Nat} {hv : Value} {head n : Int} (h : LstAt w B l bs pt cp hv head n) : ∀ g, hv.ownBlock = some g → B ≤ g ∧ g < w.heap.size ∧ l ≠ g := by
  intro g e
  have hh := h.hdr
  obtain ⟨ha, hc, hv'⟩ := h.shape
  rw [hv'] at hh e
  obtain ⟨_, h2⟩ := hh
  rcases h2 with ⟨h0, _⟩ | ⟨g', _, cur, hv2, hB, hg2, _⟩
  · simp only [Value.slice.injEq] at h0
    rw [h0.1] at e
    simp [Value.ownBlock] at e
  · simp only [Value.slice.injEq] at hv2
    rw [hv2.1] at e
    simp only [Value.ownBlock, Option.some.injEq] at e
    subst e
    exact ⟨hB, lt_of_block hg2, ne_of_type h.own hg2 (by decide)⟩

theorem own_kept {w : World} {B l : Nat} {bs : List (List Pk)} {pt cp : Nat → Nat} {hv : Value} {head n : Int} (h : LstAt w B l bs pt cp hv head n) {o1 o2 : Obj} {w1 : World} (hg : ((w.alloc o1).alloc o2).grownBy w1 hv.ownBlock) :
    w1.heap[l]? = some (.cells #[hv, .int .i64 head, .int .i64 n] 79 (0, 0)) := by
  have hl := lt_of_block h.own
  rw [hg.block l (by simp; omega) (fun e => (hdr_row h l e.symm).2.2 rfl), Below.heap_alloc _ _ _ (by simp; omega), Below.heap_alloc _ _ _ hl, h.own]

theorem hdr_80 {w : World} {B l : Nat} {bs : List (List Pk)} {pt cp : Nat → Nat} {hv : Value} {head n : Int} (h : LstAt w B l bs pt cp hv head n) : ∀ g, hv.ownBlock = some g → ∃ c, w.heap[g]? = some (.cells c 80 (0, 0)) := by
  intro g e
  have hh := h.hdr
  obtain ⟨ha, hc, hv'⟩ := h.shape
  rw [hv'] at hh e
  obtain ⟨_, h2⟩ := hh
  rcases h2 with ⟨h0, _⟩ | ⟨g', _, cur, hv2, hB, hg2, _⟩
  · simp only [Value.slice.injEq] at h0
    rw [h0.1] at e
    simp [Value.ownBlock] at e
  · simp only [Value.slice.injEq] at hv2
    rw [hv2.1] at e
    simp only [Value.ownBlock, Option.some.injEq] at e
    subst e
    exact ⟨_, hg2⟩

/-- What the walk reads behind the header's append. -/
theorem after_hdr {w w1 : World} {l N len g c : Nat} {o1 : Obj} {b0 b1 b2 b3 b4 v0 v2 : Value} {row : Option Nat} {B : Nat} {xs : List Value} (hN : w.heap.size = N)
    (hg : ((w.alloc (.cells #[b0, b1, b2, b3, b4] 87)).alloc o1).grownBy w1 row) (hrow : ∀ g, row = some g → g < N ∧ l ≠ g) (hl : l < N)
    (x0 : w.cell? ⟨l, 0, none⟩ = some v0) (x2 : w.cell? ⟨l, 2, none⟩ = some v2) (f0 : w.frozen? ⟨l, 0, none⟩ = false) (f2 : w.frozen? ⟨l, 2, none⟩ = false)
    (hown : w1.ownsRow B 80 1 (.slice (some ⟨g, 0, none⟩) (len + 1) c) (len + 1) (xs ++ [.slice none 0 0])) (hxs : xs.length = len) :
    (w1.cell? ⟨l, 0, none⟩ = some v0 ∧ w1.cell? ⟨l, 2, none⟩ = some v2 ∧ w1.frozen? ⟨l, 0, none⟩ = false ∧ w1.frozen? ⟨l, 2, none⟩ = false) ∧
    (w1.cell? ⟨N, 0, none⟩ = some b0 ∧ w1.cell? ⟨N, 1, none⟩ = some b1 ∧ w1.cell? ⟨N, 2, none⟩ = some b2 ∧ w1.cell? ⟨N, 3, none⟩ = some b3 ∧ w1.cell? ⟨N, 4, none⟩ = some b4) ∧
    (w1.cell? ⟨g, len, none⟩ = some (.slice none 0 0) ∧ w1.frozen? ⟨g, len, none⟩ = false ∧ g < w1.heap.size) ∧ N + 2 ≤ w1.heap.size ∧ N ≠ g := by
  have hc : ∀ p : Addr, p.block < N + 2 → (∀ g, row = some g → p.block ≠ g) → w1.heap[p.block]? = ((w.alloc (.cells #[b0, b1, b2, b3, b4] 87)).alloc o1).heap[p.block]? := fun p hp hne =>
    hg.block _ (by simp; omega) (fun e => hne _ e.symm rfl)
  have hlr : ∀ j, w1.cell? ⟨l, j, none⟩ = w.cell? ⟨l, j, none⟩ ∧ w1.frozen? ⟨l, j, none⟩ = w.frozen? ⟨l, j, none⟩ := fun j => by
    have hb := hc ⟨l, j, none⟩ (by simp; omega) (fun g e => by simpa using (hrow g e).2)
    rw [World.cell?_of_block hb, World.frozen?_of_block hb, World.cell?_alloc_lt _ _ _ (by simp; omega), World.cell?_alloc_lt _ _ _ (by simp; omega), World.frozen?_alloc_old _ _ _ (by simp; omega), World.frozen?_alloc_old _ _ _ (by simp; omega)]
    exact ⟨rfl, rfl⟩
  have hbr : ∀ j, w1.cell? ⟨N, j, none⟩ = (#[b0, b1, b2, b3, b4])[j]? := fun j => by
    have hb := hc ⟨N, j, none⟩ (by simp) (fun g e => by have := (hrow g e).1; simp; omega)
    rw [World.cell?_of_block hb, World.cell?_alloc_lt _ _ _ (by simp; omega), ← hN, World.cell?_alloc_new]
  obtain ⟨cur, hcur⟩ := (owns_block hown).2
  refine ⟨⟨by rw [(hlr 0).1, x0], by rw [(hlr 2).1, x2], by rw [(hlr 0).2, f0], by rw [(hlr 2).2, f2]⟩, ⟨hbr 0, hbr 1, hbr 2, hbr 3, hbr 4⟩, ⟨?_, hown.frozenAt len, lt_of_block hcur⟩, ?_, ?_⟩
  · rw [hown.cellAt len (by omega), List.getElem?_append_right (by omega), hxs]; simp
  · have := hg.size
    simp at this
    omega
  · rintro rfl
    have hb := hc ⟨N, 0, none⟩ (by simp) (fun g e => by have := (hrow g e).1; simp; omega)
    simp only at hb
    rw [hcur, Below.heap_alloc _ _ _ (by simp; omega), ← hN, heap_alloc_new] at hb
    simp at hb

theorem owns_shape {w : World} {B : Nat} {e : TypeId} {size : Nat} {v : Value} {n : Nat} {xs : List Value} (h : w.ownsRow B e size v n xs) (hn : 0 < n) : ∃ g c, v = .slice (some ⟨g, 0, none⟩) n c ∧ n ≤ c := by
  obtain ⟨_, h2⟩ := h
  rcases h2 with ⟨_, h0⟩ | ⟨g, c, cur, hv, _, _, hc, _⟩
  · omega
  · exact ⟨g, c, hv, hc⟩

/-- The header has grown by a cell that holds nil: row 'bs.length' is open. -/
theorem lst_app {w w1 : World} {B l : Nat} {bs : List (List Pk)} {pt cp : Nat → Nat} {hv v : Value} {head n : Int} (h : LstAt w B l bs pt cp hv head n) (hg : w.grownBy w1 hv.ownBlock)
    (hown : w1.ownsRow B 80 1 v (bs.length + 1) (((List.range bs.length).map fun i => Value.slice (some ⟨pt i, 0, none⟩) (bs.getD i []).length (cp i)) ++ [.slice none 0 0])) :
    LstBut (w1.setCell ⟨l, 0, none⟩ v) B l (bs ++ [[]]) pt cp v head n bs.length (.slice none 0 0) := by
  have hoth : ∀ (b : Nat) (c : Array Value) (e : TypeId), w.heap[b]? = some (.cells c e (0, 0)) → e ≠ 80 → w1.heap[b]? = some (.cells c e (0, 0)) := by
    intro b c e hb he
    rw [hg.block b (lt_of_block hb) ?_, hb]
    intro e2
    have hh := h.hdr
    obtain ⟨ha, hc, hv'⟩ := h.shape
    rw [hv'] at hh e2
    obtain ⟨_, h2⟩ := hh
    rcases h2 with ⟨h0, _⟩ | ⟨g, _, cur, hv2, _, hg2, _⟩
    · simp only [Value.slice.injEq] at h0
      rw [h0.1] at e2
      simp [Value.ownBlock] at e2
    · simp only [Value.slice.injEq] at hv2
      rw [hv2.1] at e2
      simp only [Value.ownBlock, Option.some.injEq] at e2
      exact ne_of_type hb hg2 he e2
  have hget : ∀ i, i < bs.length → (bs ++ [[]]).getD i [] = bs.getD i [] := by
    intro i hi
    simp [List.getD, List.getElem?_append_left hi]
  have hlen : (bs ++ [[]]).length = bs.length + 1 := by simp
  have hl1 := hoth l _ _ h.own (by decide)
  have hsh := owns_shape hown (by omega)
  obtain ⟨g, c, hvs, hgc⟩ := hsh
  have hgl : v.ownBlock ≠ some l := by
    rw [hvs] at hown ⊢
    obtain ⟨cur, hcur⟩ := (owns_block hown).2
    simp only [Value.ownBlock, ne_eq, Option.some.injEq]
    exact fun e => ne_of_type hl1 hcur (by decide) e.symm
  refine ⟨h.hl, ?_, ?_, ?_, ?_, ?_⟩
  · simp [World.setCell, Array.getElem?_modify, hl1]
  · rw [hlen]
    refine ownsRow_setCell_other ?_ hgl _
    rw [List.range_succ, List.map_append]
    rw [List.map_congr_left (g := fun i => Value.slice (some ⟨pt i, 0, none⟩) (bs.getD i []).length (cp i)) (fun i hi => by
      have hi' := List.mem_range.1 hi
      rw [if_neg (by omega), hget i hi'])]
    simpa using hown
  · intro i hi hne
    rw [hlen] at hi
    rw [hget i (by omega)]
    have hr := h.row i (by omega)
    obtain ⟨cur, hcur⟩ := (owns_block hr).2
    refine ownsRow_setCell_other ?_ (by simpa [Value.ownBlock] using fun e => ne_of_type h.own hcur (by decide) e.symm) _
    obtain ⟨r1, r2⟩ := hr
    refine ⟨r1, ?_⟩
    rcases r2 with r2 | ⟨g2, cap2, cur2, hv2, hB2, hh2, r⟩
    · exact .inl r2
    · exact .inr ⟨g2, cap2, cur2, hv2, hB2, hoth g2 _ _ hh2 (by decide), r⟩
  · intro i j hi hj h1 h2
    rw [hlen] at hi hj
    exact h.inj i j (by omega) (by omega)
  · intro i hi h1
    rw [hlen] at hi
    exact h.cap i (by omega)


set_option maxHeartbeats 1000000 in
set_option maxRecDepth 100000 in
theorem push_next (w : World) (B l : Nat) (bs : List (List Pk)) (pt cp : Nat → Nat) (hv : Value) (head n : Int) (h : LstAt w B l bs pt cp hv head n) (hl : bs.length ≤ 1048577) (hn : -9223372036854775808 ≤ n ∧ n < 9223372036854775807)
    (k : Nat) (hk : k + 1 = bs.length) (hfull : (bs.getD k []).length = 4096) (s o i att due : Int) (ha : 0 ≤ att ∧ att < 65536) (hd : -9223372036854775808 ≤ due ∧ due ≤ 9223372036854775807) :
    Calls Try.prog 33 #[.pointer (some ⟨l, 0, none⟩), .agg #[.int .u32 s, .int .u32 o, .int .u32 i, .int .u16 att, .int .i64 due]] w fun e w' => e = .returned (.tuple #[]) ∧
      (∃ pt' cp' hv', LstAt w' B l (bs ++ [[packOf s o i att due]]) pt' cp' hv' head (n + 1)) ∧ Fr B w w' := by
  obtain ⟨ha', hc, rfl⟩ := h.shape
  obtain ⟨hb, rfl, hBb, -, hlc, hcell, hfr⟩ := h.cells (i := k) (by omega)
  have hc0 : w.cell? ⟨l, 0, none⟩ = some (.slice (some ⟨hb, 0, none⟩) bs.length hc) := by simp [World.cell?, h.own]
  have hbl : hb < w.heap.size := World.block_lt_of_cell? _ _ hcell
  have hkl : k < bs.length := by omega
  have hes : bs.getD k [] = bs[k] := by simp [List.getD, hkl]
  rw [← hes, hfull] at hcell
  have HK := hid hk
  rw [← hk] at hc0 hl hlc
  have HLEN := hid hk
  clear hes hfull hfr hkl hk
  have hc2 : w.cell? ⟨l, 2, none⟩ = some (.int .i64 n) := by simp [World.cell?, h.own]
  have hf0 : w.frozen? ⟨l, 0, none⟩ = false := by simp [World.frozen?, h.own]
  have hf2 : w.frozen? ⟨l, 2, none⟩ = false := by simp [World.frozen?, h.own]
  have hll : l < w.heap.size := lt_of_block h.own
  have H := hid h
  have hdr := h.hdr
  rw [← HLEN.out] at hdr
  obtain ⟨xs, hxs⟩ : ∃ xs, xs = (List.range (k + 1)).map fun i => Value.slice (some ⟨pt i, 0, none⟩) (bs.getD i []).length (cp i) := ⟨_, rfl⟩
  rw [← hxs] at hdr
  have HD := hid hdr
  have HXS := hid hxs
  have HXL := hid (show xs.length = (k + 1) by rw [hxs]; simp)
  have HROW := hid (hdr_row h)
  clear hdr hxs
  have hBl := h.hl
  obtain ⟨i84, hi, hz0, hz1, hz2⟩ := info_parts info84
  obtain ⟨i80, hi', hy0, hy1, hy2⟩ := info_parts info80
  have hmk : ∀ w, Sem.run Try.prog (Instr.makeSlice 80 (.int .i64 0) (.int .i64 4)) w = .ok (.slice (some ⟨w.heap.size, 0, none⟩) 0 4) (w.alloc (.cells (madeCells #[.int .u32 0, .int .u32 0, .int .u32 0, .int .u32 0, .int .u32 0] (4 * 5)) 84)) :=
    mk_run (P := Try.prog) 80 84 _ 5 20 Try.underlying80 info84 0 4 (by omega) (by omega) (by omega)
  have hcp : ∀ (w : World) (a : Addr), Sem.run Try.prog (Builtin.copy_ #[80, 80] 3 #[.slice (some a) 0 4, .slice none 0 0]) w = .ok (goInt 0) w := fun w a => run_copy_nil (P := Try.prog) w 80 80 3 84 a 0 4 Try.underlying80 (by kernel_rfl)
  clear h
  go_enter Try.func33, Try.ntmps33
  go_wp2_with (at_builtin; go_loud (refine wpList_append_own _ rfl _ _ 77 rfl B 80 i80 (.slice none 0 0) 1 24 Try.underlying77 hi' hy0 hy1 hy2 rfl (by decide) _ _ _ rfl ((HD.out.alloc _).alloc _) ⟨w.heap.size + 1, 0, none⟩ 1 1 [.slice none 0 0] rfl rfl ?c1 ?c2 ?c3 ?c4 ?c5 ?_))
  case c1 =>
    intro j u hj
    match j, hj with
    | 0, hj =>
      simp at hj
      subst hj
      have hnew := World.cell?_alloc_new (w.alloc (.cells #[.int .u32 s, .int .u32 o, .int .u32 i, .int .u16 att, .int .i64 due] 87)) #[.slice none 0 0] 80 0
      rw [World.size_alloc] at hnew
      exact hnew
  case c2 => intro u hu; simp at hu; subst hu; rfl
  case c3 => unfold maxLen; omega
  case c4 => omega
  case c5 => simp; omega
  intro v' w1 hown1 hgrow1 hnn
  clear hnn
  rw [ownBlock_len _ _ _ bs.length] at hgrow1
  obtain ⟨g, c, hv', hgc⟩ := owns_shape hown1 (by omega)
  rw [hv']
  rw [hv'] at hown1
  obtain ⟨⟨a0, a2, af0, af2⟩, ⟨y0, y1, y2, y3, y4⟩, ⟨xk, xf, hglt⟩, hsz1, hNg⟩ := after_hdr rfl hgrow1 (fun g e => (HROW.out g e).2) hll hc0 hc2 hf0 hf2 hown1 HXL.out
  have hlg : l ≠ g := ne_of_type (own_kept H.out hgrow1) (owns_block hown1).2.choose_spec (by decide)
  have hgl : g ≠ l := fun e => hlg e.symm
  have HO1 := hid hown1
  have HG1 := hid hgrow1
  clear hown1 hgrow1 hv' hc0 hc2 hf0 hf2
  go_wp2
  obtain ⟨wx, hwx⟩ : ∃ wx, wx = (w1.setCell ⟨l, 0, none⟩ (.slice (some ⟨g, 0, none⟩) (k + 1 + 1) c)).alloc (.cells (madeCells #[.int .u32 0, .int .u32 0, .int .u32 0, .int .u32 0, .int .u32 0] 20) 84) := ⟨_, rfl⟩
  have hl1 : l < w1.heap.size := World.block_lt_of_cell? _ _ a0
  have hN1 : w.heap.size < w1.heap.size := by omega
  have gx : ∀ p v, w1.cell? p = some v → p ≠ ⟨l, 0, none⟩ → wx.cell? p = some v := fun p v hp hne => by
    have hlt := World.block_lt_of_cell? _ _ hp
    rw [hwx, World.cell?_alloc_lt _ _ _ (by simp; omega), World.cell?_setCell_other _ _ _ _ (Ne.symm hne), hp]
  have gf : ∀ p : Addr, p.block < w1.heap.size → wx.frozen? p = w1.frozen? p := fun p hlt => by
    rw [hwx, World.frozen?_alloc_old _ _ _ (by simp; omega), World.frozen?_setCell]
  have x0 : wx.cell? ⟨l, 0, none⟩ = some (.slice (some ⟨g, 0, none⟩) (k + 1 + 1) c) := by
    rw [hwx, World.cell?_alloc_lt _ _ _ (by simp; omega), World.cell?_setCell_same _ _ _ a0]
  have x2 := gx _ _ a2 (by simp)
  have y0 := gx _ _ y0 (by intro e; simp only [Addr.mk.injEq] at e; omega)
  have y1 := gx _ _ y1 (by simp)
  have y2 := gx _ _ y2 (by simp)
  have y3 := gx _ _ y3 (by simp)
  have y4 := gx _ _ y4 (by simp)
  have xk := gx _ _ xk (by intro e; simp only [Addr.mk.injEq] at e; omega)
  have xf : wx.frozen? ⟨g, (k + 1), none⟩ = false := (gf ⟨g, (k + 1), none⟩ hglt).trans xf
  have xf2 : wx.frozen? ⟨l, 2, none⟩ = false := (gf ⟨l, 2, none⟩ hl1).trans af2
  have HX := hid (show wx.ownsRow B 84 5 (.slice (some ⟨w1.heap.size, 0, none⟩) 0 4) 0 (flat []) by
    have hm := row_made5 (w1.setCell ⟨l, 0, none⟩ (.slice (some ⟨g, 0, none⟩) (k + 1 + 1) c)) 4 84
    rw [World.size_setCell] at hm
    rw [hwx]
    exact owns_of_row (n := 0) hm (by omega) (by omega) (by unfold maxLen; omega))
  have HWX := hid hwx
  rw [← hwx]
  clear gx gf hwx a0 a2 af0 af2 hmk hcp
  have hlp : l ≠ w1.heap.size := by omega
  have hbp : g ≠ w1.heap.size := by omega
  have hNp : w.heap.size ≠ w1.heap.size := by omega
  have hbN : g ≠ w.heap.size := fun e => hNg e.symm
  have hix1 : (0 : Int) ≤ (k : Int) + 1 := by omega
  have hix2 : (k : Int) + 1 < (k : Int) + 1 + 1 := by omega
  generalize hN : w.heap.size = N at *
  have HN := hid hN
  generalize hM : w1.heap.size = M at *
  have HM := hid hM
  clear hN hM
  go_region_held3 (fun w' => w'.cell? ⟨l, 0, none⟩ = some (.slice (some ⟨g, 0, none⟩) (k + 1 + 1) c) ∧ w'.cell? ⟨N, 0, none⟩ = some (.int .u32 s) ∧ w'.cell? ⟨N, 1, none⟩ = some (.int .u32 o) ∧ w'.cell? ⟨N, 2, none⟩ = some (.int .u32 i) ∧ w'.cell? ⟨N, 3, none⟩ = some (.int .u16 att) ∧ w'.cell? ⟨N, 4, none⟩ = some (.int .i64 due)) (go_keep)
    (first
      | (go_at_call 35
         refine (pack_any _ s o i att due ha hd).mono ?_
         rintro e w2 ⟨rfl, hb2⟩
         obtain ⟨z0, z2, t0, t1, t2, t3, t4, zk, zf, zf2, HX2, hsz2⟩ := after_call hb2 x0 x2 y0 y1 y2 y3 y4 xk xf xf2 HX.out)
      | (refine step_append_fits rfl _ _ 80 rfl B 84 i84 5 Try.underlying80 hi hz1 (M) 0 4 (flat []) rfl (HX2.out.alloc _) ⟨w2.heap.size, 0, none⟩ 1 1 _ rfl rfl (news5 (p := packOf s o i att due) (heap_alloc_new _ _)) (one5 (packOf s o i att due)) (by omega) ?_
         intro w3 hown3 hgrow3
         obtain ⟨z0', z2', t0', t1', t2', t3', t4', zk', zf', zf2', hl3⟩ := after_append hgrow3 hsz2 z0 z2 t0 t1 t2 t3 t4 zk zf zf2 hlp hNp hbp))
  go_wp2
  go_end0
  have hgw1 : (w1.setCell ⟨l, 0, none⟩ (.slice (some ⟨g, 0, none⟩) (k + 1 + 1) c)).grownBy w3 (some M) := grown_trans (grown_alloc (grown_trans (b := wx.drew) (by rw [HWX.out]; exact grown_drew (grown_alloc ⟨rfl, rfl, rfl, Nat.le_refl _, fun _ _ _ => rfl⟩ _)) (grown_of_below hb2)) _) hgrow3
  have hgw0 : w.grownBy w1 (Value.slice (some ⟨hb, 0, none⟩) bs.length hc).ownBlock := grown_trans (grown_alloc (grown_alloc ⟨rfl, rfl, rfl, Nat.le_refl _, fun _ _ _ => rfl⟩ _) _) HG1.out
  have happ := lst_app (v := .slice (some ⟨g, 0, none⟩) (k + 1 + 1) c) H.out hgw0 (by have := HO1.out; rw [HXS.out] at this; rw [← HLEN.out]; exact this)
  have hgt : ∀ j, j < (bs ++ [[]]).length → j ≠ bs.length → pt j ≠ M := fun j hj hne => by
    have h1 := lt_of_block (owns_block (happ.row j hj hne)).2.choose_spec
    rw [World.size_setCell, HM.out] at h1
    omega
  have hst := lst_n (lst_store (es := [packOf s o i att due]) (c := 4) happ hgw1 hgt hlp hbp (by exact hown3) (by omega)) (n + 1)
  have hset : (bs ++ [[]]).set bs.length [packOf s o i att due] = bs ++ [[packOf s o i att due]] := by simp
  rw [hset, ← HLEN.out] at hst
  refine ⟨rfl, ⟨_, _, _, hst⟩, ?_⟩
  have hB0 : B ≤ w.heap.size := by have := HN.out; omega
  have hBg : B ≤ g := (owns_block HO1.out).1
  have b1 : Below B w w1 := (Below.refl B w).grown hgw0 hB0 (fun j e => (HROW.out j e).1)
  have b3 : Below B w w3 := (b1.setCell (p := ⟨l, 0, none⟩) hBl _).grown hgw1 (by rw [World.size_setCell]; have := b1.size; omega) (by rintro j e; simp at e; omega)
  exact ⟨(b3.setCell (p := ⟨g, k + 1, none⟩) hBg _).setCell (p := ⟨l, 2, none⟩) hBl _, keep_app hgw0 (hdr_80 H.out) ⟨_, H.out.own⟩ hgw1 (by have := HN.out; omega) (owns_block HO1.out).2⟩

set_option maxHeartbeats 1000000 in
set_option maxRecDepth 100000 in
theorem push_first (w : World) (B l : Nat) (bs : List (List Pk)) (pt cp : Nat → Nat) (hv : Value) (head n : Int) (h : LstAt w B l bs pt cp hv head n) (hl : bs.length ≤ 1048577) (hn : -9223372036854775808 ≤ n ∧ n < 9223372036854775807)
    (hnil : bs = []) (s o i att due : Int) (ha : 0 ≤ att ∧ att < 65536) (hd : -9223372036854775808 ≤ due ∧ due ≤ 9223372036854775807) :
    Calls Try.prog 33 #[.pointer (some ⟨l, 0, none⟩), .agg #[.int .u32 s, .int .u32 o, .int .u32 i, .int .u16 att, .int .i64 due]] w fun e w' => e = .returned (.tuple #[]) ∧
      (∃ pt' cp' hv', LstAt w' B l (bs ++ [[packOf s o i att due]]) pt' cp' hv' head (n + 1)) ∧ Fr B w w' := by
  obtain ⟨ha', hc, rfl⟩ := h.shape
  have hk : 0 = bs.length := by rw [hnil]; rfl
  have hc0 : w.cell? ⟨l, 0, none⟩ = some (.slice ha' bs.length hc) := by simp [World.cell?, h.own]
  rw [← hk] at hc0 hl
  have HLEN := hid hk
  clear hk hnil
  have hc2 : w.cell? ⟨l, 2, none⟩ = some (.int .i64 n) := by simp [World.cell?, h.own]
  have hf0 : w.frozen? ⟨l, 0, none⟩ = false := by simp [World.frozen?, h.own]
  have hf2 : w.frozen? ⟨l, 2, none⟩ = false := by simp [World.frozen?, h.own]
  have hll : l < w.heap.size := lt_of_block h.own
  have H := hid h
  have hdr := h.hdr
  rw [← HLEN.out] at hdr
  obtain ⟨xs, hxs⟩ : ∃ xs, xs = (List.range 0).map fun i => Value.slice (some ⟨pt i, 0, none⟩) (bs.getD i []).length (cp i) := ⟨_, rfl⟩
  rw [← hxs] at hdr
  have HD := hid hdr
  have HXS := hid hxs
  have HXL := hid (show xs.length = 0 by rw [hxs]; simp)
  have HROW := hid (hdr_row h)
  clear hdr hxs
  have hBl := h.hl
  obtain ⟨i84, hi, hz0, hz1, hz2⟩ := info_parts info84
  obtain ⟨i80, hi', hy0, hy1, hy2⟩ := info_parts info80
  have hmk : ∀ w, Sem.run Try.prog (Instr.makeSlice 80 (.int .i64 0) (.int .i64 4)) w = .ok (.slice (some ⟨w.heap.size, 0, none⟩) 0 4) (w.alloc (.cells (madeCells #[.int .u32 0, .int .u32 0, .int .u32 0, .int .u32 0, .int .u32 0] (4 * 5)) 84)) :=
    mk_run (P := Try.prog) 80 84 _ 5 20 Try.underlying80 info84 0 4 (by omega) (by omega) (by omega)
  have hcp : ∀ (w : World) (a : Addr), Sem.run Try.prog (Builtin.copy_ #[80, 80] 3 #[.slice (some a) 0 4, .slice none 0 0]) w = .ok (goInt 0) w := fun w a => run_copy_nil (P := Try.prog) w 80 80 3 84 a 0 4 Try.underlying80 (by kernel_rfl)
  clear h
  go_enter Try.func33, Try.ntmps33
  go_wp2_with (at_builtin; go_loud (refine wpList_append_own _ rfl _ _ 77 rfl B 80 i80 (.slice none 0 0) 1 24 Try.underlying77 hi' hy0 hy1 hy2 rfl (by decide) _ _ _ rfl ((HD.out.alloc _).alloc _) ⟨w.heap.size + 1, 0, none⟩ 1 1 [.slice none 0 0] rfl rfl ?c1 ?c2 ?c3 ?c4 ?c5 ?_))
  case c1 =>
    intro j u hj
    match j, hj with
    | 0, hj =>
      simp at hj
      subst hj
      have hnew := World.cell?_alloc_new (w.alloc (.cells #[.int .u32 s, .int .u32 o, .int .u32 i, .int .u16 att, .int .i64 due] 87)) #[.slice none 0 0] 80 0
      rw [World.size_alloc] at hnew
      exact hnew
  case c2 => intro u hu; simp at hu; subst hu; rfl
  case c3 => unfold maxLen; omega
  case c4 => omega
  case c5 => simp; omega
  intro v' w1 hown1 hgrow1 hnn
  clear hnn
  rw [ownBlock_len _ _ _ bs.length] at hgrow1
  obtain ⟨g, c, hv', hgc⟩ := owns_shape hown1 (by omega)
  rw [hv']
  rw [hv'] at hown1
  obtain ⟨⟨a0, a2, af0, af2⟩, ⟨y0, y1, y2, y3, y4⟩, ⟨xk, xf, hglt⟩, hsz1, hNg⟩ := after_hdr rfl hgrow1 (fun g e => (HROW.out g e).2) hll hc0 hc2 hf0 hf2 hown1 HXL.out
  have hlg : l ≠ g := ne_of_type (own_kept H.out hgrow1) (owns_block hown1).2.choose_spec (by decide)
  have hgl : g ≠ l := fun e => hlg e.symm
  have HO1 := hid hown1
  have HG1 := hid hgrow1
  clear hown1 hgrow1 hv' hc0 hc2 hf0 hf2
  go_wp2
  obtain ⟨wx, hwx⟩ : ∃ wx, wx = (w1.setCell ⟨l, 0, none⟩ (.slice (some ⟨g, 0, none⟩) 1 c)).alloc (.cells (madeCells #[.int .u32 0, .int .u32 0, .int .u32 0, .int .u32 0, .int .u32 0] 20) 84) := ⟨_, rfl⟩
  have hl1 : l < w1.heap.size := World.block_lt_of_cell? _ _ a0
  have hN1 : w.heap.size < w1.heap.size := by omega
  have gx : ∀ p v, w1.cell? p = some v → p ≠ ⟨l, 0, none⟩ → wx.cell? p = some v := fun p v hp hne => by
    have hlt := World.block_lt_of_cell? _ _ hp
    rw [hwx, World.cell?_alloc_lt _ _ _ (by simp; omega), World.cell?_setCell_other _ _ _ _ (Ne.symm hne), hp]
  have gf : ∀ p : Addr, p.block < w1.heap.size → wx.frozen? p = w1.frozen? p := fun p hlt => by
    rw [hwx, World.frozen?_alloc_old _ _ _ (by simp; omega), World.frozen?_setCell]
  have x0 : wx.cell? ⟨l, 0, none⟩ = some (.slice (some ⟨g, 0, none⟩) 1 c) := by
    rw [hwx, World.cell?_alloc_lt _ _ _ (by simp; omega), World.cell?_setCell_same _ _ _ a0]
  have x2 := gx _ _ a2 (by simp)
  have y0 := gx _ _ y0 (by intro e; simp only [Addr.mk.injEq] at e; omega)
  have y1 := gx _ _ y1 (by simp)
  have y2 := gx _ _ y2 (by simp)
  have y3 := gx _ _ y3 (by simp)
  have y4 := gx _ _ y4 (by simp)
  have xk := gx _ _ xk (by intro e; simp only [Addr.mk.injEq] at e; omega)
  have xf : wx.frozen? ⟨g, 0, none⟩ = false := (gf ⟨g, 0, none⟩ hglt).trans xf
  have xf2 : wx.frozen? ⟨l, 2, none⟩ = false := (gf ⟨l, 2, none⟩ hl1).trans af2
  have HX := hid (show wx.ownsRow B 84 5 (.slice (some ⟨w1.heap.size, 0, none⟩) 0 4) 0 (flat []) by
    have hm := row_made5 (w1.setCell ⟨l, 0, none⟩ (.slice (some ⟨g, 0, none⟩) 1 c)) 4 84
    rw [World.size_setCell] at hm
    rw [hwx]
    exact owns_of_row (n := 0) hm (by omega) (by omega) (by unfold maxLen; omega))
  have HWX := hid hwx
  rw [← hwx]
  clear gx gf hwx a0 a2 af0 af2 hmk hcp
  have hlp : l ≠ w1.heap.size := by omega
  have hbp : g ≠ w1.heap.size := by omega
  have hNp : w.heap.size ≠ w1.heap.size := by omega
  have hbN : g ≠ w.heap.size := fun e => hNg e.symm
  generalize hN : w.heap.size = N at *
  have HN := hid hN
  generalize hM : w1.heap.size = M at *
  have HM := hid hM
  clear hN hM
  go_region_held3 (fun w' => w'.cell? ⟨l, 0, none⟩ = some (.slice (some ⟨g, 0, none⟩) 1 c) ∧ w'.cell? ⟨N, 0, none⟩ = some (.int .u32 s) ∧ w'.cell? ⟨N, 1, none⟩ = some (.int .u32 o) ∧ w'.cell? ⟨N, 2, none⟩ = some (.int .u32 i) ∧ w'.cell? ⟨N, 3, none⟩ = some (.int .u16 att) ∧ w'.cell? ⟨N, 4, none⟩ = some (.int .i64 due)) (go_keep)
    (first
      | (go_at_call 35
         refine (pack_any _ s o i att due ha hd).mono ?_
         rintro e w2 ⟨rfl, hb2⟩
         obtain ⟨z0, z2, t0, t1, t2, t3, t4, zk, zf, zf2, HX2, hsz2⟩ := after_call hb2 x0 x2 y0 y1 y2 y3 y4 xk xf xf2 HX.out)
      | (refine step_append_fits rfl _ _ 80 rfl B 84 i84 5 Try.underlying80 hi hz1 (M) 0 4 (flat []) rfl (HX2.out.alloc _) ⟨w2.heap.size, 0, none⟩ 1 1 _ rfl rfl (news5 (p := packOf s o i att due) (heap_alloc_new _ _)) (one5 (packOf s o i att due)) (by omega) ?_
         intro w3 hown3 hgrow3
         obtain ⟨z0', z2', t0', t1', t2', t3', t4', zk', zf', zf2', hl3⟩ := after_append hgrow3 hsz2 z0 z2 t0 t1 t2 t3 t4 zk zf zf2 hlp hNp hbp))
  go_wp2
  go_end0
  have hgw1 : (w1.setCell ⟨l, 0, none⟩ (.slice (some ⟨g, 0, none⟩) 1 c)).grownBy w3 (some M) := grown_trans (grown_alloc (grown_trans (b := wx.drew) (by rw [HWX.out]; exact grown_drew (grown_alloc ⟨rfl, rfl, rfl, Nat.le_refl _, fun _ _ _ => rfl⟩ _)) (grown_of_below hb2)) _) hgrow3
  have hgw0 : w.grownBy w1 (Value.slice ha' bs.length hc).ownBlock := grown_trans (grown_alloc (grown_alloc ⟨rfl, rfl, rfl, Nat.le_refl _, fun _ _ _ => rfl⟩ _) _) HG1.out
  have happ := lst_app (v := .slice (some ⟨g, 0, none⟩) 1 c) H.out hgw0 (by have := HO1.out; rw [HXS.out] at this; rw [← HLEN.out]; exact this)
  have hgt : ∀ j, j < (bs ++ [[]]).length → j ≠ bs.length → pt j ≠ M := fun j hj hne => by
    have h1 := lt_of_block (owns_block (happ.row j hj hne)).2.choose_spec
    rw [World.size_setCell, HM.out] at h1
    omega
  have hst := lst_n (lst_store (es := [packOf s o i att due]) (c := 4) happ hgw1 hgt hlp hbp (by exact hown3) (by omega)) (n + 1)
  have hset : (bs ++ [[]]).set bs.length [packOf s o i att due] = bs ++ [[packOf s o i att due]] := by simp
  rw [hset, ← HLEN.out] at hst
  refine ⟨rfl, ⟨_, _, _, hst⟩, ?_⟩
  have hB0 : B ≤ w.heap.size := by have := HN.out; omega
  have hBg : B ≤ g := (owns_block HO1.out).1
  have b1 : Below B w w1 := (Below.refl B w).grown hgw0 hB0 (fun j e => (HROW.out j e).1)
  have b3 : Below B w w3 := (b1.setCell (p := ⟨l, 0, none⟩) hBl _).grown hgw1 (by rw [World.size_setCell]; have := b1.size; omega) (by rintro j e; simp at e; omega)
  exact ⟨(b3.setCell (p := ⟨g, 0, none⟩) hBg _).setCell (p := ⟨l, 2, none⟩) hBl _, keep_app hgw0 (hdr_80 H.out) ⟨_, H.out.own⟩ hgw1 (by have := HN.out; omega) (owns_block HO1.out).2⟩
end Go.Proofs.Qxb6602566a
