import Derived.Test.Qxb6602566aPush
namespace Go.Proofs.Qxb6602566a
open Go.RowKit

theorem run_copy_rowS {P : Program} (w : World) (dT sT ty elem : TypeId) (size g o dLen dCap : Nat) (a : Addr) (sLen sCap : Nat) (cur : Array Value) (t : TypeId) (cs : List Value)
    (hu : P.underlying dT = some (.slice elem)) (hs : (P.info? elem).map (·.size) = some size)
    (hg : w.heap[g]? = some (.cells cur t (0, 0))) (hn : cs.length = Nat.min sLen dLen * size)
    (hsrc : ∀ j v, cs[j]? = some v → w.cell? (a.add j) = some v) (hfit : o + cs.length ≤ cur.size) (h1 : ∀ v ∈ cs, v.oneCell' = true) :
    (Builtin.copy_ #[dT, sT] ty #[.slice (some ⟨g, o, none⟩) dLen dCap, .slice (some a) sLen sCap]).run P w =
      .ok (goInt (Nat.min sLen dLen)) (w.setRow g (cur.toList.take o ++ cs ++ cur.toList.drop (o + cs.length)).toArray) := by
  have hl := run_loadCells_list (P := P) w a cs hsrc
  have hst := run_storeCells_at P g o t cs 0 cur w hg (by simpa using hfit) h1
  cases hq : P.info? elem with
  | none => simp [hq] at hs
  | some i =>
    have hi : i.size = size := by simpa [hq] using hs
    simp [Builtin.copy_, run_underlying hu, Builtin.lenOf, Builtin.firstCells, sizeOf, typeInfo, hq, hi, ← hn, hl, hst]


theorem flat_one (es : List Pk) : ∀ v ∈ flat es, v.oneCell' = true := by
  intro v hv
  obtain ⟨p, _, hp⟩ := List.mem_flatMap.1 hv
  simp at hp
  rcases hp with rfl | rfl | rfl | rfl | rfl <;> rfl

/-- 'copy' into a row that was just made: it then holds the entries, and has room for more. -/
theorem copy_grown {w : World} (o1 : Obj) (B b L C : Nat) (es : List Pk) (hrow : w.ownsRow B 84 5 (.slice (some ⟨b, 0, none⟩) L L) L (flat es)) (hLC : L ≤ C) (hC : C ≤ maxLen) (hB : B ≤ w.heap.size) :
    ∃ wx, Sem.run Try.prog (Builtin.copy_ #[80, 80] 3 #[.slice (some ⟨w.heap.size + 1, 0, none⟩) L C, .slice (some ⟨b, 0, none⟩) L L]) ((w.alloc o1).alloc (.cells (madeCells #[.int .u32 0, .int .u32 0, .int .u32 0, .int .u32 0, .int .u32 0] (C * 5)) 84)) = .ok (goInt L) wx ∧
      wx.ownsRow B 84 5 (.slice (some ⟨w.heap.size + 1, 0, none⟩) L C) L (flat es) ∧ ((w.alloc o1).alloc (.cells (madeCells #[.int .u32 0, .int .u32 0, .int .u32 0, .int .u32 0, .int .u32 0] (C * 5)) 84)).grownBy wx (some (w.heap.size + 1)) := by
  have hlen : (flat es).length = L * 5 := hrow.1
  have hnew : ((w.alloc o1).alloc (.cells (madeCells #[.int .u32 0, .int .u32 0, .int .u32 0, .int .u32 0, .int .u32 0] (C * 5)) 84)).heap[w.heap.size + 1]? = some (.cells (madeCells #[.int .u32 0, .int .u32 0, .int .u32 0, .int .u32 0, .int .u32 0] (C * 5)) 84 (0, 0)) := by
    have := heap_alloc_new (w.alloc o1) (.cells (madeCells #[.int .u32 0, .int .u32 0, .int .u32 0, .int .u32 0, .int .u32 0] (C * 5)) 84)
    rwa [World.size_alloc] at this
  have hbl : b < w.heap.size := lt_of_block (owns_block hrow).2.choose_spec
  have hrun := run_copy_rowS (P := Try.prog) ((w.alloc o1).alloc (.cells (madeCells #[.int .u32 0, .int .u32 0, .int .u32 0, .int .u32 0, .int .u32 0] (C * 5)) 84)) 80 80 3 84 5 (w.heap.size + 1) 0 L C ⟨b, 0, none⟩ L L _ 84 (flat es) Try.underlying80 (by kernel_rfl) hnew (by rw [hlen]; simp)
    (fun j v hj => by
      have hj' : j < L * 5 := by rw [← hlen]; exact (List.getElem?_eq_some_iff.1 hj).1
      rw [show (⟨b, 0, none⟩ : Addr).add j = ⟨b, j, none⟩ by unfold Addr.add; split <;> simp_all, World.cell?_alloc_lt _ _ _ (by rw [World.size_alloc]; simp; omega), World.cell?_alloc_lt _ _ _ hbl, hrow.cellAt j hj', hj])
    (by rw [hlen, size_madeCells]; omega) (flat_one es)
  simp only [List.take_zero, List.nil_append, Nat.zero_add, show Nat.min L L = L by simp] at hrun
  refine ⟨_, hrun, ⟨hlen, .inr ⟨_, C, _, rfl, by omega, setRow_heap _ _ _ _ _ _ hnew, hLC, hC, ?_, ?_⟩⟩, ⟨rfl, rfl, rfl, by simp, fun k _ hk => setRow_other _ _ _ _ (fun e => hk (by simp [e]))⟩⟩
  · simp [size_madeCells, hlen]; omega
  · rw [List.take_append_of_le_length (by omega), List.take_of_length_le (by omega)]

set_option maxHeartbeats 1000000 in
set_option maxRecDepth 100000 in
theorem push_grow2 (w : World) (B l : Nat) (bs : List (List Pk)) (pt cp : Nat → Nat) (hv : Value) (head n : Int) (h : LstAt w B l bs pt cp hv head n) (hl : bs.length ≤ 1048577) (hn : -9223372036854775808 ≤ n ∧ n < 9223372036854775807)
    (k : Nat) (hk : k + 1 = bs.length) (L : Nat) (hL : (bs.getD k []).length = L) (hfull : L = cp k) (h1 : 2 ≤ L) (h2 : L ≤ 2048) (s o i att due : Int) (ha : 0 ≤ att ∧ att < 65536) (hd : -9223372036854775808 ≤ due ∧ due ≤ 9223372036854775807) :
    Calls Try.prog 33 #[.pointer (some ⟨l, 0, none⟩), .agg #[.int .u32 s, .int .u32 o, .int .u32 i, .int .u16 att, .int .i64 due]] w fun e w' => e = .returned (.tuple #[]) ∧
      (∃ pt' cp' hv', LstAt w' B l (bs.set k (bs.getD k [] ++ [packOf s o i att due])) pt' cp' hv' head (n + 1)) ∧ Fr B w w' := by
  obtain ⟨ha', hc, rfl⟩ := h.shape
  obtain ⟨hb, rfl, hBb, -, hlc, hcell, hfr⟩ := h.cells (i := k) (by omega)
  have hc0 : w.cell? ⟨l, 0, none⟩ = some (.slice (some ⟨hb, 0, none⟩) bs.length hc) := by simp [World.cell?, h.own]
  have hc2 : w.cell? ⟨l, 2, none⟩ = some (.int .i64 n) := by simp [World.cell?, h.own]
  have hf2 : w.frozen? ⟨l, 2, none⟩ = false := by simp [World.frozen?, h.own]
  have hll : l < w.heap.size := lt_of_block h.own
  have hbl : hb < w.heap.size := World.block_lt_of_cell? _ _ hcell
  have hrow := h.row k (by omega)
  have hkl : k < bs.length := by omega
  have hes : bs.getD k [] = bs[k] := by simp [List.getD, hkl]
  rw [hes] at hrow hL
  rw [hL, ← hfull] at hrow hcell
  have H := hid h
  have HES := hid hes
  have HL := hid hL
  obtain ⟨i84, hi, hz0, hz1, hz2⟩ := info_parts info84
  generalize bs[k] = es at *
  have HK := hid hk
  rw [← hk] at hc0 hl hlc
  obtain ⟨wx, hcopy, hownx, hgrx⟩ := copy_grown (.cells #[.int .u32 s, .int .u32 o, .int .u32 i, .int .u16 att, .int .i64 due] 87) B (pt k) L (2 * L) es hrow (by omega) (by unfold maxLen; omega) (by have := h.hl; omega)
  have HX := hid hownx
  have HGX := hid hgrx
  have HPT := hid (lt_of_block (owns_block hrow).2.choose_spec)
  have HROW := hid hrow
  obtain ⟨cur2, hcur2⟩ := (owns_block h.hdr).2
  have hlb : l ≠ hb := ne_of_type h.own hcur2 (by decide)
  clear h hes hrow hL hfull hk hkl hownx hcur2
  have hnf : ((L : Int) == 4096) = false := beq_eq_false_iff_ne.2 (by omega)
  have hmk : ∀ w, Sem.run Try.prog (Instr.makeSlice 80 (.int .i64 (L : Int)) (.int .i64 (2 * (L : Int)))) w = .ok (.slice (some ⟨w.heap.size, 0, none⟩) L (2 * L)) (w.alloc (.cells (madeCells #[.int .u32 0, .int .u32 0, .int .u32 0, .int .u32 0, .int .u32 0] ((2 * L) * 5)) 84)) :=
    mk_run (P := Try.prog) 80 84 _ 5 20 Try.underlying80 info84 L (2 * L) (by omega) (by omega) (by omega)
  have hbl' : hb ≠ l := fun e => hlb e.symm
  have gx : ∀ p v, w.cell? p = some v → wx.cell? p = some v := fun p v hp => by
    have hlt := World.block_lt_of_cell? _ _ hp
    rw [grown_cell hgrx p (by simp; omega) (by omega), World.cell?_alloc_lt _ _ _ (by simp; omega), World.cell?_alloc_lt _ _ _ hlt, hp]
  have gf : ∀ p, p.block < w.heap.size → wx.frozen? p = w.frozen? p := fun p hlt => by
    rw [grown_frozen hgrx p (by simp; omega) (by omega), World.frozen?_alloc_old _ _ _ (by simp; omega), World.frozen?_alloc_old _ _ _ (by omega)]
  have gb : ∀ j v, (#[Value.int .u32 s, .int .u32 o, .int .u32 i, .int .u16 att, .int .i64 due])[j]? = some v → wx.cell? ⟨w.heap.size, j, none⟩ = some v := fun j v hv => by
    rw [grown_cell hgrx ⟨w.heap.size, j, none⟩ (by simp; omega) (by simp), World.cell?_alloc_lt _ _ _ (by simp), World.cell?_alloc_new, hv]
  have x0 := gx _ _ hc0
  have x2 := gx _ _ hc2
  have xk := gx _ _ hcell
  have xf : wx.frozen? ⟨hb, k, none⟩ = false := (gf ⟨hb, k, none⟩ hbl).trans hfr
  have xf2 : wx.frozen? ⟨l, 2, none⟩ = false := (gf ⟨l, 2, none⟩ hll).trans hf2
  have y0 := gb 0 _ rfl
  have y1 := gb 1 _ rfl
  have y2 := gb 2 _ rfl
  have y3 := gb 3 _ rfl
  have y4 := gb 4 _ rfl
  clear gx gf gb hgrx
  have HY := hid (And.intro x0 (And.intro x2 (And.intro xk (And.intro xf (And.intro xf2 (And.intro y0 (And.intro y1 (And.intro y2 (And.intro y3 y4)))))))))
  clear x0 x2 xk xf xf2 y0 y1 y2 y3 y4
  go_enter Try.func33, Try.ntmps33
  go_wp2
  obtain ⟨x0, x2, xk, xf, xf2, y0, y1, y2, y3, y4⟩ := HY.out
  have hlp : l ≠ w.heap.size + 1 := by omega
  have hbp : hb ≠ w.heap.size + 1 := by omega
  have hNp : w.heap.size ≠ w.heap.size + 1 := by omega
  have hNb : w.heap.size ≠ hb := by omega
  have hbN : hb ≠ w.heap.size := by omega
  clear hmk hcopy hc0 hc2 hcell hfr hf2
  generalize hN : w.heap.size = N at *
  have HN := hid hN
  clear hN
  go_region_held3 (fun w' => w'.cell? ⟨l, 0, none⟩ = some (.slice (some ⟨hb, 0, none⟩) (k + 1) hc) ∧ w'.cell? ⟨N, 0, none⟩ = some (.int .u32 s) ∧ w'.cell? ⟨N, 1, none⟩ = some (.int .u32 o) ∧ w'.cell? ⟨N, 2, none⟩ = some (.int .u32 i) ∧ w'.cell? ⟨N, 3, none⟩ = some (.int .u16 att) ∧ w'.cell? ⟨N, 4, none⟩ = some (.int .i64 due)) (go_keep)
    (first
      | (go_at_call 35
         refine (pack_any _ s o i att due ha hd).mono ?_
         rintro e w2 ⟨rfl, hb2⟩
         obtain ⟨z0, z2, t0, t1, t2, t3, t4, zk, zf, zf2, HX2, hsz2⟩ := after_call hb2 x0 x2 y0 y1 y2 y3 y4 xk xf xf2 HX.out)
      | (refine step_append_fits rfl _ _ 80 rfl B 84 i84 5 Try.underlying80 hi hz1 (N + 1) (L) (2 * L) (flat es) rfl (HX2.out.alloc _) ⟨w2.heap.size, 0, none⟩ 1 1 _ rfl rfl (news5 (p := packOf s o i att due) (heap_alloc_new _ _)) (one5 (packOf s o i att due)) (by omega) ?_
         intro w3 hown3 hgrow3
         obtain ⟨z0', z2', t0', t1', t2', t3', t4', zk', zf', zf2', hl3⟩ := after_append hgrow3 hsz2 z0 z2 t0 t1 t2 t3 t4 zk zf zf2 hlp hNp hbp))
  go_wp2
  go_end0
  have hgw : w.grownBy w3 (some (N + 1)) := grown_trans (grown_alloc (grown_trans (b := wx.drew) (grown_drew (grown_trans (grown_alloc (grown_alloc ⟨rfl, rfl, rfl, Nat.le_refl _, fun _ _ _ => rfl⟩ _) _) HGX.out)) (grown_of_below hb2)) _) hgrow3
  rw [HES.out]
  have hst := lst_n (lst_store (es := es ++ [packOf s o i att due]) (c := 2 * L) (H.out.but k) hgw (fun j hj hne e => by have h1 := lt_of_block (owns_block (H.out.row j hj)).2.choose_spec; have h2 := HN.out; omega) hlp hbp (by rw [flat_snoc, List.length_append, HL.out]; exact hown3) (by omega)) (n + 1)
  rw [List.length_append, HL.out] at hst
  refine ⟨rfl, ⟨_, _, _, hst⟩, ?_⟩
  refine ⟨?_, keep_push hgw (.inl (by have := HN.out; omega)) (owns_block H.out.hdr).2 ⟨_, H.out.own⟩⟩
  exact (((Below.refl B w).grown hgw (by have := H.out.hl; have := HN.out; omega) (by rintro j e; simp at e; have := H.out.hl; omega)).setCell hBb _).setCell H.out.hl _

set_option maxHeartbeats 1000000 in
set_option maxRecDepth 100000 in
theorem push_grow4 (w : World) (B l : Nat) (bs : List (List Pk)) (pt cp : Nat → Nat) (hv : Value) (head n : Int) (h : LstAt w B l bs pt cp hv head n) (hl : bs.length ≤ 1048577) (hn : -9223372036854775808 ≤ n ∧ n < 9223372036854775807)
    (k : Nat) (hk : k + 1 = bs.length) (L : Nat) (hL : (bs.getD k []).length = L) (hfull : L = cp k) (h1 : L < 2) (s o i att due : Int) (ha : 0 ≤ att ∧ att < 65536) (hd : -9223372036854775808 ≤ due ∧ due ≤ 9223372036854775807) :
    Calls Try.prog 33 #[.pointer (some ⟨l, 0, none⟩), .agg #[.int .u32 s, .int .u32 o, .int .u32 i, .int .u16 att, .int .i64 due]] w fun e w' => e = .returned (.tuple #[]) ∧
      (∃ pt' cp' hv', LstAt w' B l (bs.set k (bs.getD k [] ++ [packOf s o i att due])) pt' cp' hv' head (n + 1)) ∧ Fr B w w' := by
  obtain ⟨ha', hc, rfl⟩ := h.shape
  obtain ⟨hb, rfl, hBb, -, hlc, hcell, hfr⟩ := h.cells (i := k) (by omega)
  have hc0 : w.cell? ⟨l, 0, none⟩ = some (.slice (some ⟨hb, 0, none⟩) bs.length hc) := by simp [World.cell?, h.own]
  have hc2 : w.cell? ⟨l, 2, none⟩ = some (.int .i64 n) := by simp [World.cell?, h.own]
  have hf2 : w.frozen? ⟨l, 2, none⟩ = false := by simp [World.frozen?, h.own]
  have hll : l < w.heap.size := lt_of_block h.own
  have hbl : hb < w.heap.size := World.block_lt_of_cell? _ _ hcell
  have hrow := h.row k (by omega)
  have hkl : k < bs.length := by omega
  have hes : bs.getD k [] = bs[k] := by simp [List.getD, hkl]
  rw [hes] at hrow hL
  rw [hL, ← hfull] at hrow hcell
  have H := hid h
  have HES := hid hes
  have HL := hid hL
  obtain ⟨i84, hi, hz0, hz1, hz2⟩ := info_parts info84
  generalize bs[k] = es at *
  have HK := hid hk
  rw [← hk] at hc0 hl hlc
  obtain ⟨wx, hcopy, hownx, hgrx⟩ := copy_grown (.cells #[.int .u32 s, .int .u32 o, .int .u32 i, .int .u16 att, .int .i64 due] 87) B (pt k) L (4) es hrow (by omega) (by unfold maxLen; omega) (by have := h.hl; omega)
  have HX := hid hownx
  have HGX := hid hgrx
  have HPT := hid (lt_of_block (owns_block hrow).2.choose_spec)
  have HROW := hid hrow
  obtain ⟨cur2, hcur2⟩ := (owns_block h.hdr).2
  have hlb : l ≠ hb := ne_of_type h.own hcur2 (by decide)
  clear h hes hrow hL hfull hk hkl hownx hcur2
  have hnf : ((L : Int) == 4096) = false := beq_eq_false_iff_ne.2 (by omega)
  have hmk : ∀ w, Sem.run Try.prog (Instr.makeSlice 80 (.int .i64 (L : Int)) (.int .i64 (4))) w = .ok (.slice (some ⟨w.heap.size, 0, none⟩) L (4)) (w.alloc (.cells (madeCells #[.int .u32 0, .int .u32 0, .int .u32 0, .int .u32 0, .int .u32 0] ((4) * 5)) 84)) :=
    mk_run (P := Try.prog) 80 84 _ 5 20 Try.underlying80 info84 L (4) (by omega) (by omega) (by omega)
  have hbl' : hb ≠ l := fun e => hlb e.symm
  have gx : ∀ p v, w.cell? p = some v → wx.cell? p = some v := fun p v hp => by
    have hlt := World.block_lt_of_cell? _ _ hp
    rw [grown_cell hgrx p (by simp; omega) (by omega), World.cell?_alloc_lt _ _ _ (by simp; omega), World.cell?_alloc_lt _ _ _ hlt, hp]
  have gf : ∀ p, p.block < w.heap.size → wx.frozen? p = w.frozen? p := fun p hlt => by
    rw [grown_frozen hgrx p (by simp; omega) (by omega), World.frozen?_alloc_old _ _ _ (by simp; omega), World.frozen?_alloc_old _ _ _ (by omega)]
  have gb : ∀ j v, (#[Value.int .u32 s, .int .u32 o, .int .u32 i, .int .u16 att, .int .i64 due])[j]? = some v → wx.cell? ⟨w.heap.size, j, none⟩ = some v := fun j v hv => by
    rw [grown_cell hgrx ⟨w.heap.size, j, none⟩ (by simp; omega) (by simp), World.cell?_alloc_lt _ _ _ (by simp), World.cell?_alloc_new, hv]
  have x0 := gx _ _ hc0
  have x2 := gx _ _ hc2
  have xk := gx _ _ hcell
  have xf : wx.frozen? ⟨hb, k, none⟩ = false := (gf ⟨hb, k, none⟩ hbl).trans hfr
  have xf2 : wx.frozen? ⟨l, 2, none⟩ = false := (gf ⟨l, 2, none⟩ hll).trans hf2
  have y0 := gb 0 _ rfl
  have y1 := gb 1 _ rfl
  have y2 := gb 2 _ rfl
  have y3 := gb 3 _ rfl
  have y4 := gb 4 _ rfl
  clear gx gf gb hgrx
  have HY := hid (And.intro x0 (And.intro x2 (And.intro xk (And.intro xf (And.intro xf2 (And.intro y0 (And.intro y1 (And.intro y2 (And.intro y3 y4)))))))))
  clear x0 x2 xk xf xf2 y0 y1 y2 y3 y4
  go_enter Try.func33, Try.ntmps33
  go_wp2
  obtain ⟨x0, x2, xk, xf, xf2, y0, y1, y2, y3, y4⟩ := HY.out
  have hlp : l ≠ w.heap.size + 1 := by omega
  have hbp : hb ≠ w.heap.size + 1 := by omega
  have hNp : w.heap.size ≠ w.heap.size + 1 := by omega
  have hNb : w.heap.size ≠ hb := by omega
  have hbN : hb ≠ w.heap.size := by omega
  clear hmk hcopy hc0 hc2 hcell hfr hf2
  generalize hN : w.heap.size = N at *
  have HN := hid hN
  clear hN
  go_region_held3 (fun w' => w'.cell? ⟨l, 0, none⟩ = some (.slice (some ⟨hb, 0, none⟩) (k + 1) hc) ∧ w'.cell? ⟨N, 0, none⟩ = some (.int .u32 s) ∧ w'.cell? ⟨N, 1, none⟩ = some (.int .u32 o) ∧ w'.cell? ⟨N, 2, none⟩ = some (.int .u32 i) ∧ w'.cell? ⟨N, 3, none⟩ = some (.int .u16 att) ∧ w'.cell? ⟨N, 4, none⟩ = some (.int .i64 due)) (go_keep)
    (first
      | (go_at_call 35
         refine (pack_any _ s o i att due ha hd).mono ?_
         rintro e w2 ⟨rfl, hb2⟩
         obtain ⟨z0, z2, t0, t1, t2, t3, t4, zk, zf, zf2, HX2, hsz2⟩ := after_call hb2 x0 x2 y0 y1 y2 y3 y4 xk xf xf2 HX.out)
      | (refine step_append_fits rfl _ _ 80 rfl B 84 i84 5 Try.underlying80 hi hz1 (N + 1) (L) (4) (flat es) rfl (HX2.out.alloc _) ⟨w2.heap.size, 0, none⟩ 1 1 _ rfl rfl (news5 (p := packOf s o i att due) (heap_alloc_new _ _)) (one5 (packOf s o i att due)) (by omega) ?_
         intro w3 hown3 hgrow3
         obtain ⟨z0', z2', t0', t1', t2', t3', t4', zk', zf', zf2', hl3⟩ := after_append hgrow3 hsz2 z0 z2 t0 t1 t2 t3 t4 zk zf zf2 hlp hNp hbp))
  go_wp2
  go_end0
  have hgw : w.grownBy w3 (some (N + 1)) := grown_trans (grown_alloc (grown_trans (b := wx.drew) (grown_drew (grown_trans (grown_alloc (grown_alloc ⟨rfl, rfl, rfl, Nat.le_refl _, fun _ _ _ => rfl⟩ _) _) HGX.out)) (grown_of_below hb2)) _) hgrow3
  rw [HES.out]
  have hst := lst_n (lst_store (es := es ++ [packOf s o i att due]) (c := 4) (H.out.but k) hgw (fun j hj hne e => by have h1 := lt_of_block (owns_block (H.out.row j hj)).2.choose_spec; have h2 := HN.out; omega) hlp hbp (by rw [flat_snoc, List.length_append, HL.out]; exact hown3) (by omega)) (n + 1)
  rw [List.length_append, HL.out] at hst
  refine ⟨rfl, ⟨_, _, _, hst⟩, ?_⟩
  refine ⟨?_, keep_push hgw (.inl (by have := HN.out; omega)) (owns_block H.out.hdr).2 ⟨_, H.out.own⟩⟩
  exact (((Below.refl B w).grown hgw (by have := H.out.hl; have := HN.out; omega) (by rintro j e; simp at e; have := H.out.hl; omega)).setCell hBb _).setCell H.out.hl _

set_option maxHeartbeats 1000000 in
set_option maxRecDepth 100000 in
theorem push_grow4096 (w : World) (B l : Nat) (bs : List (List Pk)) (pt cp : Nat → Nat) (hv : Value) (head n : Int) (h : LstAt w B l bs pt cp hv head n) (hl : bs.length ≤ 1048577) (hn : -9223372036854775808 ≤ n ∧ n < 9223372036854775807)
    (k : Nat) (hk : k + 1 = bs.length) (L : Nat) (hL : (bs.getD k []).length = L) (hfull : L = cp k) (h1 : 2048 < L) (h2 : L < 4096) (s o i att due : Int) (ha : 0 ≤ att ∧ att < 65536) (hd : -9223372036854775808 ≤ due ∧ due ≤ 9223372036854775807) :
    Calls Try.prog 33 #[.pointer (some ⟨l, 0, none⟩), .agg #[.int .u32 s, .int .u32 o, .int .u32 i, .int .u16 att, .int .i64 due]] w fun e w' => e = .returned (.tuple #[]) ∧
      (∃ pt' cp' hv', LstAt w' B l (bs.set k (bs.getD k [] ++ [packOf s o i att due])) pt' cp' hv' head (n + 1)) ∧ Fr B w w' := by
  obtain ⟨ha', hc, rfl⟩ := h.shape
  obtain ⟨hb, rfl, hBb, -, hlc, hcell, hfr⟩ := h.cells (i := k) (by omega)
  have hc0 : w.cell? ⟨l, 0, none⟩ = some (.slice (some ⟨hb, 0, none⟩) bs.length hc) := by simp [World.cell?, h.own]
  have hc2 : w.cell? ⟨l, 2, none⟩ = some (.int .i64 n) := by simp [World.cell?, h.own]
  have hf2 : w.frozen? ⟨l, 2, none⟩ = false := by simp [World.frozen?, h.own]
  have hll : l < w.heap.size := lt_of_block h.own
  have hbl : hb < w.heap.size := World.block_lt_of_cell? _ _ hcell
  have hrow := h.row k (by omega)
  have hkl : k < bs.length := by omega
  have hes : bs.getD k [] = bs[k] := by simp [List.getD, hkl]
  rw [hes] at hrow hL
  rw [hL, ← hfull] at hrow hcell
  have H := hid h
  have HES := hid hes
  have HL := hid hL
  obtain ⟨i84, hi, hz0, hz1, hz2⟩ := info_parts info84
  generalize bs[k] = es at *
  have HK := hid hk
  rw [← hk] at hc0 hl hlc
  obtain ⟨wx, hcopy, hownx, hgrx⟩ := copy_grown (.cells #[.int .u32 s, .int .u32 o, .int .u32 i, .int .u16 att, .int .i64 due] 87) B (pt k) L (4096) es hrow (by omega) (by unfold maxLen; omega) (by have := h.hl; omega)
  have HX := hid hownx
  have HGX := hid hgrx
  have HPT := hid (lt_of_block (owns_block hrow).2.choose_spec)
  have HROW := hid hrow
  obtain ⟨cur2, hcur2⟩ := (owns_block h.hdr).2
  have hlb : l ≠ hb := ne_of_type h.own hcur2 (by decide)
  clear h hes hrow hL hfull hk hkl hownx hcur2
  have hnf : ((L : Int) == 4096) = false := beq_eq_false_iff_ne.2 (by omega)
  have hmk : ∀ w, Sem.run Try.prog (Instr.makeSlice 80 (.int .i64 (L : Int)) (.int .i64 (4096))) w = .ok (.slice (some ⟨w.heap.size, 0, none⟩) L (4096)) (w.alloc (.cells (madeCells #[.int .u32 0, .int .u32 0, .int .u32 0, .int .u32 0, .int .u32 0] ((4096) * 5)) 84)) :=
    mk_run (P := Try.prog) 80 84 _ 5 20 Try.underlying80 info84 L (4096) (by omega) (by omega) (by omega)
  have hbl' : hb ≠ l := fun e => hlb e.symm
  have gx : ∀ p v, w.cell? p = some v → wx.cell? p = some v := fun p v hp => by
    have hlt := World.block_lt_of_cell? _ _ hp
    rw [grown_cell hgrx p (by simp; omega) (by omega), World.cell?_alloc_lt _ _ _ (by simp; omega), World.cell?_alloc_lt _ _ _ hlt, hp]
  have gf : ∀ p, p.block < w.heap.size → wx.frozen? p = w.frozen? p := fun p hlt => by
    rw [grown_frozen hgrx p (by simp; omega) (by omega), World.frozen?_alloc_old _ _ _ (by simp; omega), World.frozen?_alloc_old _ _ _ (by omega)]
  have gb : ∀ j v, (#[Value.int .u32 s, .int .u32 o, .int .u32 i, .int .u16 att, .int .i64 due])[j]? = some v → wx.cell? ⟨w.heap.size, j, none⟩ = some v := fun j v hv => by
    rw [grown_cell hgrx ⟨w.heap.size, j, none⟩ (by simp; omega) (by simp), World.cell?_alloc_lt _ _ _ (by simp), World.cell?_alloc_new, hv]
  have x0 := gx _ _ hc0
  have x2 := gx _ _ hc2
  have xk := gx _ _ hcell
  have xf : wx.frozen? ⟨hb, k, none⟩ = false := (gf ⟨hb, k, none⟩ hbl).trans hfr
  have xf2 : wx.frozen? ⟨l, 2, none⟩ = false := (gf ⟨l, 2, none⟩ hll).trans hf2
  have y0 := gb 0 _ rfl
  have y1 := gb 1 _ rfl
  have y2 := gb 2 _ rfl
  have y3 := gb 3 _ rfl
  have y4 := gb 4 _ rfl
  clear gx gf gb hgrx
  have HY := hid (And.intro x0 (And.intro x2 (And.intro xk (And.intro xf (And.intro xf2 (And.intro y0 (And.intro y1 (And.intro y2 (And.intro y3 y4)))))))))
  clear x0 x2 xk xf xf2 y0 y1 y2 y3 y4
  go_enter Try.func33, Try.ntmps33
  go_wp2
  obtain ⟨x0, x2, xk, xf, xf2, y0, y1, y2, y3, y4⟩ := HY.out
  have hlp : l ≠ w.heap.size + 1 := by omega
  have hbp : hb ≠ w.heap.size + 1 := by omega
  have hNp : w.heap.size ≠ w.heap.size + 1 := by omega
  have hNb : w.heap.size ≠ hb := by omega
  have hbN : hb ≠ w.heap.size := by omega
  clear hmk hcopy hc0 hc2 hcell hfr hf2
  generalize hN : w.heap.size = N at *
  have HN := hid hN
  clear hN
  go_region_held3 (fun w' => w'.cell? ⟨l, 0, none⟩ = some (.slice (some ⟨hb, 0, none⟩) (k + 1) hc) ∧ w'.cell? ⟨N, 0, none⟩ = some (.int .u32 s) ∧ w'.cell? ⟨N, 1, none⟩ = some (.int .u32 o) ∧ w'.cell? ⟨N, 2, none⟩ = some (.int .u32 i) ∧ w'.cell? ⟨N, 3, none⟩ = some (.int .u16 att) ∧ w'.cell? ⟨N, 4, none⟩ = some (.int .i64 due)) (go_keep)
    (first
      | (go_at_call 35
         refine (pack_any _ s o i att due ha hd).mono ?_
         rintro e w2 ⟨rfl, hb2⟩
         obtain ⟨z0, z2, t0, t1, t2, t3, t4, zk, zf, zf2, HX2, hsz2⟩ := after_call hb2 x0 x2 y0 y1 y2 y3 y4 xk xf xf2 HX.out)
      | (refine step_append_fits rfl _ _ 80 rfl B 84 i84 5 Try.underlying80 hi hz1 (N + 1) (L) (4096) (flat es) rfl (HX2.out.alloc _) ⟨w2.heap.size, 0, none⟩ 1 1 _ rfl rfl (news5 (p := packOf s o i att due) (heap_alloc_new _ _)) (one5 (packOf s o i att due)) (by omega) ?_
         intro w3 hown3 hgrow3
         obtain ⟨z0', z2', t0', t1', t2', t3', t4', zk', zf', zf2', hl3⟩ := after_append hgrow3 hsz2 z0 z2 t0 t1 t2 t3 t4 zk zf zf2 hlp hNp hbp))
  go_wp2
  go_end0
  have hgw : w.grownBy w3 (some (N + 1)) := grown_trans (grown_alloc (grown_trans (b := wx.drew) (grown_drew (grown_trans (grown_alloc (grown_alloc ⟨rfl, rfl, rfl, Nat.le_refl _, fun _ _ _ => rfl⟩ _) _) HGX.out)) (grown_of_below hb2)) _) hgrow3
  rw [HES.out]
  have hst := lst_n (lst_store (es := es ++ [packOf s o i att due]) (c := 4096) (H.out.but k) hgw (fun j hj hne e => by have h1 := lt_of_block (owns_block (H.out.row j hj)).2.choose_spec; have h2 := HN.out; omega) hlp hbp (by rw [flat_snoc, List.length_append, HL.out]; exact hown3) (by omega)) (n + 1)
  rw [List.length_append, HL.out] at hst
  refine ⟨rfl, ⟨_, _, _, hst⟩, ?_⟩
  refine ⟨?_, keep_push hgw (.inl (by have := HN.out; omega)) (owns_block H.out.hdr).2 ⟨_, H.out.own⟩⟩
  exact (((Below.refl B w).grown hgw (by have := H.out.hl; have := HN.out; omega) (by rintro j e; simp at e; have := H.out.hl; omega)).setCell hBb _).setCell H.out.hl _
end Go.Proofs.Qxb6602566a
