import Derived.Test.Qxb6602566aLst
import Derived.Test.Qxb6602566aPack
import Derived.Deep.RegionHeld3
namespace Go.Proofs.Qxb6602566a
open Go.RowKit

/-- 'append' within the capacity of a row that the call owns, as one step of a region that draws its order. -/
theorem step_append_fits {P : Program} {ops : Array Oper} {o : Oper} {a : Act} {w : World} {K : Act → World → Prop} {Q : Exit → Act → World → Prop} {E : Prop}
    (hg : o.guard = none) (s x : Operand) (t : TypeId) (hop : o.op = Op.call { callee := Callee.builtin Builtin.append, args := #[s, x], argTypes := #[t, t] })
    (base : Nat) (e : TypeId) (i : TypeInfo) (size : Nat) (h1 : P.underlying t = some (.slice e)) (h2 : P.info? e = some i) (h4 : i.size = size)
    (g k cap : Nat) (xs : List Value) (hs : a.eval s = .slice (some ⟨g, 0, none⟩) k cap) (hown : w.ownsRow base e size (.slice (some ⟨g, 0, none⟩) k cap) k xs) (ad : Addr) (m c : Nat) (news : List Value) (hx : a.eval x = .slice (some ad) m c) (hn : news.length = m * size)
    (hc : ∀ j u, news[j]? = some u → w.cell? (ad.add j) = some u) (h1c : ∀ u ∈ news, u.oneCell' = true) (b1 : k + m ≤ cap)
    (hK : ∀ w', w'.ownsRow base e size (.slice (some ⟨g, 0, none⟩) (k + m) cap) (k + m) (xs ++ news) → w.grownBy w' (some g) → K (a.put o.dst (.slice (some ⟨g, 0, none⟩) (k + m) cap)) w') :
    if Region.wanted o (yielded ops a.tmps) = true then Oper.wp P o a w K Q else E := by
  have hw : Region.wanted o (yielded ops a.tmps) = true := by simp [Region.wanted, hg]
  rw [if_pos hw]
  obtain ⟨w', hrun, r1, r2⟩ := run_append_fits (P := P) w base t o.type e i size h1 h2 h4 g k cap xs hown ad m c news hn hc h1c b1
  unfold Oper.wp
  simp [execOp, hop, resolve, invoke, builtin, hs, hx, hrun, Result.andThen]
  exact hK w' r1 r2

theorem news5 {w : World} {b : Nat} {p : Pk} (h : w.heap[b]? = some (.cells #[.int .u32 p.a, .int .u32 p.b, .int .u32 p.c, .int .u32 p.d, .int .u32 p.e] 84 (0, 0))) :
    ∀ j u, [Value.int .u32 p.a, .int .u32 p.b, .int .u32 p.c, .int .u32 p.d, .int .u32 p.e][j]? = some u → w.cell? ((⟨b, 0, none⟩ : Addr).add j) = some u := by
  intro t u ht
  match t, ht with
  | 0, ht => simp at ht; subst ht; simp [Addr.add, World.cell?, h]
  | 1, ht => simp at ht; subst ht; simp [Addr.add, World.cell?, h]
  | 2, ht => simp at ht; subst ht; simp [Addr.add, World.cell?, h]
  | 3, ht => simp at ht; subst ht; simp [Addr.add, World.cell?, h]
  | 4, ht => simp at ht; subst ht; simp [Addr.add, World.cell?, h]

theorem one5 (p : Pk) : ∀ u ∈ [Value.int .u32 p.a, .int .u32 p.b, .int .u32 p.c, .int .u32 p.d, .int .u32 p.e], u.oneCell' = true := by
  intro u hu; simp at hu; rcases hu with rfl | rfl | rfl | rfl | rfl <;> rfl

/-- What they are behind the append. -/
theorem after_append {w2 w3 : World} {o : Obj} {l N hb k b m : Nat} {v0 v2 u0 u1 u2 u3 u4 vk : Value} (hg : (w2.alloc o).grownBy w3 (some b)) (hm : m ≤ w2.heap.size)
    (x0 : w2.cell? ⟨l, 0, none⟩ = some v0) (x2 : w2.cell? ⟨l, 2, none⟩ = some v2) (y0 : w2.cell? ⟨N, 0, none⟩ = some u0) (y1 : w2.cell? ⟨N, 1, none⟩ = some u1) (y2 : w2.cell? ⟨N, 2, none⟩ = some u2) (y3 : w2.cell? ⟨N, 3, none⟩ = some u3) (y4 : w2.cell? ⟨N, 4, none⟩ = some u4)
    (xk : w2.cell? ⟨hb, k, none⟩ = some vk) (xf : w2.frozen? ⟨hb, k, none⟩ = false) (xf2 : w2.frozen? ⟨l, 2, none⟩ = false) (h1 : l ≠ b) (h2 : N ≠ b) (h3 : hb ≠ b) :
    w3.cell? ⟨l, 0, none⟩ = some v0 ∧ w3.cell? ⟨l, 2, none⟩ = some v2 ∧ w3.cell? ⟨N, 0, none⟩ = some u0 ∧ w3.cell? ⟨N, 1, none⟩ = some u1 ∧ w3.cell? ⟨N, 2, none⟩ = some u2 ∧ w3.cell? ⟨N, 3, none⟩ = some u3 ∧ w3.cell? ⟨N, 4, none⟩ = some u4 ∧
    w3.cell? ⟨hb, k, none⟩ = some vk ∧ w3.frozen? ⟨hb, k, none⟩ = false ∧ w3.frozen? ⟨l, 2, none⟩ = false ∧ m ≤ w3.heap.size := by
  have g : ∀ p v, w2.cell? p = some v → p.block ≠ b → w3.cell? p = some v := fun p v h hp => by
    have hlt := World.block_lt_of_cell? _ _ h
    rw [grown_cell hg p (by rw [World.size_alloc]; omega) hp, World.cell?_alloc_lt _ _ _ hlt, h]
  have hlt := World.block_lt_of_cell? _ _ xk
  refine ⟨g _ _ x0 h1, g _ _ x2 h1, g _ _ y0 h2, g _ _ y1 h2, g _ _ y2 h2, g _ _ y3 h2, g _ _ y4 h2, g _ _ xk h3, ?_, ?_, ?_⟩
  · rw [grown_frozen hg ⟨hb, k, none⟩ (by rw [World.size_alloc]; simp at hlt; simp; omega) h3, World.frozen?_alloc_old _ _ _ (by simp at hlt; simp; omega), xf]
  · have hlt := World.block_lt_of_cell? _ _ x2
    rw [grown_frozen hg ⟨l, 2, none⟩ (by rw [World.size_alloc]; simp at hlt; simp; omega) h1, World.frozen?_alloc_old _ _ _ (by simp at hlt; simp; omega), xf2]
  · have := hg.size
    rw [World.size_alloc] at this
    omega

/-- What the region's cells are behind the call of pack. -/
theorem after_call {wx w2 : World} {l N hb k b n cap : Nat} {v0 v2 u0 u1 u2 u3 u4 vk : Value} {B : Nat} {xs : List Value} (hb2 : Below wx.heap.size wx.drew w2)
    (x0 : wx.cell? ⟨l, 0, none⟩ = some v0) (x2 : wx.cell? ⟨l, 2, none⟩ = some v2) (y0 : wx.cell? ⟨N, 0, none⟩ = some u0) (y1 : wx.cell? ⟨N, 1, none⟩ = some u1) (y2 : wx.cell? ⟨N, 2, none⟩ = some u2) (y3 : wx.cell? ⟨N, 3, none⟩ = some u3) (y4 : wx.cell? ⟨N, 4, none⟩ = some u4)
    (xk : wx.cell? ⟨hb, k, none⟩ = some vk) (xf : wx.frozen? ⟨hb, k, none⟩ = false) (xf2 : wx.frozen? ⟨l, 2, none⟩ = false) (HX : wx.ownsRow B 84 5 (.slice (some ⟨b, 0, none⟩) n cap) n xs) :
    w2.cell? ⟨l, 0, none⟩ = some v0 ∧ w2.cell? ⟨l, 2, none⟩ = some v2 ∧ w2.cell? ⟨N, 0, none⟩ = some u0 ∧ w2.cell? ⟨N, 1, none⟩ = some u1 ∧ w2.cell? ⟨N, 2, none⟩ = some u2 ∧ w2.cell? ⟨N, 3, none⟩ = some u3 ∧ w2.cell? ⟨N, 4, none⟩ = some u4 ∧
    w2.cell? ⟨hb, k, none⟩ = some vk ∧ w2.frozen? ⟨hb, k, none⟩ = false ∧ w2.frozen? ⟨l, 2, none⟩ = false ∧ Hid (w2.ownsRow B 84 5 (.slice (some ⟨b, 0, none⟩) n cap) n xs) ∧ wx.heap.size ≤ w2.heap.size := by
  have g : ∀ p v, wx.cell? p = some v → w2.cell? p = some v := fun p v h => (hb2.cell (World.block_lt_of_cell? _ _ h)).trans h
  exact ⟨g _ _ x0, g _ _ x2, g _ _ y0, g _ _ y1, g _ _ y2, g _ _ y3, g _ _ y4, g _ _ xk, (hb2.frozen (p := ⟨hb, k, none⟩) (World.block_lt_of_cell? _ _ xk)).trans xf, (hb2.frozen (p := ⟨l, 2, none⟩) (World.block_lt_of_cell? _ _ x2)).trans xf2, owns_below (w := wx.drew) HX hb2, hb2.size⟩

set_option maxHeartbeats 1000000 in
set_option maxRecDepth 100000 in
theorem push_room (w : World) (B l : Nat) (bs : List (List Pk)) (pt cp : Nat → Nat) (hv : Value) (head n : Int) (h : LstAt w B l bs pt cp hv head n) (hl : bs.length ≤ 1048577) (hn : -9223372036854775808 ≤ n ∧ n < 9223372036854775807)
    (k : Nat) (hk : k + 1 = bs.length) (hroom : (bs.getD k []).length < cp k) (s o i att due : Int) (ha : 0 ≤ att ∧ att < 65536) (hd : -9223372036854775808 ≤ due ∧ due ≤ 9223372036854775807) :
    Calls Try.prog 33 #[.pointer (some ⟨l, 0, none⟩), .agg #[.int .u32 s, .int .u32 o, .int .u32 i, .int .u16 att, .int .i64 due]] w fun e w' => e = .returned (.tuple #[]) ∧
      (∃ pt' cp' hv', LstAt w' B l (bs.set k (bs.getD k [] ++ [packOf s o i att due])) pt' cp' hv' head (n + 1)) ∧ Fr B w w' := by
  obtain ⟨ha', hc, rfl⟩ := h.shape
  obtain ⟨hb, rfl, hBb, -, hlc, hcell, hfr⟩ := h.cells (i := k) (by omega)
  have hc0 : w.cell? ⟨l, 0, none⟩ = some (.slice (some ⟨hb, 0, none⟩) bs.length hc) := by simp [World.cell?, h.own]
  have hc2 : w.cell? ⟨l, 2, none⟩ = some (.int .i64 n) := by simp [World.cell?, h.own]
  have hf2 : w.frozen? ⟨l, 2, none⟩ = false := by simp [World.frozen?, h.own]
  have hll : l < w.heap.size := lt_of_block h.own
  have hbl : hb < w.heap.size := World.block_lt_of_cell? _ _ hcell
  have hrow := h.row k (by omega)
  have hkl : k < bs.length := by omega
  have hes : bs.getD k [] = bs[k] := by simp [List.getD, hkl]
  obtain ⟨hle1, hle2⟩ := h.le (i := k) (by omega)
  rw [hes] at hrow hroom
  have H := hid h
  have HES := hid hes
  have HROW := hid hrow
  clear h hes hrow
  obtain ⟨i84, hi, hz0, hz1, hz2⟩ := info_parts info84
  generalize bs[k] = es at *
  have HK := hid hk
  rw [← hk] at hc0 hl hlc
  clear hk hkl
  have hnf : ((es.length : Int) == 4096) = false := beq_eq_false_iff_ne.2 (by omega)
  have hnc : ((es.length : Int) == (cp k : Int)) = false := beq_eq_false_iff_ne.2 (by omega)
  go_enter Try.func33, Try.ntmps33
  go_wp2
  have hNl : l ≠ w.heap.size := by omega
  obtain ⟨wx, hwx⟩ : ∃ wx, wx = w.alloc (.cells #[.int .u32 s, .int .u32 o, .int .u32 i, .int .u16 att, .int .i64 due] 87) := ⟨_, rfl⟩
  have x0 : wx.cell? ⟨l, 0, none⟩ = some (.slice (some ⟨hb, 0, none⟩) (k + 1) hc) := by rw [hwx, World.cell?_alloc_lt _ _ _ hll, hc0]
  have x2 : wx.cell? ⟨l, 2, none⟩ = some (.int .i64 n) := by rw [hwx, World.cell?_alloc_lt _ _ _ hll, hc2]
  have y0 : wx.cell? ⟨w.heap.size, 0, none⟩ = some (.int .u32 s) := by rw [hwx]; simp
  have y1 : wx.cell? ⟨w.heap.size, 1, none⟩ = some (.int .u32 o) := by rw [hwx]; simp
  have y2 : wx.cell? ⟨w.heap.size, 2, none⟩ = some (.int .u32 i) := by rw [hwx]; simp
  have y3 : wx.cell? ⟨w.heap.size, 3, none⟩ = some (.int .u16 att) := by rw [hwx]; simp
  have y4 : wx.cell? ⟨w.heap.size, 4, none⟩ = some (.int .i64 due) := by rw [hwx]; simp
  have xk : wx.cell? ⟨hb, k, none⟩ = some (.slice (some ⟨pt k, 0, none⟩) es.length (cp k)) := by rw [hwx, World.cell?_alloc_lt _ _ _ hbl, hcell]
  have HX := hid (show wx.ownsRow B 84 5 (.slice (some ⟨pt k, 0, none⟩) es.length (cp k)) es.length (flat es) by rw [hwx]; exact HROW.out.alloc _)
  have xf : wx.frozen? ⟨hb, k, none⟩ = false := by rw [hwx, World.frozen?_alloc_old _ _ _ (by simp; omega), hfr]
  have xf2 : wx.frozen? ⟨l, 2, none⟩ = false := by rw [hwx, World.frozen?_alloc_old _ _ _ (by simp; omega), hf2]
  obtain ⟨cur, hcur⟩ := (owns_block HROW.out).2
  have hlp : l ≠ pt k := ne_of_type H.out.own hcur (by decide)
  have hNp : w.heap.size ≠ pt k := by have := lt_of_block hcur; omega
  obtain ⟨cur2, hcur2⟩ := (owns_block H.out.hdr).2
  have hbp : hb ≠ pt k := ne_of_type hcur2 hcur (by decide)
  have hlb : l ≠ hb := ne_of_type H.out.own hcur2 (by decide)
  have hbl' : hb ≠ l := fun e => hlb e.symm
  have hNb : w.heap.size ≠ hb := by omega
  have hbN : hb ≠ w.heap.size := by omega
  clear hcur hcur2 hfr
  have hlx : l < wx.heap.size := World.block_lt_of_cell? _ _ x0
  have hbx : hb < wx.heap.size := World.block_lt_of_cell? _ _ xk
  have hNx : w.heap.size < wx.heap.size := World.block_lt_of_cell? _ _ y0
  rw [← hwx]
  have HWX := hid hwx
  clear hwx hc0 hc2 hcell
  generalize hN : w.heap.size = N at *
  have HN := hid hN
  clear hN
  go_region_held3 (fun w' => w'.cell? ⟨l, 0, none⟩ = some (.slice (some ⟨hb, 0, none⟩) (k + 1) hc) ∧ w'.cell? ⟨N, 0, none⟩ = some (.int .u32 s) ∧ w'.cell? ⟨N, 1, none⟩ = some (.int .u32 o) ∧ w'.cell? ⟨N, 2, none⟩ = some (.int .u32 i) ∧ w'.cell? ⟨N, 3, none⟩ = some (.int .u16 att) ∧ w'.cell? ⟨N, 4, none⟩ = some (.int .i64 due)) (go_keep)
    (first
      | (go_at_call 35
         refine (pack_any _ s o i att due ha hd).mono ?_
         rintro e w2 ⟨rfl, hb2⟩
         obtain ⟨z0, z2, t0, t1, t2, t3, t4, zk, zf, zf2, HX2, hsz2⟩ := after_call hb2 x0 x2 y0 y1 y2 y3 y4 xk xf xf2 HX.out)
      | (refine step_append_fits rfl _ _ 80 rfl B 84 i84 5 Try.underlying80 hi hz1 (pt k) es.length (cp k) (flat es) rfl (HX2.out.alloc _) ⟨w2.heap.size, 0, none⟩ 1 1 _ rfl rfl (news5 (p := packOf s o i att due) (heap_alloc_new _ _)) (one5 (packOf s o i att due)) (by omega) ?_
         intro w3 hown3 hgrow3
         obtain ⟨z0', z2', t0', t1', t2', t3', t4', zk', zf', zf2', hl3⟩ := after_append hgrow3 hsz2 z0 z2 t0 t1 t2 t3 t4 zk zf zf2 hlp hNp hbp))
  go_wp2
  go_end0
  have hgw : w.grownBy w3 (some (pt k)) := grown_trans (grown_alloc (grown_trans (b := wx.drew) (by rw [HWX.out]; exact grown_drew (grown_alloc ⟨rfl, rfl, rfl, Nat.le_refl _, fun _ _ _ => rfl⟩ _)) (grown_of_below hb2)) _) hgrow3
  rw [HES.out]
  have hst := lst_n (lst_store (es := es ++ [packOf s o i att due]) (c := cp k) (H.out.but k) hgw (fun j hj hne e => hne (H.out.inj j k hj (by have := HK.out; omega) e)) hlp hbp (by rw [flat_snoc, List.length_append]; exact hown3) hle2) (n + 1)
  rw [List.length_append] at hst
  refine ⟨rfl, ⟨_, _, _, hst⟩, ?_⟩
  refine ⟨?_, keep_push hgw (.inr (owns_block HROW.out).2) (owns_block H.out.hdr).2 ⟨_, H.out.own⟩⟩
  exact (((Below.refl B w).grown hgw (by have := H.out.hl; have := HN.out; omega) (by rintro j e; simp at e; have := (owns_block HROW.out).1; omega)).setCell hBb _).setCell H.out.hl _
end Go.Proofs.Qxb6602566a
