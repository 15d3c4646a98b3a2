import Derived.Test.Qxb6602566aReads
import Derived.Laws.CopyOwn
import Derived.Deep.OwnRows
namespace Go.Proofs.Qxb6602566a
open Go.RowKit

theorem info3 : (Try.prog.info? 3).map (fun i => (i.zero, i.size, i.bytes)) = some (some (.int .i64 0), 1, 8) := by kernel_rfl
theorem info60 : (Try.prog.info? 60).map (fun i => (i.zero, i.size, i.bytes)) = some (some (.agg #[.int .u32 0, .int .u32 0, .int .u32 0, .int .u32 0, .int .u32 0]), 5, 20) := by kernel_rfl
theorem info84 : (Try.prog.info? 84).map (fun i => (i.zero, i.size, i.bytes)) = some (some (.agg #[.int .u32 0, .int .u32 0, .int .u32 0, .int .u32 0, .int .u32 0]), 5, 20) := by kernel_rfl
theorem info52 : (Try.prog.info? 52).map (fun i => (i.zero, i.size, i.bytes)) = some (some (.slice none 0 0), 1, 24) := by kernel_rfl
theorem info80 : (Try.prog.info? 80).map (fun i => (i.zero, i.size, i.bytes)) = some (some (.slice none 0 0), 1, 24) := by kernel_rfl

theorem mk_run {P : Program} (t e : TypeId) (z : Value) (size bytes : Nat) (ht : P.underlying t = some (.slice e)) (hinfo : (P.info? e).map (fun i => (i.zero, i.size, i.bytes)) = some (some z, size, bytes))
    (l c : Nat) (hlc : l ≤ c) (hb : bytes * c ≤ 281474976710656) (h63 : c ≤ 9223372036854775807) (w : World) :
    Sem.run P (Instr.makeSlice t (.int .i64 (l : Int)) (.int .i64 (c : Int))) w = .ok (.slice (some ⟨w.heap.size, 0, none⟩) l c) (w.alloc (.cells (madeCells z.cells (c * size)) e)) := by
  obtain ⟨i, hi, hz, hs, hby⟩ := info_parts hinfo
  have hb' : (i.bytes : Int) * (c : Int) ≤ 281474976710656 := by
    rw [hby]
    have h : ((bytes * c : Nat) : Int) ≤ 281474976710656 := by omega
    rwa [Int.natCast_mul] at h
  have := run_make (P := P) w t e i z ht hi hz .i64 .i64 l c (by omega) (by omega) hb' (by omega)
  simpa [hs] using this

/-- Cell i of the entries laid end to end. -/
def Pk.cell (p : Pk) : Nat → Value
  | 0 => .int .u32 p.a
  | 1 => .int .u32 p.b
  | 2 => .int .u32 p.c
  | 3 => .int .u32 p.d
  | _ => .int .u32 p.e
def cellsOf (es : List Pk) (i : Nat) : Value := (es.getD (i / 5) ⟨0, 0, 0, 0, 0⟩).cell (i % 5)


theorem In5.at {w : World} {ao : Option Addr} {es : List Pk} (hr : In5 w ao es) {k : Nat} (h : k < es.length) :
    ∃ b off, ao = some ⟨b, off, none⟩ ∧ w.cell? ⟨b, off + k * 5, none⟩ = some (.int .u32 es[k].a) ∧
    w.cell? ⟨b, off + k * 5 + 1, none⟩ = some (.int .u32 es[k].b) ∧
    w.cell? ⟨b, off + k * 5 + 2, none⟩ = some (.int .u32 es[k].c) ∧
    w.cell? ⟨b, off + k * 5 + 3, none⟩ = some (.int .u32 es[k].d) ∧
    w.cell? ⟨b, off + k * 5 + 4, none⟩ = some (.int .u32 es[k].e) := by
  rcases hr with rfl | ⟨b, off, e, hc⟩
  · simp at h
  · exact ⟨b, off, e, hc k h⟩


theorem fill_step (es : List Pk) (j : Nat) (hj : j < es.length) (i : Nat) (z : Value) :
    (if i = j * 5 + 4 then .int .u32 es[j].e else if i = j * 5 + 3 then .int .u32 es[j].d else if i = j * 5 + 2 then .int .u32 es[j].c else if i = j * 5 + 1 then .int .u32 es[j].b else if i = j * 5 then .int .u32 es[j].a else if i < 5 * j then cellsOf es i else z) =
      if i < 5 * (j + 1) then cellsOf es i else z := by
  have g : ∀ r, r < 5 → cellsOf es (j * 5 + r) = es[j].cell r := by
    intro r hr
    unfold cellsOf
    rw [show (j * 5 + r) / 5 = j by omega, show (j * 5 + r) % 5 = r by omega]
    simp [List.getD, hj]
  by_cases h4 : i = j * 5 + 4
  · subst h4; rw [if_pos rfl, if_pos (by omega), g 4 (by omega)]; rfl
  by_cases h3 : i = j * 5 + 3
  · subst h3; rw [if_neg (by omega), if_pos rfl, if_pos (by omega), g 3 (by omega)]; rfl
  by_cases h2 : i = j * 5 + 2
  · subst h2; rw [if_neg (by omega), if_neg (by omega), if_pos rfl, if_pos (by omega), g 2 (by omega)]; rfl
  by_cases h1 : i = j * 5 + 1
  · subst h1; rw [if_neg (by omega), if_neg (by omega), if_neg (by omega), if_pos rfl, if_pos (by omega), g 1 (by omega)]; rfl
  by_cases h0 : i = j * 5
  · subst h0; rw [if_neg (by omega), if_neg (by omega), if_neg (by omega), if_neg (by omega), if_pos rfl, if_pos (by omega), ← Nat.add_zero (j * 5), g 0 (by omega)]; rfl
  rw [if_neg h4, if_neg h3, if_neg h2, if_neg h1, if_neg h0]
  by_cases h : i < 5 * j
  · rw [if_pos h, if_pos (by omega)]
  · rw [if_neg h, if_neg (by omega)]

theorem row_set5 {w : World} {b : Nat} {t : TypeId} {n : Nat} {f : Nat → Value} (h : w.rowIs b t n f) (o : Nat) (v0 v1 v2 v3 v4 : Value) :
    (((((w.setCell ⟨b, o, none⟩ v0).setCell ⟨b, o + 1, none⟩ v1).setCell ⟨b, o + 2, none⟩ v2).setCell ⟨b, o + 3, none⟩ v3).setCell ⟨b, o + 4, none⟩ v4).rowIs b t n
      (fun i => if i = o + 4 then v4 else if i = o + 3 then v3 else if i = o + 2 then v2 else if i = o + 1 then v1 else if i = o then v0 else f i) :=
  ((((h.set o v0).set (o + 1) v1).set (o + 2) v2).set (o + 3) v3).set (o + 4) v4

theorem row_made5 (w : World) (n : Nat) (t : TypeId) :
    (w.alloc (.cells (madeCells #[.int .u32 0, .int .u32 0, .int .u32 0, .int .u32 0, .int .u32 0] (n * 5)) t)).rowIs w.heap.size t (n * 5) (fun _ => .int .u32 0) := by
  have h := World.rowIs_alloc w (madeCells #[.int .u32 0, .int .u32 0, .int .u32 0, .int .u32 0, .int .u32 0] (n * 5)) t (fun _ => .int .u32 0) fun i hi => ?_
  · rwa [size_madeCells] at h
  rw [size_madeCells] at hi
  have h5 : ∀ r, r < 5 → ([Value.int .u32 0, .int .u32 0, .int .u32 0, .int .u32 0, .int .u32 0][r]?).getD default = .int .u32 0 := by
    intro r hr
    match r, hr with
    | 0, _ => rfl
    | 1, _ => rfl
    | 2, _ => rfl
    | 3, _ => rfl
    | 4, _ => rfl
  have := h5 (i % 5) (by omega)
  simpa [madeCells, hi] using this

/-- What the list's blocks are while the list is being made: the first k stand. -/
def capAt (bs : List (List Pk)) (c : Nat) (i : Nat) : Nat := if i + 1 = bs.length then c else (bs.getD i []).length
def RowsMade (wr : World) (N : Nat) (bs : List (List Pk)) (c : Nat) (pt : Nat → Nat) (k : Nat) : Prop :=
  ∀ i, i < k → N + 2 ≤ pt i ∧ pt i < wr.heap.size ∧ wr.rowIs (pt i) 84 (capAt bs c i * 5) (fun q => if q < 5 * (bs.getD i []).length then cellsOf (bs.getD i []) q else .int .u32 0)
def hdrVal (bs : List (List Pk)) (c : Nat) (pt : Nat → Nat) (k i : Nat) : Value := if i < k then .slice (some ⟨pt i, 0, none⟩) (bs.getD i []).length (capAt bs c i) else .slice none 0 0
def InjTo (pt : Nat → Nat) (k : Nat) : Prop := ∀ i j, i < k → j < k → pt i = pt j → i = j

theorem made_step {w wo wr : World} {N k c cc : Nat} {bs : List (List Pk)} {es : List Pk} {pt : Nat → Nat} {hv h1 h2 : Value}
    (hS : wo.heap[N]? = some (.cells #[hv, h1, h2] 79 (0, 0))) (hH : wo.rowIs (N + 1) 80 bs.length (hdrVal bs c pt k)) (hP : RowsMade wo N bs c pt k) (hI : InjTo pt k)
    (hb2 : Below wo.heap.size wo wr) (hrow : wr.rowIs wo.heap.size 84 (cc * 5) (fun q => if q < 5 * es.length then cellsOf es q else .int .u32 0)) (hb : Below N w wo) (hlt : k < bs.length) (hes : bs.getD k [] = es) (hcc : capAt bs c k = cc) :
    (wr.setCell ⟨N + 1, k, none⟩ (.slice (some ⟨wo.heap.size, 0, none⟩) es.length cc)).heap[N]? = some (.cells #[hv, h1, h2] 79 (0, 0)) ∧
    (wr.setCell ⟨N + 1, k, none⟩ (.slice (some ⟨wo.heap.size, 0, none⟩) es.length cc)).rowIs (N + 1) 80 bs.length (hdrVal bs c (fun i => if i = k then wo.heap.size else pt i) (k + 1)) ∧
    RowsMade (wr.setCell ⟨N + 1, k, none⟩ (.slice (some ⟨wo.heap.size, 0, none⟩) es.length cc)) N bs c (fun i => if i = k then wo.heap.size else pt i) (k + 1) ∧
    InjTo (fun i => if i = k then wo.heap.size else pt i) (k + 1) ∧
    Below N w (wr.setCell ⟨N + 1, k, none⟩ (.slice (some ⟨wo.heap.size, 0, none⟩) es.length cc)) := by
  subst hes hcc
  have hNlt : N < wo.heap.size := lt_of_block hS
  have hN1 : N + 1 < wo.heap.size := hH.lt
  have hbb : Below N w wr := hb.trans (hb2.mono (by omega))
  refine ⟨?_, ?_, ?_, ?_, ?_⟩
  · rw [Below.heap_setCell _ _ _ _ (by simp), hb2.block _ hNlt, hS]
  · refine ((hH.of_block (hb2.block _ hN1)).set k _).congr fun i hi => ?_
    by_cases e : i = k
    · subst e; simp [hdrVal]
    · have : (i < k + 1) ↔ (i < k) := by omega
      simp [hdrVal, e, this]
  · intro i hi
    by_cases e : i = k
    · subst e
      simp only [if_true]
      exact ⟨by omega, by rw [World.size_setCell]; exact hrow.lt, hrow.setOther (by simp; omega) _⟩
    · simp only [e, if_false]
      obtain ⟨p1, p2, p3⟩ := hP i (by omega)
      exact ⟨p1, by rw [World.size_setCell]; have := hb2.size; omega, (p3.of_block (hb2.block _ p2)).setOther (by simp; omega) _⟩
  · intro i j hi hj he
    by_cases ei : i = k <;> by_cases ej : j = k <;> simp only [ei, ej, if_true, if_false] at he ⊢
    · have := (hP j (by omega)).2.1; omega
    · have := (hP i (by omega)).2.1; omega
    · exact hI i j (by omega) (by omega) he
  · exact hbb.setCell (by simp) _

theorem owns_of_row {w : World} {B b : Nat} {e : TypeId} {size n cap : Nat} {f : Nat → Value} (h : w.rowIs b e (cap * size) f) (hB : B ≤ b) (hn : n ≤ cap) (hm : cap ≤ maxLen) :
    w.ownsRow B e size (.slice (some ⟨b, 0, none⟩) n cap) n ((List.range (n * size)).map f) := by
  obtain ⟨c, hb, hs, hc⟩ := h
  refine ⟨by simp, .inr ⟨b, cap, c, rfl, hB, hb, hn, hm, hs, ?_⟩⟩
  apply List.ext_getElem?
  intro i
  have hle : n * size ≤ cap * size := Nat.mul_le_mul_right _ hn
  rw [List.getElem?_take]
  by_cases hi : i < n * size
  · rw [if_pos hi]
    have := hc i (by omega)
    simp [hi, ← Array.getElem?_toList] at this ⊢
    exact this
  · rw [if_neg hi]
    simp [hi]

/-- The entries' cells, end to end. -/
def flat (es : List Pk) : List Value := es.flatMap fun p => [.int .u32 p.a, .int .u32 p.b, .int .u32 p.c, .int .u32 p.d, .int .u32 p.e]

theorem flat_snoc (es : List Pk) (p : Pk) : flat (es ++ [p]) = flat es ++ [.int .u32 p.a, .int .u32 p.b, .int .u32 p.c, .int .u32 p.d, .int .u32 p.e] := by
  simp [flat]

theorem flat_length (es : List Pk) : (flat es).length = es.length * 5 := by
  induction es with
  | nil => rfl
  | cons p es ih =>
    simp only [flat, List.flatMap_cons, List.length_append, List.length_cons, List.length_nil] at *
    omega

theorem flat_get (es : List Pk) : ∀ (j : Nat) (h : j < es.length) (r : Nat), r < 5 → (flat es)[j * 5 + r]? = some (es[j].cell r) := by
  induction es with
  | nil => intro j h; simp at h
  | cons p es ih =>
    intro j h r hr
    have hc : flat (p :: es) = [Value.int .u32 p.a, .int .u32 p.b, .int .u32 p.c, .int .u32 p.d, .int .u32 p.e] ++ flat es := rfl
    rw [hc]
    match j with
    | 0 =>
      match r, hr with
      | 0, _ => rfl
      | 1, _ => rfl
      | 2, _ => rfl
      | 3, _ => rfl
      | 4, _ => rfl
    | j + 1 =>
      rw [List.getElem?_append_right (by simp; omega)]
      have := ih j (by simpa using h) r hr
      simpa [show (j + 1) * 5 + r - 5 = j * 5 + r by omega] using this

theorem flat_eq (es : List Pk) : (List.range (es.length * 5)).map (cellsOf es) = flat es := by
  apply List.ext_getElem?
  intro i
  by_cases hi : i < es.length * 5
  · have hj : i / 5 < es.length := by omega
    have h := flat_get es (i / 5) hj (i % 5) (by omega)
    rw [show i / 5 * 5 + i % 5 = i by omega] at h
    rw [h]
    simp [hi, cellsOf, List.getD, hj]
  · rw [List.getElem?_eq_none (by simp; omega), List.getElem?_eq_none (by rw [flat_length]; omega)]

theorem In5_of_owns {w : World} {B b cap : Nat} {e : TypeId} {es : List Pk} (h : w.ownsRow B e 5 (.slice (some ⟨b, 0, none⟩) es.length cap) es.length (flat es)) : In5 w (some ⟨b, 0, none⟩) es := by
  refine .inr ⟨b, 0, rfl, fun j hj => ?_⟩
  have g : ∀ r, r < 5 → w.cell? ⟨b, j * 5 + r, none⟩ = some (es[j].cell r) := fun r hr => by
    rw [h.cellAt _ (by omega), flat_get es j hj r hr]
  have g0 := g 0 (by omega)
  have g1 := g 1 (by omega)
  have g2 := g 2 (by omega)
  have g3 := g 3 (by omega)
  have g4 := g 4 (by omega)
  simp only [Nat.zero_add]
  exact ⟨g0, g1, g2, g3, g4⟩

theorem In5_of_row {w : World} {b cap : Nat} {e : TypeId} {es : List Pk} {z : Value} (h : w.rowIs b e (cap * 5) (fun q => if q < 5 * es.length then cellsOf es q else z)) (hc : es.length ≤ cap) (hm : cap ≤ maxLen) : In5 w (some ⟨b, 0, none⟩) es := by
  have := owns_of_row (B := 0) (size := 5) (n := es.length) h (Nat.zero_le _) hc hm
  rw [List.map_congr_left (g := cellsOf es) (fun q hq => by rw [if_pos (by have := List.mem_range.1 hq; omega)]), flat_eq] at this
  exact In5_of_owns this

/-- What 'make' of a list leaves: the list's own block, the header, the rows. -/
structure LstAt (w : World) (B l : Nat) (bs : List (List Pk)) (pt cp : Nat → Nat) (hv : Value) (head n : Int) : Prop where
  hl : B ≤ l
  own : w.heap[l]? = some (.cells #[hv, .int .i64 head, .int .i64 n] 79 (0, 0))
  hdr : w.ownsRow B 80 1 hv bs.length ((List.range bs.length).map fun i => .slice (some ⟨pt i, 0, none⟩) (bs.getD i []).length (cp i))
  row : ∀ i, i < bs.length → w.ownsRow B 84 5 (.slice (some ⟨pt i, 0, none⟩) (bs.getD i []).length (cp i)) (bs.getD i []).length (flat (bs.getD i []))
  inj : InjTo pt bs.length
  cap : ∀ i, i < bs.length → cp i ≤ 4096

end Go.Proofs.Qxb6602566a
