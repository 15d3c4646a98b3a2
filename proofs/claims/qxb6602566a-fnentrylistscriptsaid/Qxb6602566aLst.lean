import Derived.Test.Qxb6602566aState
namespace Go.Proofs.Qxb6602566a
open Go.RowKit

theorem owns_below {w w2 : World} {base : Nat} {e : TypeId} {size : Nat} {v : Value} {n : Nat} {xs : List Value} (h : w.ownsRow base e size v n xs) (hb : Below w.heap.size w w2) : w2.ownsRow base e size v n xs := by
  obtain ⟨h1, h2⟩ := h
  refine ⟨h1, ?_⟩
  rcases h2 with h2 | ⟨g, cap, cur, hv, hg, hh, r⟩
  · exact Or.inl h2
  · exact Or.inr ⟨g, cap, cur, hv, hg, by rw [hb.block _ (lt_of_block hh)]; exact hh, r⟩

theorem grown_cell {w w' : World} {g : Nat} (hg : w.grownBy w' (some g)) (p : Addr) (h1 : p.block < w.heap.size) (h2 : p.block ≠ g) : w'.cell? p = w.cell? p :=
  World.cell?_of_block (w := w) (hg.block _ h1 (fun e => h2 (by simpa using e)))
theorem grown_frozen {w w' : World} {g : Nat} (hg : w.grownBy w' (some g)) (p : Addr) (h1 : p.block < w.heap.size) (h2 : p.block ≠ g) : w'.frozen? p = w.frozen? p :=
  World.frozen?_of_block (w := w) (hg.block _ h1 (fun e => h2 (by simpa using e)))

/-- A row of type e1 is no block of type e2. -/
theorem owns_block {w : World} {base : Nat} {e : TypeId} {size b n cap : Nat} {xs : List Value} (h : w.ownsRow base e size (.slice (some ⟨b, 0, none⟩) n cap) n xs) : base ≤ b ∧ ∃ cur, w.heap[b]? = some (.cells cur e (0, 0)) := by
  obtain ⟨_, h2⟩ := h
  rcases h2 with ⟨h0, _⟩ | ⟨g, c, cur, hv, hg, hh, _⟩
  · simp at h0
  · simp only [Value.slice.injEq, Option.some.injEq, Addr.mk.injEq] at hv
    obtain ⟨⟨rfl, _⟩, _⟩ := hv
    exact ⟨hg, cur, hh⟩
theorem ne_of_type {w : World} {a b : Nat} {c1 c2 : Array Value} {e1 e2 : TypeId} (h1 : w.heap[a]? = some (.cells c1 e1 (0, 0))) (h2 : w.heap[b]? = some (.cells c2 e2 (0, 0))) (h : e1 ≠ e2) : a ≠ b := by
  rintro rfl
  rw [h1] at h2
  simp only [Option.some.injEq, Obj.cells.injEq] at h2
  exact h h2.2.1


theorem grown_of_below {w w' : World} {row : Option Nat} (h : Below w.heap.size w w') : w.grownBy w' row := ⟨h.os, h.tape, h.output, h.size, fun k hk _ => h.block k hk⟩
theorem grown_trans {a b c : World} {row : Option Nat} (h : a.grownBy b row) (k : b.grownBy c row) : a.grownBy c row :=
  ⟨k.os.trans h.os, k.tape.trans h.tape, k.output.trans h.output, Nat.le_trans h.size k.size, fun i hi hne => (k.block i (by have := h.size; omega) hne).trans (h.block i hi hne)⟩
theorem grown_alloc {a b : World} {row : Option Nat} (h : a.grownBy b row) (o : Obj) : a.grownBy (b.alloc o) row :=
  grown_trans h (grown_of_below ((Below.refl _ _).alloc (Nat.le_refl _) _))
theorem grown_drew {a b : World} {row : Option Nat} (h : a.grownBy b row) : a.grownBy b.drew row := ⟨h.os, h.tape, h.output, h.size, h.block⟩

/-- Every block but those of the list's own three types is as it was. -/
def Quiet3 (w w' : World) : Prop := ∀ (b : Nat) (c : Array Value) (e : TypeId) (fr : Nat × Nat), w.heap[b]? = some (.cells c e fr) → e ≠ 79 → e ≠ 80 → e ≠ 84 → w'.heap[b]? = some (.cells c e fr)

/-- What a call on the list leaves of other memory. -/
structure Fr (B : Nat) (w w' : World) : Prop where
  below : Below B w w'
  quiet : Quiet3 w w'

theorem Quiet3.refl (w : World) : Quiet3 w w := fun _ _ _ _ h _ _ _ => h
theorem Quiet3.trans {a b c : World} (h : Quiet3 a b) (k : Quiet3 b c) : Quiet3 a c := fun i x e fr hi h1 h2 h3 => k i x e fr (h i x e fr hi h1 h2 h3) h1 h2 h3
theorem Quiet3.of_below {w w' : World} (h : Below w.heap.size w w') : Quiet3 w w' := fun b c e fr hb _ _ _ => by rw [h.block b (lt_of_block hb)]; exact hb
theorem Quiet3.drew {a b : World} (h : Quiet3 a b) : Quiet3 a b.drew := h

theorem cells_ne {w : World} {a b : Nat} {c1 c2 : Array Value} {e1 e2 : TypeId} {f1 f2 : Nat × Nat} (h1 : w.heap[a]? = some (.cells c1 e1 f1)) (h2 : w.heap[b]? = some (.cells c2 e2 f2)) (h : e1 ≠ e2) : a ≠ b := by
  rintro rfl
  rw [h1] at h2
  simp only [Option.some.injEq, Obj.cells.injEq] at h2
  exact h h2.2.1

theorem Quiet3.set {w A : World} (h : Quiet3 w A) {b o : Nat} {c0 : Array Value} {e0 : TypeId} {f0 : Nat × Nat} (hb : w.heap[b]? = some (.cells c0 e0 f0)) (he : e0 = 79 ∨ e0 = 80 ∨ e0 = 84) (v : Value) : Quiet3 w (A.setCell ⟨b, o, none⟩ v) := by
  intro i c e fr hi h1 h2 h3
  rw [Below.heap_setCell _ _ _ _ (cells_ne hi hb (by rcases he with rfl | rfl | rfl <;> assumption))]
  exact h i c e fr hi h1 h2 h3
theorem Quiet3.setNew {w A : World} (h : Quiet3 w A) {b o : Nat} (hb : w.heap.size ≤ b) (v : Value) : Quiet3 w (A.setCell ⟨b, o, none⟩ v) := by
  intro i c e fr hi h1 h2 h3
  rw [Below.heap_setCell _ _ _ _ (by have := lt_of_block hi; simp; omega)]
  exact h i c e fr hi h1 h2 h3
theorem Quiet3.alloc {w A : World} (h : Quiet3 w A) (o : Obj) : Quiet3 w (A.alloc o) := by
  intro i c e fr hi h1 h2 h3
  have := h i c e fr hi h1 h2 h3
  rw [Below.heap_alloc _ _ _ (lt_of_block this)]
  exact this

theorem keep_push {w w3 : World} {g hb l k : Nat} {x y : Value} (hg : w.grownBy w3 (some g)) (hgt : w.heap.size ≤ g ∨ ∃ c, w.heap[g]? = some (.cells c 84 (0, 0))) (hhb : ∃ c, w.heap[hb]? = some (.cells c 80 (0, 0))) (hl : ∃ c, w.heap[l]? = some (.cells c 79 (0, 0))) :
    Quiet3 w ((w3.setCell ⟨hb, k, none⟩ x).setCell ⟨l, 2, none⟩ y) := by
  intro b c e fr hb' h1 h2 h3
  obtain ⟨c1, hc1⟩ := hhb
  obtain ⟨c2, hc2⟩ := hl
  have hlt := lt_of_block hb'
  have n1 : b ≠ g := by
    rcases hgt with h | ⟨c3, hc3⟩
    · omega
    · exact cells_ne hb' hc3 h3
  rw [Below.heap_setCell _ _ _ _ (cells_ne hb' hc2 h1), Below.heap_setCell _ _ _ _ (cells_ne hb' hc1 h2), hg.block b hlt (fun e => n1 (by simpa using e)), hb']

theorem keep_app {w w1 w3 : World} {g M l k : Nat} {row : Option Nat} {x y v : Value} (h0 : w.grownBy w1 row) (hrow : ∀ r, row = some r → ∃ c, w.heap[r]? = some (.cells c 80 (0, 0))) (hl : ∃ c, w.heap[l]? = some (.cells c 79 (0, 0)))
    (h1 : (w1.setCell ⟨l, 0, none⟩ v).grownBy w3 (some M)) (hM : w.heap.size ≤ M) (hg : ∃ c, w1.heap[g]? = some (.cells c 80 (0, 0))) :
    Quiet3 w ((w3.setCell ⟨g, k, none⟩ x).setCell ⟨l, 2, none⟩ y) := by
  intro b c e fr hb' e1 e2 e3
  obtain ⟨c2, hc2⟩ := hl
  obtain ⟨c4, hc4⟩ := hg
  have hlt := lt_of_block hb'
  have nl := cells_ne hb' hc2 e1
  have nr : some b ≠ row := fun e => by
    obtain ⟨c5, hc5⟩ := hrow b e.symm
    exact cells_ne hb' hc5 e2 rfl
  have hw1 : w1.heap[b]? = some (.cells c e fr) := by rw [h0.block b hlt nr, hb']
  have hw1' : (w1.setCell ⟨l, 0, none⟩ v).heap[b]? = some (.cells c e fr) := by rw [Below.heap_setCell _ _ _ _ nl, hw1]
  rw [Below.heap_setCell _ _ _ _ nl, Below.heap_setCell _ _ _ _ (cells_ne hw1 hc4 e2), h1.block b (lt_of_block hw1') (fun e => by simp at e; omega), hw1']

/-- A list whose row k is left open: its header's cell k holds x. -/
structure LstBut (w : World) (B l : Nat) (bs : List (List Pk)) (pt cp : Nat → Nat) (hv : Value) (head n : Int) (k : Nat) (x : Value) : Prop where
  hl : B ≤ l
  own : w.heap[l]? = some (.cells #[hv, .int .i64 head, .int .i64 n] 79 (0, 0))
  hdr : w.ownsRow B 80 1 hv bs.length ((List.range bs.length).map fun i => if i = k then x else .slice (some ⟨pt i, 0, none⟩) (bs.getD i []).length (cp i))
  row : ∀ i, i < bs.length → i ≠ k → w.ownsRow B 84 5 (.slice (some ⟨pt i, 0, none⟩) (bs.getD i []).length (cp i)) (bs.getD i []).length (flat (bs.getD i []))
  inj : ∀ i j, i < bs.length → j < bs.length → i ≠ k → j ≠ k → pt i = pt j → i = j
  cap : ∀ i, i < bs.length → i ≠ k → cp i ≤ 4096

theorem LstAt.but {w : World} {B l : Nat} {bs : List (List Pk)} {pt cp : Nat → Nat} {hv : Value} {head n : Int} (h : LstAt w B l bs pt cp hv head n) (k : Nat) :
    LstBut w B l bs pt cp hv head n k (.slice (some ⟨pt k, 0, none⟩) (bs.getD k []).length (cp k)) := by
  refine ⟨h.hl, h.own, ?_, fun i hi _ => h.row i hi, fun i j hi hj _ _ e => h.inj i j hi hj e, fun i hi _ => h.cap i hi⟩
  have := h.hdr
  rwa [List.map_congr_left (g := fun i => if i = k then .slice (some ⟨pt k, 0, none⟩) (bs.getD k []).length (cp k) else .slice (some ⟨pt i, 0, none⟩) (bs.getD i []).length (cp i)) (fun i _ => by
    by_cases e : i = k
    · subst e; rw [if_pos rfl]
    · rw [if_neg e])] at this

def upd (f : Nat → Nat) (k v : Nat) : Nat → Nat := fun i => if i = k then v else f i

theorem lst_store {w w3 : World} {B l hb len hc : Nat} {bs : List (List Pk)} {pt cp : Nat → Nat} {head n : Int} {k : Nat} {x : Value} {es : List Pk} {g c : Nat}
    (h : LstBut w B l bs pt cp (.slice (some ⟨hb, 0, none⟩) len hc) head n k x) (hg : w.grownBy w3 (some g)) (hne : ∀ i, i < bs.length → i ≠ k → pt i ≠ g) (hlg : l ≠ g) (hbg : hb ≠ g)
    (hown : w3.ownsRow B 84 5 (.slice (some ⟨g, 0, none⟩) es.length c) es.length (flat es)) (hc' : c ≤ 4096) :
    LstAt (w3.setCell ⟨hb, k, none⟩ (.slice (some ⟨g, 0, none⟩) es.length c)) B l (bs.set k es) (upd pt k g) (upd cp k c) (.slice (some ⟨hb, 0, none⟩) len hc) head n := by
  have hlen : len = bs.length := by
    obtain ⟨_, h2⟩ := h.hdr
    rcases h2 with ⟨h0, _⟩ | ⟨_, _, _, hv, _⟩
    · simp at h0
    · simp only [Value.slice.injEq] at hv; exact hv.2.1
  subst hlen
  obtain ⟨cur, hcur⟩ := (owns_block h.hdr).2
  have hlb : l ≠ hb := ne_of_type h.own hcur (by decide)
  have hgs : ∀ i, (bs.set k es).getD i [] = if i = k ∧ k < bs.length then es else bs.getD i [] := by
    intro i
    simp only [List.getD_eq_getElem?_getD, List.getElem?_set]
    by_cases e : i = k
    · subst e
      by_cases hi : i < bs.length
      · simp [hi]
      · simp [hi]
    · have e' : ¬ k = i := fun h => e h.symm
      simp [e, e']
  refine ⟨h.hl, ?_, ?_, ?_, ?_, ?_⟩
  · rw [Below.heap_setCell _ _ _ _ hlb, hg.block _ (lt_of_block h.own) (fun e => hlg (by simpa using e)), h.own]
  · have h1 := h.hdr.kept hg (.inr (by simpa [Value.ownBlock] using hbg))
    have h2 := (h1.stored k (.slice (some ⟨g, 0, none⟩) es.length c)).1
    rw [List.length_set]
    rw [show ((List.range bs.length).map fun i => Value.slice (some ⟨upd pt k g i, 0, none⟩) ((bs.set k es).getD i []).length (upd cp k c i)) = ((List.range bs.length).map fun i => if i = k then x else .slice (some ⟨pt i, 0, none⟩) (bs.getD i []).length (cp i)).set k (.slice (some ⟨g, 0, none⟩) es.length c) from ?_]
    · exact h2
    · apply List.ext_getElem?
      intro i
      rw [List.getElem?_set]
      by_cases hi : i < bs.length
      · by_cases e : i = k
        · subst e
          simp [hi, upd]
        · have e' : ¬ k = i := fun h => e h.symm
          simp only [List.getElem?_map, List.getElem?_range hi, Option.map_some, e', if_false, e, upd, hgs, false_and]
      · have : ¬ (k = i ∧ k < bs.length) := by omega
        by_cases e : k = i <;> simp [hi, e]
  · intro i hi
    rw [List.length_set] at hi
    rw [hgs]
    by_cases e : i = k
    · subst e
      simp only [hi, and_self, if_true, upd]
      exact ownsRow_setCell_other hown (by simpa [Value.ownBlock] using fun e => hbg e.symm) _
    · simp only [e, false_and, if_false, upd]
      have hr := h.row i hi e
      obtain ⟨c2, hc2⟩ := (owns_block hr).2
      refine ownsRow_setCell_other (hr.kept hg (.inr ?_)) ?_ _
      · simpa [Value.ownBlock] using hne i hi e
      · simpa [Value.ownBlock] using ne_of_type hc2 hcur (by decide)
  · intro i j hi hj
    rw [List.length_set] at hi hj
    simp only [upd]
    by_cases ei : i = k <;> by_cases ej : j = k <;> simp only [ei, ej, if_true, if_false]
    · intro _; trivial
    · intro e; exact absurd e.symm (hne j hj ej)
    · intro e; exact absurd e (hne i hi ei)
    · exact h.inj i j hi hj ei ej
  · intro i hi
    rw [List.length_set] at hi
    simp only [upd]
    by_cases e : i = k
    · simp only [e, if_true]; exact hc'
    · simp only [e, if_false]; exact h.cap i hi e

theorem lst_n {w : World} {B l : Nat} {bs : List (List Pk)} {pt cp : Nat → Nat} {hv : Value} {head n : Int} (h : LstAt w B l bs pt cp hv head n) (m : Int) :
    LstAt (w.setCell ⟨l, 2, none⟩ (.int .i64 m)) B l bs pt cp hv head m := by
  refine ⟨h.hl, ?_, ?_, fun i hi => ?_, h.inj, h.cap⟩
  · simp [World.setCell, Array.getElem?_modify, h.own]
  · obtain ⟨ha, hc, hv'⟩ := h.shape
    refine ownsRow_setCell_other h.hdr ?_ _
    have hh := h.hdr
    rw [hv'] at hh ⊢
    cases ha with
    | none => simp [Value.ownBlock]
    | some a =>
      obtain ⟨_, h2⟩ := hh
      rcases h2 with ⟨h0, _⟩ | ⟨g, cap, cur, hv, _, hg, _⟩
      · simp at h0
      · simp only [Value.slice.injEq, Option.some.injEq] at hv
        rw [hv.1]
        simp only [Value.ownBlock, ne_eq, Option.some.injEq]
        exact fun e => ne_of_type h.own hg (by decide) e.symm
  · obtain ⟨cur, hcur⟩ := (owns_block (h.row i hi)).2
    exact ownsRow_setCell_other (h.row i hi) (by simpa [Value.ownBlock] using fun e => ne_of_type h.own hcur (by decide) e.symm) _
end Go.Proofs.Qxb6602566a
