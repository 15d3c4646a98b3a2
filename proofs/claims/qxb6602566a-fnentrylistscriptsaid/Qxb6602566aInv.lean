/- What holds at each round's head of the script, and what a round's parts do to it. -/
import Derived.Test.Qxb6602566aPlain2
import Derived.Test.Qxb6602566aFlat
namespace Go.Proofs.Qxb6602566a
open Go.RowKit

structure Inv (w wr : World) (N M : Nat) (pk : Nat → Pk) (nx : Nat) (ms : List Nat) (bs : List (List Pk)) (pt cp : Nat → Nat) (hv : Value) : Prop where
  lst : LstAt wr N N bs pt cp hv 0 (ms.length : Int)
  flat : bs.flatten = ms.map pk
  shape : ShapeP (bs.map List.length) 0 (ms.length : Int)
  mod : wr.ownsRow N 3 1 (.slice (some ⟨N + 1, 0, none⟩) ms.length M) ms.length (ms.map fun t : Nat => Value.int .i64 (t : Int))
  lt : ∀ t ∈ ms, t < nx
  len : ms.length ≤ nx
  nxM : nx ≤ M
  below : Below N w wr

theorem lst_stay {A A' : World} {B l : Nat} {bs : List (List Pk)} {pt cp : Nat → Nat} {hv : Value} {head n : Int} (h : LstAt A B l bs pt cp hv head n) (hb : Below A.heap.size A A') : LstAt A' B l bs pt cp hv head n :=
  lst_keep h hb (lt_of_block h.own) (fun g e => (hdr_row h g e).2.1) (fun i hi => lt_of_block (owns_block (h.row i hi)).2.choose_spec)

/-- A block of another type has grown. -/
theorem lst_grownT {A A' : World} {B l g : Nat} {bs : List (List Pk)} {pt cp : Nat → Nat} {hv : Value} {head n : Int} {c : Array Value} {e : TypeId} {fr : Nat × Nat} (h : LstAt A B l bs pt cp hv head n) (hg : A.grownBy A' (some g)) (hc : A.heap[g]? = some (.cells c e fr)) (h1 : e ≠ 79) (h2 : e ≠ 80) (h3 : e ≠ 84) :
    LstAt A' B l bs pt cp hv head n := by
  refine ⟨h.hl, ?_, ?_, fun i hi => ?_, h.inj, h.cap⟩
  · rw [hg.block l (lt_of_block h.own) (fun e' => cells_ne h.own hc (Ne.symm h1) (by simpa using e'))]; exact h.own
  · refine h.hdr.kept hg ?_
    by_cases e' : hv.ownBlock = none
    · exact .inl e'
    · right
      intro e2
      obtain ⟨c', hc'⟩ := hdr_80 h g e2
      exact cells_ne hc hc' h2 rfl
  · obtain ⟨c', hc'⟩ := (owns_block (h.row i hi)).2
    exact (h.row i hi).kept hg (.inr (by simpa [Value.ownBlock] using cells_ne hc' hc (Ne.symm h3)))

theorem owns_quiet {w w' : World} {base : Nat} {e : TypeId} {size : Nat} {v : Value} {n : Nat} {xs : List Value} (h : w.ownsRow base e size v n xs) (hq : Quiet3 w w') (h1 : e ≠ 79) (h2 : e ≠ 80) (h3 : e ≠ 84) : w'.ownsRow base e size v n xs := by
  obtain ⟨a, b⟩ := h
  refine ⟨a, ?_⟩
  rcases b with b | ⟨g, cap, cur, hv, hg, hh, r⟩
  · exact .inl b
  · exact .inr ⟨g, cap, cur, hv, hg, hq g _ _ _ hh h1 h2 h3, r⟩

section
variable {w wr w' : World} {N M : Nat} {pk : Nat → Pk} {nx : Nat} {ms : List Nat} {bs : List (List Pk)} {pt cp : Nat → Nat} {hv : Value}

theorem Inv.stay (h : Inv w wr N M pk nx ms bs pt cp hv) (hb : Below wr.heap.size wr w') : Inv w w' N M pk nx ms bs pt cp hv :=
  ⟨lst_stay h.lst hb, h.flat, h.shape, owns_below h.mod hb, h.lt, h.len, h.nxM, h.below.trans (hb.mono (by have := lt_of_block h.lst.own; omega))⟩

theorem Inv.drewN (h : Inv w wr N M pk nx ms bs pt cp hv) (m : Nat) : Inv w (wr.drewN m) N M pk nx ms bs pt cp hv :=
  ⟨lst_drewN h.lst, h.flat, h.shape, h.mod, h.lt, h.len, h.nxM, below_drewN h.below⟩

theorem Inv.total (h : Inv w wr N M pk nx ms bs pt cp hv) : total bs = ms.length := by
  have := congrArg List.length h.flat
  rw [List.length_map] at this
  rw [total_flatten]
  exact this

theorem total_ge (ls : List Nat) (h : ∀ j, j < ls.length → 1 ≤ ls.getD j 0) : ls.length ≤ ls.sum := by
  induction ls with
  | nil => simp
  | cons a l ih =>
    have h0 := h 0 (by simp)
    have hr := ih (fun j hj => by have := h (j + 1) (by simp; omega); simpa [List.getD] using this)
    simp [List.getD] at h0
    simp
    omega

theorem Inv.bsLen (h : Inv w wr N M pk nx ms bs pt cp hv) : bs.length ≤ ms.length := by
  rw [← h.total]
  have := total_ge (bs.map List.length) (fun j hj => by
    rcases h.shape with ⟨e, _⟩ | ⟨_, hok, _⟩
    · rw [e] at hj; simp at hj
    · exact (hok j hj).1)
  rw [List.length_map] at this
  exact this

/-- Behind a push, the model not yet grown; then the model's append. -/
theorem Inv.push {w1 w2 : World} {pt' cp' : Nat → Nat} {hv' : Value} {o : Obj} (h : Inv w wr N M pk nx ms bs pt cp hv) (hx : nx < M) (hl : LstAt w1 N N (pushB bs (pk nx)) pt' cp' hv' 0 ((ms.length : Int) + 1)) (hf : Fr N wr w1)
    (hown : w2.ownsRow N 3 1 (.slice (some ⟨N + 1, 0, none⟩) (ms.length + 1) M) (ms.length + 1) ((ms.map fun t : Nat => Value.int .i64 (t : Int)) ++ [.int .i64 (nx : Int)])) (hg : (w1.alloc o).grownBy w2 (some (N + 1))) :
    Inv w w2 N M pk (nx + 1) (ms ++ [nx]) (pushB bs (pk nx)) pt' cp' hv' := by
  have hm1 := owns_quiet h.mod hf.quiet (by decide) (by decide) (by decide)
  obtain ⟨c, hc⟩ := (owns_block hm1).2
  have hlt1 := lt_of_block hl.own
  have e1 : ((ms ++ [nx]).length : Int) = (ms.length : Int) + 1 := by simp
  refine ⟨?_, by rw [pushB_flatten, h.flat]; simp, ?_, by simpa using hown, ?_, by simp; have := h.len; omega, by omega, ?_⟩
  · rw [e1]
    exact lst_grownT (lst_alloc hl o) hg (by rw [Below.heap_alloc _ _ _ (lt_of_block hc)]; exact hc) (by decide) (by decide) (by decide)
  · rw [e1]; exact shape_pushB bs (pk nx) 0 ms.length h.shape
  · intro t ht
    rcases List.mem_append.1 ht with ht | ht
    · have := h.lt t ht; omega
    · simp at ht; omega
  · exact ((h.below.trans hf.below).alloc (by omega) _).grown hg (by simp; omega) (by rintro j e; simp at e; omega)

/-- The entry that a pop will hand back. -/
theorem Inv.last (h : Inv w wr N M pk nx ms bs pt cp hv) {qs : List Nat} {t : Nat} (e : ms = qs ++ [t]) : LastIs bs (pk t) :=
  lastIs_of bs (qs.map pk) (pk t) 0 ms.length h.shape (by rw [h.flat, e]; simp)

/-- Behind a pop: the model one shorter. -/
theorem Inv.pop {w1 : World} (h : Inv w wr N M pk nx ms bs pt cp hv) {qs : List Nat} {t : Nat} (e : ms = qs ++ [t]) (hp : Popped w1 N N bs 0 (ms.length : Int)) (hf : Fr N wr w1) :
    ∃ bs' pt' cp' hv', Inv w w1 N M pk nx qs bs' pt' cp' hv' := by
  have hm1 := owns_quiet h.mod hf.quiet (by decide) (by decide) (by decide)
  have hmod : w1.ownsRow N 3 1 (.slice (some ⟨N + 1, 0, none⟩) qs.length M) qs.length (qs.map fun t : Nat => Value.int .i64 (t : Int)) := by
    subst e
    rw [List.length_append, List.map_append] at hm1
    exact ownsRow_pop (by simp) hm1
  have hlen : (ms.length : Int) = (qs.length : Int) + 1 := by rw [e]; simp
  have hlt : ∀ x ∈ qs, x < nx := fun x hx => h.lt x (by rw [e]; simp [hx])
  have hqn : qs.length ≤ nx := by have := h.len; rw [e] at this; simp at this; omega
  have hbel := h.below.trans hf.below
  have hlast := h.last e
  rcases hp with ⟨h1, h2⟩ | ⟨h1, pt', cp', hv', h2⟩
  · have hq : qs = [] := List.eq_nil_of_length_eq_zero (by omega)
    subst hq
    exact ⟨[], _, _, _, ⟨h2, rfl, .inl ⟨rfl, rfl, rfl⟩, hmod, hlt, hqn, h.nxM, hbel⟩⟩
  · have e2 : (ms.length : Int) - 1 = (qs.length : Int) := by omega
    rw [e2] at h2
    refine ⟨popB bs, pt', cp', hv', ⟨h2, ?_, ?_, hmod, hlt, hqn, h.nxM, hbel⟩⟩
    · have h3 := popB_flatten bs (pk t) hlast
      rw [h.flat, e, List.map_append] at h3
      have := List.append_inj_left' h3 (by simp)
      exact this.symm
    · rw [← e2]; exact shape_popB bs 0 ms.length h.shape (by omega)

theorem Inv.popped_stay {w1 w2 : World} {head n : Int} (h : Popped w1 N N bs head n) (hb : Below w1.heap.size w1 w2) : Popped w2 N N bs head n := popped_keep h hb
end
end Go.Proofs.Qxb6602566a
