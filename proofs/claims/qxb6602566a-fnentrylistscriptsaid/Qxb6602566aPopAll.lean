import Derived.Test.Qxb6602566aPop
import Derived.Test.Qxb6602566aPlain
namespace Go.Proofs.Qxb6602566a
open Go.RowKit

/-- The blocks behind a popBack that leaves an entry. -/
def popB (bs : List (List Pk)) : List (List Pk) :=
  if (bs.getD (bs.length - 1) []).length = 1 then bs.take (bs.length - 1) else bs.set (bs.length - 1) ((bs.getD (bs.length - 1) []).take ((bs.getD (bs.length - 1) []).length - 1))

/-- The entry that a popBack hands back is the last. -/
structure LastIs (bs : List (List Pk)) (p : Pk) : Prop where
  ne : bs ≠ []
  pos : 1 ≤ (bs.getD (bs.length - 1) []).length
  last : (bs.getD (bs.length - 1) [])[(bs.getD (bs.length - 1) []).length - 1]? = some p

/-- What a popBack leaves. -/
def Popped (w' : World) (B l : Nat) (bs : List (List Pk)) (head n : Int) : Prop :=
  (n = 1 ∧ LstAt w' B l [] (fun _ => 0) (fun _ => 0) (.slice none 0 0) 0 0) ∨ (1 < n ∧ ∃ pt' cp' hv', LstAt w' B l (popB bs) pt' cp' hv' head (n - 1))

theorem pop_any (w : World) (B l : Nat) (bs : List (List Pk)) (pt cp : Nat → Nat) (hv : Value) (head n : Int) (h : LstAt w B l bs pt cp hv head n) (hl : bs.length ≤ 1048577) (p : Pk) (hp : LastIs bs p) (hn : 1 ≤ n) (hn2 : n ≤ 9223372036854775807) :
    Calls Try.prog 34 #[.pointer (some ⟨l, 0, none⟩)] w fun e w' => e = .returned (.agg #[.int .u32 p.a, .int .u32 p.b, .int .u32 p.c, .int .u32 p.d, .int .u32 p.e]) ∧ Popped w' B l bs head n ∧ Fr B w w' := by
  have hpos : 0 < bs.length := List.length_pos_iff.2 hp.ne
  have hk : bs.length - 1 + 1 = bs.length := by omega
  have hL : (bs.getD (bs.length - 1) []).length = (bs.getD (bs.length - 1) []).length - 1 + 1 := by have := hp.pos; omega
  by_cases h1 : n = 1
  · subst h1
    refine (pop_clear w B l bs pt cp hv head 1 h hl (bs.length - 1) _ hk hL p hp.last).mono ?_
    rintro e w' ⟨a, b, c⟩
    exact ⟨a, .inl ⟨rfl, b⟩, c⟩
  · by_cases h2 : (bs.getD (bs.length - 1) []).length = 1
    · refine (pop_row w B l bs pt cp hv head n h hl (bs.length - 1) _ hk hL p hp.last (by omega) (by omega) hn2).mono ?_
      rintro e w' ⟨a, ⟨hv', b⟩, c⟩
      refine ⟨a, .inr ⟨by omega, pt, cp, hv', ?_⟩, c⟩
      unfold popB
      rw [if_pos h2]
      exact b
    · refine (pop_in w B l bs pt cp hv head n h hl (bs.length - 1) _ hk hL p hp.last (by have := hp.pos; omega) (by omega) hn2).mono ?_
      rintro e w' ⟨a, b, c⟩
      refine ⟨a, .inr ⟨by omega, ?_⟩, c⟩
      unfold popB
      rw [if_neg h2]
      exact b

theorem popped_alloc {w : World} {B l : Nat} {bs : List (List Pk)} {head n : Int} (h : Popped w B l bs head n) (o : Obj) : Popped (w.alloc o) B l bs head n := by
  rcases h with ⟨h1, h2⟩ | ⟨h1, pt, cp, hv, h2⟩
  · exact .inl ⟨h1, lst_alloc h2 o⟩
  · exact .inr ⟨h1, pt, cp, hv, lst_alloc h2 o⟩

theorem popped_keep {A A' : World} {B l : Nat} {bs : List (List Pk)} {head n : Int} (h : Popped A B l bs head n) (hb : Below A.heap.size A A') : Popped A' B l bs head n := by
  have key : ∀ {bs' : List (List Pk)} {pt cp : Nat → Nat} {hv : Value} {hd m : Int}, LstAt A B l bs' pt cp hv hd m → LstAt A' B l bs' pt cp hv hd m := fun {bs' pt cp hv hd m} h => by
    refine lst_keep h hb (lt_of_block h.own) (fun g e => (hdr_row h g e).2.1) (fun i hi => lt_of_block (owns_block (h.row i hi)).2.choose_spec)
  rcases h with ⟨h1, h2⟩ | ⟨h1, pt, cp, hv, h2⟩
  · exact .inl ⟨h1, key h2⟩
  · exact .inr ⟨h1, pt, cp, hv, key h2⟩

/-- A store into a block of another type. -/
theorem lst_setT {A : World} {B l N o : Nat} {bs : List (List Pk)} {pt cp : Nat → Nat} {hv v : Value} {head n : Int} {c : Array Value} {e : TypeId} {fr : Nat × Nat} (h : LstAt A B l bs pt cp hv head n) (hN : A.heap[N]? = some (.cells c e fr)) (h1 : e ≠ 79) (h2 : e ≠ 80) (h3 : e ≠ 84) :
    LstAt (A.setCell ⟨N, o, none⟩ v) B l bs pt cp hv head n := by
  refine ⟨h.hl, by rw [Below.heap_setCell _ _ _ _ (cells_ne h.own hN (Ne.symm h1))]; exact h.own, ?_, fun i hi => ?_, h.inj, h.cap⟩
  · refine ownsRow_setCell_other h.hdr ?_ _
    intro e'
    obtain ⟨c', hc'⟩ := hdr_80 h N e'
    exact cells_ne hN hc' h2 rfl
  · obtain ⟨c', hc'⟩ := (owns_block (h.row i hi)).2
    exact ownsRow_setCell_other (h.row i hi) (by simpa [Value.ownBlock] using cells_ne hc' hN (Ne.symm h3)) _

theorem type_set {A : World} {N o : Nat} {v : Value} {c : Array Value} {e : TypeId} {fr : Nat × Nat} (hN : A.heap[N]? = some (.cells c e fr)) : (A.setCell ⟨N, o, none⟩ v).heap[N]? = some (.cells (c.setIfInBounds o v) e fr) := by
  simp [World.setCell, Array.getElem?_modify, hN]

theorem popped_set5 {A : World} {B l N : Nat} {bs : List (List Pk)} {v0 v1 v2 v3 v4 : Value} {head n : Int} {c : Array Value} {fr : Nat × Nat} (h : Popped A B l bs head n) (hN : A.heap[N]? = some (.cells c 60 fr)) :
    Popped (((((A.setCell ⟨N, 0, none⟩ v0).setCell ⟨N, 1, none⟩ v1).setCell ⟨N, 2, none⟩ v2).setCell ⟨N, 3, none⟩ v3).setCell ⟨N, 4, none⟩ v4) B l bs head n := by
  have key : ∀ {bs' : List (List Pk)} {pt cp : Nat → Nat} {hv : Value} {hd m : Int}, LstAt A B l bs' pt cp hv hd m → LstAt (((((A.setCell ⟨N, 0, none⟩ v0).setCell ⟨N, 1, none⟩ v1).setCell ⟨N, 2, none⟩ v2).setCell ⟨N, 3, none⟩ v3).setCell ⟨N, 4, none⟩ v4) B l bs' pt cp hv hd m := fun h =>
    lst_setT (lst_setT (lst_setT (lst_setT (lst_setT h hN (by decide) (by decide) (by decide)) (type_set hN) (by decide) (by decide) (by decide)) (type_set (type_set hN)) (by decide) (by decide) (by decide)) (type_set (type_set (type_set hN))) (by decide) (by decide) (by decide)) (type_set (type_set (type_set (type_set hN)))) (by decide) (by decide) (by decide)
  rcases h with ⟨h1, h2⟩ | ⟨h1, pt, cp, hv, h2⟩
  · exact .inl ⟨h1, key h2⟩
  · exact .inr ⟨h1, pt, cp, hv, key h2⟩

set_option maxHeartbeats 1000000 in
set_option maxRecDepth 100000 in
theorem zzpop_any (w : World) (B l : Nat) (bs : List (List Pk)) (pt cp : Nat → Nat) (hv : Value) (head n : Int) (h : LstAt w B l bs pt cp hv head n) (hl : bs.length ≤ 1048577) (p : Pk) (hp : LastIs bs p) (hn : 1 ≤ n) (hn2 : n ≤ 9223372036854775807) :
    Calls Try.prog 27 #[.pointer (some ⟨l, 0, none⟩)] w fun e w' => e = .returned (.agg #[.int .u32 p.a, .int .u32 p.b, .int .u32 p.c, .int .u32 p.d, .int .u32 p.e]) ∧ Popped w' B l bs head n ∧ Fr B w w' := by
  have H := hid h
  have hB := h.hl
  have hll : l < w.heap.size := lt_of_block h.own
  clear h
  go_enter Try.func27, Try.ntmps27
  go_wp2_with fail
  refine (pop_any _ B l bs pt cp hv head n (lst_alloc H.out _) hl p hp hn hn2).mono ?_
  rintro e w1 ⟨rfl, h1, h2⟩
  have hq := h2.quiet w.heap.size _ 60 (0, 0) (heap_alloc_new w (.cells #[.int .u32 0, .int .u32 0, .int .u32 0, .int .u32 0, .int .u32 0] 60)) (by decide) (by decide) (by decide)
  have HP := hid h1
  have HB := hid h2
  have HQ := hid hq
  have hsz : w.heap.size + 1 ≤ w1.heap.size := by have := h2.below.size; simpa using this
  have hN : w.heap.size < w1.heap.size := by omega
  have n0 : w1.cell? ⟨w.heap.size, 0, none⟩ = some (.int .u32 0) := by simp [World.cell?, hq]
  have n1 : w1.cell? ⟨w.heap.size, 1, none⟩ = some (.int .u32 0) := by simp [World.cell?, hq]
  have n2 : w1.cell? ⟨w.heap.size, 2, none⟩ = some (.int .u32 0) := by simp [World.cell?, hq]
  have n3 : w1.cell? ⟨w.heap.size, 3, none⟩ = some (.int .u32 0) := by simp [World.cell?, hq]
  have n4 : w1.cell? ⟨w.heap.size, 4, none⟩ = some (.int .u32 0) := by simp [World.cell?, hq]
  have q0 : w1.frozen? ⟨w.heap.size, 0, none⟩ = false := by simp [World.frozen?, hq]
  have q1 : w1.frozen? ⟨w.heap.size, 1, none⟩ = false := by simp [World.frozen?, hq]
  have q2 : w1.frozen? ⟨w.heap.size, 2, none⟩ = false := by simp [World.frozen?, hq]
  have q3 : w1.frozen? ⟨w.heap.size, 3, none⟩ = false := by simp [World.frozen?, hq]
  have q4 : w1.frozen? ⟨w.heap.size, 4, none⟩ = false := by simp [World.frozen?, hq]
  clear h1 h2 hq
  go_wp2
  have hpp := popped_set5 (v0 := .int .u32 p.a) (v1 := .int .u32 p.b) (v2 := .int .u32 p.c) (v3 := .int .u32 p.d) (v4 := .int .u32 p.e) HP.out HQ.out
  have hbf := blk_set5 (v0 := .int .u32 p.a) (v1 := .int .u32 p.b) (v2 := .int .u32 p.c) (v3 := .int .u32 p.d) (v4 := .int .u32 p.e) HQ.out
  have hbel : Below B w ((((((w1.setCell ⟨w.heap.size, 0, none⟩ (.int .u32 p.a)).setCell ⟨w.heap.size, 1, none⟩ (.int .u32 p.b)).setCell ⟨w.heap.size, 2, none⟩ (.int .u32 p.c)).setCell ⟨w.heap.size, 3, none⟩ (.int .u32 p.d)).setCell ⟨w.heap.size, 4, none⟩ (.int .u32 p.e))) := by
    have hb1 : Below B w w1 := ((Below.refl B w).alloc (by omega) _).trans HB.out.below
    exact ((((hb1.setCell (by simp; omega) _).setCell (by simp; omega) _).setCell (by simp; omega) _).setCell (by simp; omega) _).setCell (by simp; omega) _
  have hqq : Quiet3 w ((((((w1.setCell ⟨w.heap.size, 0, none⟩ (.int .u32 p.a)).setCell ⟨w.heap.size, 1, none⟩ (.int .u32 p.b)).setCell ⟨w.heap.size, 2, none⟩ (.int .u32 p.c)).setCell ⟨w.heap.size, 3, none⟩ (.int .u32 p.d)).setCell ⟨w.heap.size, 4, none⟩ (.int .u32 p.e))) := by
    have hq1 : Quiet3 w w1 := ((Quiet3.refl w).alloc _).trans HB.out.quiet
    exact ((((hq1.setNew (Nat.le_refl _) _).setNew (Nat.le_refl _) _).setNew (Nat.le_refl _) _).setNew (Nat.le_refl _) _).setNew (Nat.le_refl _) _
  have hszf : (((((w1.setCell ⟨w.heap.size, 0, none⟩ (.int .u32 p.a)).setCell ⟨w.heap.size, 1, none⟩ (.int .u32 p.b)).setCell ⟨w.heap.size, 2, none⟩ (.int .u32 p.c)).setCell ⟨w.heap.size, 3, none⟩ (.int .u32 p.d)).setCell ⟨w.heap.size, 4, none⟩ (.int .u32 p.e)).heap.size = w1.heap.size := by simp
  generalize ((((w1.setCell ⟨w.heap.size, 0, none⟩ (.int .u32 p.a)).setCell ⟨w.heap.size, 1, none⟩ (.int .u32 p.b)).setCell ⟨w.heap.size, 2, none⟩ (.int .u32 p.c)).setCell ⟨w.heap.size, 3, none⟩ (.int .u32 p.d)).setCell ⟨w.heap.size, 4, none⟩ (.int .u32 p.e) = wf at *
  have hltf : w.heap.size < wf.heap.size := by omega
  have z0 : wf.cell? ⟨w.heap.size, 0, none⟩ = some (.int .u32 p.a) := by simp [World.cell?, hbf]
  have z1 : wf.cell? ⟨w.heap.size, 1, none⟩ = some (.int .u32 p.b) := by simp [World.cell?, hbf]
  have z2 : wf.cell? ⟨w.heap.size, 2, none⟩ = some (.int .u32 p.c) := by simp [World.cell?, hbf]
  have z3 : wf.cell? ⟨w.heap.size, 3, none⟩ = some (.int .u32 p.d) := by simp [World.cell?, hbf]
  have z4 : wf.cell? ⟨w.heap.size, 4, none⟩ = some (.int .u32 p.e) := by simp [World.cell?, hbf]
  refine bodyPost_ret (v := .agg #[.int .u32 p.a, .int .u32 p.b, .int .u32 p.c, .int .u32 p.d, .int .u32 p.e]) (by simp [results, Try.results27, go_sem, z0, z1, z2, z3, z4, hltf]) rfl ⟨rfl, popped_alloc hpp _, ⟨hbel.alloc (by omega) _, hqq.alloc _⟩⟩
end Go.Proofs.Qxb6602566a
