/- The two escapers, walked. -/
import Derived.Test.Qxb6602749aEnd2
import Derived.Laws.BytesString
namespace Go.Proofs.Qxb6602749a
open Go.RowKit

/-- A backslash before each byte that is marked. -/
def es (m : Int → Bool) (l : List UInt8) : List UInt8 := l.flatMap fun c => if m (c.toNat : Int) then [92, c] else [c]
def vs (l : List UInt8) : List Value := l.map fun c => Value.int .u8 (c.toNat : Int)
def mq (c : Int) : Bool := c == 39 || c == 92
def mb (c : Int) : Bool := c == 39 || c == 92 || sp c

theorem es_nil (m : Int → Bool) : es m [] = [] := rfl
theorem es_cons (m : Int → Bool) (c : UInt8) (l : List UInt8) : es m (c :: l) = (if m (c.toNat : Int) then [92, c] else [c]) ++ es m l := by
  unfold es; rw [List.flatMap_cons]
theorem es_app (m : Int → Bool) (l r : List UInt8) : es m (l ++ r) = es m l ++ es m r := by unfold es; rw [List.flatMap_append]
theorem vs_app (l r : List UInt8) : vs (l ++ r) = vs l ++ vs r := List.map_append
theorem vs_len (l : List UInt8) : (vs l).length = l.length := by unfold vs; simp
theorem es_len (m : Int → Bool) (l : List UInt8) : (es m l).length ≤ 2 * l.length := by
  induction l with
  | nil => simp [es_nil]
  | cons c l ih => rw [es_cons, List.length_append, List.length_cons]; split <;> simp <;> omega

/-- What stands after k bytes. -/
def E (m : Int → Bool) (p : ByteArray) (k : Nat) : List UInt8 := es m (p.data.toList.take k)
theorem E_zero (m : Int → Bool) (p : ByteArray) : E m p 0 = [] := rfl
theorem E_len (m : Int → Bool) (p : ByteArray) (k : Nat) : (E m p k).length ≤ 2 * k := by
  have := es_len m (p.data.toList.take k)
  have h2 : (p.data.toList.take k).length ≤ k := by rw [List.length_take]; omega
  unfold E; omega
theorem E_succ (m : Int → Bool) (p : ByteArray) (k : Nat) (h : k < p.size) : E m p (k + 1) = E m p k ++ (if m (p[k].toNat : Int) then [92, p[k]] else [p[k]]) := by
  have h' : k < p.data.toList.length := by simpa using h
  unfold E
  rw [List.take_succ_eq_append_getElem h', es_app, es_cons, es_nil, List.append_nil]
  rfl
theorem E_yes (m : Int → Bool) (p : ByteArray) (k : Nat) (h : k < p.size) (hm : m (p[k].toNat : Int) = true) : vs (E m p (k + 1)) = (vs (E m p k) ++ [.int .u8 92]) ++ [.int .u8 (p[k].toNat : Int)] := by
  rw [E_succ m p k h, if_pos hm, vs_app, List.append_assoc]; rfl
theorem E_no (m : Int → Bool) (p : ByteArray) (k : Nat) (h : k < p.size) (hm : m (p[k].toNat : Int) = false) : vs (E m p (k + 1)) = vs (E m p k) ++ [.int .u8 (p[k].toNat : Int)] := by
  rw [E_succ m p k h, if_neg (by rw [hm]; simp), vs_app]; rfl
theorem E_all (m : Int → Bool) (p : ByteArray) : E m p p.size = es m p.data.toList := by
  unfold E; rw [List.take_of_length_le (by simp)]

theorem new1 (w : World) (v : Value) : ∀ j u, [v][j]? = some u → (w.alloc (.cells #[v] 5)).cell? ((⟨w.heap.size, 0, none⟩ : Addr).add j) = some u := by
  intro j u hj
  rw [Addr.add_lit]
  have hb : (w.alloc (.cells #[v] 5)).heap[w.heap.size]? = some (.cells #[v] 5) := heap_alloc_new w _
  unfold World.cell?
  rw [hb]
  show (#[v])[0 + j]? = _
  rw [Nat.zero_add]
  simpa using hj

theorem push_all (l : List UInt8) : ∀ acc : ByteArray, (l.map fun c => (c.toNat : Int)).foldl (fun r n => r.push (UInt8.ofNat n.toNat)) acc = ⟨(acc.data.toList ++ l).toArray⟩ := by
  induction l with
  | nil => intro acc; simp
  | cons c l ih =>
    intro acc
    rw [List.map_cons, List.foldl_cons, ih]
    have : (acc.push (UInt8.ofNat ((c.toNat : Int)).toNat)).data.toList = acc.data.toList ++ [c] := by
      simp [ByteArray.push]
    rw [this, List.append_assoc]; rfl

theorem conv_own (w : World) (base B n cap : Nat) (l : List UInt8) (hn : l.length = n) (hown : w.ownsRow base 5 1 (.slice (some ⟨B, 0, none⟩) n cap) n (vs l)) :
    (convert 28 9 (.slice (some ⟨B, 0, none⟩) n cap)).run Try.prog w = .ok (.string ⟨l.toArray⟩) w := by
  rw [run_convert_bytes_string w 28 9 5 _ _ _ Try.underlying28 Try.underlying5 Try.underlying9]
  have hl := run_loadCells_list (P := Try.prog) (w := w) ⟨B, 0, none⟩ (vs l) (hown.cells rfl)
  rw [vs_len, hn] at hl
  have := run_bytesToString (P := Try.prog) w ⟨B, 0, none⟩ n cap (l.map fun c => (c.toNat : Int)) (by rw [hl]; simp [vs])
  rw [this, push_all]
  simp

theorem info5 : (Try.prog.info? 5).map (fun i => (i.zero, i.size, i.bytes)) = some (some (.int .u8 0), 1, 1) := by kernel_rfl

/-- What the loop keeps. -/
structure Kept (m : Int → Bool) (p : ByteArray) (w wr : World) (k n : Nat) : Prop where
  len : (E m p k).length = n
  own : wr.ownsRow w.heap.size 5 1 (.slice (some ⟨w.heap.size, 0, none⟩) n (2 * p.size)) n (vs (E m p k))
  below : Below w.heap.size w wr

theorem grow_below {w wr w1 : World} (h : Below w.heap.size w wr) {o : Obj} (hg : (wr.alloc o).grownBy w1 (some w.heap.size)) : Below w.heap.size w w1 :=
  (h.alloc h.size o).grown hg (by have := h.size; simp; omega) (fun k hk => by cases hk; exact Nat.le_refl _)

theorem Kept.one {m : Int → Bool} {p : ByteArray} {w wr w2 : World} {k n : Nat} (h : Kept m p w wr k n) (hk : k < p.size) (hm : m (p[k].toNat : Int) = false) {o : Obj} (hg : (wr.alloc o).grownBy w2 (some w.heap.size))
    (ho : w2.ownsRow w.heap.size 5 1 (.slice (some ⟨w.heap.size, 0, none⟩) (n + 1) (2 * p.size)) (n + 1) (vs (E m p k) ++ [.int .u8 (p[k].toNat : Int)])) : Kept m p w w2 (k + 1) (n + 1) := by
  refine ⟨?_, ?_, grow_below h.below hg⟩
  · have := congrArg List.length (E_no m p k hk hm)
    rw [List.length_append, vs_len, vs_len, h.len] at this
    exact this
  · rw [E_no m p k hk hm]; exact ho

theorem Kept.two {m : Int → Bool} {p : ByteArray} {w wr w2 w3 : World} {k n : Nat} (h : Kept m p w wr k n) (hk : k < p.size) (hm : m (p[k].toNat : Int) = true) {o o' : Obj} (hg : (wr.alloc o).grownBy w2 (some w.heap.size)) (hg' : (w2.alloc o').grownBy w3 (some w.heap.size))
    (ho : w3.ownsRow w.heap.size 5 1 (.slice (some ⟨w.heap.size, 0, none⟩) (n + 1 + 1) (2 * p.size)) (n + 1 + 1) ((vs (E m p k) ++ [.int .u8 92]) ++ [.int .u8 (p[k].toNat : Int)])) : Kept m p w w3 (k + 1) (n + 1 + 1) := by
  refine ⟨?_, ?_, grow_below (grow_below h.below hg) hg'⟩
  · have := congrArg List.length (E_yes m p k hk hm)
    rw [List.length_append, List.length_append, vs_len, vs_len, h.len] at this
    exact this
  · rw [E_yes m p k hk hm]; exact ho

theorem ones (v : Value) (h : v.oneCell' = true) : ∀ u ∈ [v], u.oneCell' = true := fun u hu => by
  simp only [List.mem_singleton] at hu
  rw [hu]; exact h
end Go.Proofs.Qxb6602749a
