/- Plain readings of the two slice shapes on this seat's roads. -/
import Derived.Test.Qxb6602566aProg
import Derived.WalkKit
namespace Go.Proofs.Qxb6602566a
open Go.RowKit

theorem hid {p : Prop} (h : p) : Hid p := h

/-- One packed entry as five numbers. -/
structure Pk where
  a : Int
  b : Int
  c : Int
  d : Int
  e : Int

/-- A row of five-number entries is read from the address on. -/
def In5 (w : World) (ao : Option Addr) (es : List Pk) : Prop :=
  es = [] ∨ ∃ b off, ao = some ⟨b, off, none⟩ ∧ ∀ j (h : j < es.length),
    w.cell? ⟨b, off + j * 5, none⟩ = some (.int .u32 es[j].a) ∧
    w.cell? ⟨b, off + j * 5 + 1, none⟩ = some (.int .u32 es[j].b) ∧
    w.cell? ⟨b, off + j * 5 + 2, none⟩ = some (.int .u32 es[j].c) ∧
    w.cell? ⟨b, off + j * 5 + 3, none⟩ = some (.int .u32 es[j].d) ∧
    w.cell? ⟨b, off + j * 5 + 4, none⟩ = some (.int .u32 es[j].e)

/-- A slice of such rows. -/
def InRows (w : World) (ao : Option Addr) (bs : List (List Pk)) : Prop :=
  bs = [] ∨ ∃ b off, ao = some ⟨b, off, none⟩ ∧ ∀ i (h : i < bs.length),
    ∃ ai ci, w.cell? ⟨b, off + i, none⟩ = some (.slice ai bs[i].length ci) ∧ In5 w ai bs[i]

def total (bs : List (List Pk)) : Nat := (bs.map List.length).sum

theorem total_take_succ (bs : List (List Pk)) (k : Nat) (h : k < bs.length) : total (bs.take (k + 1)) = total (bs.take k) + bs[k].length := by
  unfold total
  rw [List.take_succ_eq_append_getElem h, List.map_append, List.sum_append_nat]
  simp

/-- The cell of row k, and how its entries are read. -/
theorem InRows.at {w : World} {ao : Option Addr} {bs : List (List Pk)} (hr : InRows w ao bs) {k : Nat} (h : k < bs.length) :
    ∃ b off, ao = some ⟨b, off, none⟩ ∧ ∃ ai ci, w.cell? ⟨b, off + k, none⟩ = some (.slice ai bs[k].length ci) ∧ In5 w ai bs[k] := by
  rcases hr with rfl | ⟨b, off, e, hc⟩
  · simp at h
  · exact ⟨b, off, e, hc k h⟩

/-- A call that only computes and answers a bool of which 'p' holds. -/
def RetB (w : World) (p : Bool → Prop) (e : Ending) (w' : World) : Prop := ∃ r, e = .returned (.bool r) ∧ w' = w ∧ p r

theorem listBytesOK_any (w : World) (ao : Option Addr) (cap : Nat) (bs : List (List Pk)) (hr : InRows w ao bs) (hl : bs.length ≤ maxLen) (hls : ∀ l ∈ bs, l.length ≤ maxLen) :
    Calls Try.prog 16 #[.slice ao bs.length cap] w (RetB w fun r => r = true → 24 * bs.length + 20 * total bs ≤ 1048576) := by
  unfold maxLen at hl hls
  go_enter Try.func16, Try.ntmps16
  go_wp2
  · go_ret
    exact ⟨false, rfl, rfl, by simp⟩
  · go_ret
    exact ⟨false, rfl, rfl, by simp⟩
  · go_loop [3, 4] (fun t i => ∃ k : Nat, k ≤ bs.length ∧ i = .int .i64 k ∧ t = .int .i64 ((24 * bs.length + 20 * total (bs.take k) : Nat) : Int) ∧ 24 * bs.length + 20 * total (bs.take k) ≤ 1048576) (fun _ i => bs.length - (intOf i).toNat)
    case atStart => exact ⟨0, Nat.zero_le _, rfl, by simp [total], by simp [total]; omega⟩
    case round =>
      obtain ⟨k, hk, rfl, rfl, hb⟩ := hrel
      by_cases hlt : k < bs.length
      · obtain ⟨b, off, rfl, ai, ci, hcell, _⟩ := hr.at hlt
        have hle := hls bs[k] (List.getElem_mem hlt)
        have hts : Hid _ := total_take_succ bs k hlt
        clear hr hls
        generalize total (bs.take k) = T at *
        generalize bs[k].length = L at *
        go_wp2
        · go_ret
          exact ⟨false, rfl, rfl, by simp⟩
        · go_ret
          exact ⟨false, rfl, rfl, by simp⟩
        · go_round
          case rel =>
            have := hts.out
            exact ⟨k + 1, by omega, by go_num, by rw [this]; go_num, by omega⟩
          case measure => simp [intOf]; omega
      · go_wp2
        go_ret
        exact ⟨true, rfl, rfl, fun _ => by
          rw [List.take_of_length_le (by omega)] at hb
          exact hb⟩
end Go.Proofs.Qxb6602566a
