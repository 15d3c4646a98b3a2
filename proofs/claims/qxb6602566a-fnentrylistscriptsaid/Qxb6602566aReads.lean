/- The calls that only read: the byte bound, the shape, the capacities. -/
import Derived.Test.Qxb6602566aBase
import Derived.BigQuiet
import Derived.Deep.QuietTactic
namespace Go.Proofs.Qxb6602566a
open Go.RowKit

theorem bytes15_any (w : World) (ao : Option Addr) (cap : Nat) (bs : List (List Pk)) (hr : InRows w ao bs) (hl : bs.length ≤ maxLen) (hls : ∀ l ∈ bs, l.length ≤ maxLen) (v1 v2 v3 v4 v5 v6 v7 v8 : Value) :
    Calls Try.prog 15 #[.slice ao bs.length cap, v1, v2, v3, v4, v5, v6, v7, v8] w (RetB w fun _ => True) := by
  unfold maxLen at hl hls
  go_enter Try.func15, Try.ntmps15
  go_wp2
  · go_ret
    exact ⟨false, rfl, rfl, trivial⟩
  · go_loop [19, 20] (fun t i => ∃ k T : Nat, k ≤ bs.length ∧ i = .int .i64 k ∧ t = .int .i64 T ∧ T ≤ 1048576) (fun _ i => bs.length - (intOf i).toNat)
    case atStart => exact ⟨0, bs.length, Nat.zero_le _, rfl, rfl, by omega⟩
    case round =>
      obtain ⟨k, T, hk, rfl, rfl, hb⟩ := hrel
      by_cases hlt : k < bs.length
      · obtain ⟨b, off, rfl, ai, ci, hcell, _⟩ := hr.at hlt
        have hle := hls bs[k] (List.getElem_mem hlt)
        clear hr hls
        generalize bs[k].length = L at *
        go_wp2
        · go_ret
          exact ⟨false, rfl, rfl, trivial⟩
        · go_ret
          exact ⟨false, rfl, rfl, trivial⟩
        · go_round
          case rel => exact ⟨k + 1, T + L, by omega, by go_num, by go_num, by omega⟩
          case measure => simp [intOf]; omega
      · go_wp2
        go_ret
        exact ⟨true, rfl, rfl, trivial⟩

theorem bytes28_any (w : World) (ao : Option Addr) (cap : Nat) (bs : List (List Pk)) (hr : InRows w ao bs) (hl : bs.length ≤ maxLen) (hls : ∀ l ∈ bs, l.length ≤ maxLen) (v1 v2 v3 v4 v5 v6 v7 v8 : Value) :
    Calls Try.prog 28 #[.slice ao bs.length cap, v1, v2, v3, v4, v5, v6, v7, v8] w (RetB w fun _ => True) := by
  unfold maxLen at hl hls
  go_enter Try.func28, Try.ntmps28
  go_wp2
  · go_ret
    exact ⟨false, rfl, rfl, trivial⟩
  · go_loop [19, 20] (fun t i => ∃ k T : Nat, k ≤ bs.length ∧ i = .int .i64 k ∧ t = .int .i64 T ∧ T ≤ 1048576) (fun _ i => bs.length - (intOf i).toNat)
    case atStart => exact ⟨0, bs.length, Nat.zero_le _, rfl, rfl, by omega⟩
    case round =>
      obtain ⟨k, T, hk, rfl, rfl, hb⟩ := hrel
      by_cases hlt : k < bs.length
      · obtain ⟨b, off, rfl, ai, ci, hcell, _⟩ := hr.at hlt
        have hle := hls bs[k] (List.getElem_mem hlt)
        clear hr hls
        generalize bs[k].length = L at *
        go_wp2
        · go_ret
          exact ⟨false, rfl, rfl, trivial⟩
        · go_ret
          exact ⟨false, rfl, rfl, trivial⟩
        · go_round
          case rel => exact ⟨k + 1, T + L, by omega, by go_num, by go_num, by omega⟩
          case measure => simp [intOf]; omega
      · go_wp2
        go_ret
        exact ⟨true, rfl, rfl, trivial⟩

/-- The last row's capacity. -/
def lastCapB (bs : List (List Pk)) (c : Int) : Bool :=
  match bs.getLast? with
  | none => true
  | some l => decide ((l.length : Int) ≤ c) && decide (c ≤ 4096)

theorem lastCap_any (w : World) (ao : Option Addr) (cap : Nat) (bs : List (List Pk)) (c : Int) (hr : InRows w ao bs) (hl : bs.length ≤ maxLen) :
    Calls Try.prog 19 #[.slice ao bs.length cap, .int .i64 c] w (RetB w fun r => r = lastCapB bs c) := by
  unfold maxLen at hl
  by_cases h0 : bs = []
  · subst h0
    go_enter Try.func19, Try.ntmps19
    go_wp2
    go_ret
    exact ⟨true, rfl, rfl, rfl⟩
  · have hp : 0 < bs.length := List.length_pos_iff.2 h0
    obtain ⟨b, off, rfl, ai, ci, hcell, _⟩ := hr.at (k := bs.length - 1) (by omega)
    have hlast : Hid (lastCapB bs c = (decide ((bs[bs.length - 1].length : Int) ≤ c) && decide (c ≤ 4096))) := by
      simp only [Hid, lastCapB, List.getLast?_eq_getElem?]
      rw [List.getElem?_eq_getElem (by omega)]
    clear hr h0
    generalize bs[bs.length - 1].length = L at *
    have hbl : off + ((bs.length : Int) - 1).toNat = off + (bs.length - 1) := by omega
    go_enter Try.func19, Try.ntmps19
    go_wp2
    · have h : (L : Int) ≤ c := by assumption
      go_ret
      exact ⟨decide (c ≤ 4096), rfl, rfl, by rw [hlast.out]; simp [h]⟩
    · have h : c < (L : Int) := by assumption
      go_ret
      exact ⟨false, rfl, rfl, by rw [hlast.out]; simp; omega⟩

/-- A slice of ints that holds these lengths. -/
def InInts (w : World) (ao : Option Addr) (ls : List Nat) : Prop :=
  ls = [] ∨ ∃ b off, ao = some ⟨b, off, none⟩ ∧ ∀ i (h : i < ls.length), w.cell? ⟨b, off + i, none⟩ = some (.int .i64 (ls[i] : Nat))

theorem InInts.at {w : World} {ao : Option Addr} {ls : List Nat} (hr : InInts w ao ls) {k : Nat} (h : k < ls.length) :
    ∃ b off, ao = some ⟨b, off, none⟩ ∧ ∀ i (h : i < ls.length), w.cell? ⟨b, off + i, none⟩ = some (.int .i64 (ls[i] : Nat)) := by
  rcases hr with rfl | hr
  · simp at h
  · exact hr

/-- Length j of a well-formed list of lengths. -/
def okAt (ls : List Nat) (j : Nat) : Prop := 1 ≤ ls.getD j 0 ∧ ls.getD j 0 ≤ 4096 ∧ (j + 1 < ls.length → ls.getD j 0 = 4096)

def ShapeP (ls : List Nat) (head n : Int) : Prop :=
  (ls = [] ∧ head = 0 ∧ n = 0) ∨ (ls ≠ [] ∧ (∀ j, j < ls.length → okAt ls j) ∧ 0 ≤ head ∧ head < ls.getD 0 0 ∧ n = ls.sum - head)

theorem sum_take_succ (ls : List Nat) (k : Nat) (h : k < ls.length) : (ls.take (k + 1)).sum = (ls.take k).sum + ls[k] := by
  rw [List.take_succ_eq_append_getElem h, List.sum_append_nat]
  simp

theorem sum_take_le (ls : List Nat) (k : Nat) (h : k ≤ ls.length) (hok : ∀ j, j < k → okAt ls j) : (ls.take k).sum ≤ k * 4096 := by
  induction k with
  | zero => simp
  | succ k ih =>
    rw [sum_take_succ ls k (by omega)]
    have h1 := ih (by omega) (fun j hj => hok j (by omega))
    have h2 := (hok k (by omega)).2.1
    rw [List.getD_eq_getElem?_getD, List.getElem?_eq_getElem (by omega : k < ls.length)] at h2
    simp at h2
    omega

set_option maxHeartbeats 800000 in
theorem shape_any (w : World) (ao : Option Addr) (cap : Nat) (ls : List Nat) (head n : Int) (hr : InInts w ao ls) (hl : ls.length ≤ 1048577) :
    Calls Try.prog 17 #[.slice ao ls.length cap, .int .i64 head, .int .i64 n] w (RetB w fun r => (r = true ↔ ShapeP ls head n)) := by
  by_cases h0 : ls = []
  · subst h0
    by_cases h1 : head = 0
    · subst h1
      go_enter Try.func17, Try.ntmps17
      go_wp2
      go_ret
      exact ⟨n == 0, rfl, rfl, by simp [ShapeP]⟩
    · have h1' : (head == 0) = false := by simpa using h1
      go_enter Try.func17, Try.ntmps17
      go_wp2
      go_ret
      exact ⟨false, rfl, rfl, by simp [ShapeP, h1]⟩
  · have hp : 0 < ls.length := List.length_pos_iff.2 h0
    obtain ⟨b, off, rfl, hc⟩ := hr.at hp
    have hc0 : w.cell? ⟨b, off, none⟩ = some (.int .i64 (ls[0] : Nat)) := hc 0 hp
    have hz : ((ls.length : Int) == 0) = false := by simp; omega
    have g0 : ls.getD 0 0 = ls[0] := by simp [List.getD, hp]
    have hF : Hid (∀ r, ((∀ j, j < ls.length → okAt ls j) → (r = true ↔ (0 ≤ head ∧ head < ls[0] ∧ n = ls.sum - head))) → (∀ j, j < ls.length → okAt ls j) → (r = true ↔ ShapeP ls head n)) := by
      intro r h hok
      rw [h hok]
      constructor
      · rintro ⟨a, b, c⟩; exact .inr ⟨h0, hok, a, by rw [g0]; exact b, c⟩
      · rintro (⟨e, _⟩ | ⟨_, _, a, b, c⟩)
        · exact absurd e h0
        · exact ⟨a, by rw [g0] at b; exact b, c⟩
    have hN : Hid (∀ j, j < ls.length → ¬ okAt ls j → (false = true ↔ ShapeP ls head n)) := by
      intro j hj hno
      constructor
      · simp
      · rintro (⟨e, _⟩ | ⟨_, hok, _⟩)
        · exact absurd e h0
        · exact absurd (hok j hj) hno
    clear h0 hr g0
    go_enter Try.func17, Try.ntmps17
    go_wp2
    go_loop [7, 9] (fun t i => ∃ k : Nat, k ≤ ls.length ∧ i = .int .i64 k ∧ t = .int .i64 ((ls.take k).sum : Nat) ∧ ∀ j, j < k → okAt ls j) (fun _ i => ls.length - (intOf i).toNat)
    case atStart => exact ⟨0, Nat.zero_le _, rfl, by simp, by simp⟩
    case round =>
      obtain ⟨k, hk, rfl, rfl, hok⟩ := hrel
      have hle := sum_take_le ls k hk hok
      have HOK : Hid _ := hok
      clear hok
      by_cases hlt : k < ls.length
      · have hck := hc k hlt
        have hs : Hid _ := sum_take_succ ls k hlt
        have gk : Hid (ls.getD k 0 = ls[k]) := by simp [Hid, List.getD, hlt]
        generalize ls[k] = x at *
        generalize (ls.take k).sum = S at *
        clear hc hc0
        by_cases c1 : x < 1
        · go_wp2
          go_ret
          exact ⟨false, rfl, rfl, hN.out k hlt (by unfold okAt; rw [gk.out]; omega)⟩
        · by_cases c2 : 4096 < x
          · go_wp2
            go_ret
            exact ⟨false, rfl, rfl, hN.out k hlt (by unfold okAt; rw [gk.out]; omega)⟩
          · by_cases c3 : (k : Int) < (ls.length : Int) - 1
            · by_cases c4 : x = 4096
              · subst c4
                go_wp2
                go_round
                case rel =>
                  refine ⟨k + 1, by omega, by go_num, by rw [hs.out]; go_num, fun j hj => ?_⟩
                  by_cases e : j = k
                  · subst e; unfold okAt; rw [gk.out]; omega
                  · exact HOK.out j (by omega)
                case measure => simp [intOf]; omega
              · have c4' : ((x : Int) != 4096) = true := by simp; omega
                clear c4
                go_wp2
                go_ret
                exact ⟨false, rfl, rfl, hN.out k hlt (by unfold okAt; rw [gk.out]; have := bne_iff_ne.1 c4'; omega)⟩
            · go_wp2
              go_round
              case rel =>
                refine ⟨k + 1, by omega, by go_num, by rw [hs.out]; go_num, fun j hj => ?_⟩
                by_cases e : j = k
                · subst e; unfold okAt; rw [gk.out]; omega
                · exact HOK.out j (by omega)
              case measure => simp [intOf]; omega
      · have hkl : Hid (k = ls.length) := by unfold Hid; omega
        have hS : Hid ((ls.take k).sum = ls.sum) := by unfold Hid; rw [List.take_of_length_le (by omega)]
        have hx0 : ls[0] ≤ 4096 := by
          have := (HOK.out 0 (by omega)).2.1
          rwa [List.getD_eq_getElem?_getD, List.getElem?_eq_getElem hp, Option.getD_some] at this
        generalize (ls.take k).sum = S at *
        generalize ls[0] = x0 at *
        clear hc
        by_cases d1 : head < 0
        · go_wp2
          go_ret
          exact ⟨false, rfl, rfl, hF.out false (fun _ => by simp; omega) (fun j hj => HOK.out j (by have := hkl.out; omega))⟩
        · by_cases d2 : (x0 : Int) ≤ head
          · go_wp2
            go_ret
            exact ⟨false, rfl, rfl, hF.out false (fun _ => by simp; omega) (fun j hj => HOK.out j (by have := hkl.out; omega))⟩
          · go_wp2
            go_ret
            exact ⟨n == (S : Int) - head, rfl, rfl, hF.out _ (fun _ => by rw [beq_iff_eq, hS.out]; omega) (fun j hj => HOK.out j (by have := hkl.out; omega))⟩

def CapsP (ls cs : List Nat) : Prop := cs.length = ls.length ∧ ∀ j, j < ls.length → ls.getD j 0 ≤ cs.getD j 0 ∧ cs.getD j 0 ≤ 4096

/-- The answer is yes where the capacities lie between the lengths and the block's. -/
theorem caps_yes (w : World) (ao ac : Option Addr) (cap cap' : Nat) (ls cs : List Nat) (hr : InInts w ao ls) (hs : InInts w ac cs) (hl : ls.length ≤ 1048577) (hp : CapsP ls cs) :
    Calls Try.prog 24 #[.slice ao ls.length cap, .slice ac cs.length cap'] w fun e w' => e = .returned (.bool true) ∧ ∃ n, w' = w.drewN n := by
  obtain ⟨hlen, hp⟩ := hp
  rw [hlen]
  go_enter Try.func24, Try.ntmps24
  go_wp2
  go_loopw [5] (fun i wr => ∃ k n : Nat, k ≤ ls.length ∧ i = .int .i64 k ∧ wr = w.drewN n) (fun i _ => ls.length - (intOf i).toNat)
  case atStart => exact ⟨0, 0, Nat.zero_le _, rfl, rfl⟩
  case round =>
    obtain ⟨k, n, hk, rfl, rfl⟩ := hrel
    by_cases hlt : k < ls.length
    · obtain ⟨b, off, rfl, hc⟩ := hr.at hlt
      obtain ⟨b', off', rfl, hc'⟩ := hs.at (k := k) (by omega)
      have h1 := hc k hlt
      have h2 := hc' k (by omega)
      have hh := hp k hlt
      rw [List.getD_eq_getElem?_getD, List.getElem?_eq_getElem hlt, List.getD_eq_getElem?_getD, List.getElem?_eq_getElem (by omega)] at hh
      simp only [Option.getD_some] at hh
      clear hc hc' hp hr hs
      generalize ls[k] = x at *
      generalize cs[k] = y at *
      obtain ⟨hx, hy⟩ := hh
      have hd : decide ((y : Int) < (x : Int)) = false := by simp; omega
      go_wp2_with fail
      go_quiet (fail)
      go_wp2
      go_roundw
      case rel => exact ⟨k + 1, n + nq, by omega, by go_num, rfl⟩
      case measure => simp [intOf]; omega
    · go_wp2
      go_ret
      exact ⟨rfl, n, rfl⟩
end Go.Proofs.Qxb6602566a
