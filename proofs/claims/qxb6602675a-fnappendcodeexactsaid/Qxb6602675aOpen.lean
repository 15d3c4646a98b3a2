/- The arguments, opened; and one input that fits, shown by hand (the reader over 65536 cells is not evaluated). -/
import Derived.Test.Qxb6602675aRows
import Derived.Test.Qxb6602675aLaw
import Derived.Maps.OwnSet
import Derived.OpenShut
import Derived.ProofKit
import Derived.Below
namespace Go.Proofs.Qxb6602675a
open Go.ChangeShapes Go.WideShapes Go.ChangeAt Go.RowKit

theorem cells29 : Try.prog.cellsOf 29 = 65536 := by kernel_rfl
theorem cells28 : Try.prog.cellsOf 28 = 1 := by kernel_rfl
theorem zero28 (w : World) : (zeroValue 28).run Try.prog w = .ok (.int .u32 0) w := by kernel_rfl

section
variable {H : Type} {enc : TypeId × Value → H} {W : World} {base : Nat} {sp : Nat → Bool} {held : Bool} {fuel : Nat}

theorem open_codes {C : Array Value} {x : DataW H × List MemPlace} (h : DataW.trod enc Try.prog W base sp held fuel 29 C.toList = some x) :
    C.size = 65536 ∧ ∀ i, i < 65536 → ∃ g, C[i]? = some (.int .u32 g) ∧ 0 ≤ g ∧ g < 4294967296 := by
  obtain ⟨xs, m, rfl, rfl, hl, hx, hf⟩ := DataW.trod_array Try.underlying29 h
  have hsz : C.size = 65536 := by rw [← Array.length_toList, hl, cells29]
  refine ⟨hsz, fun i hi => ?_⟩
  have h1 := hf i hi
  have h2 : i < xs.length := by rw [hx]; exact hi
  have h3 : i < C.toList.length := by rw [Array.length_toList, hsz]; exact hi
  rw [cells28, Nat.mul_one, List.getElem?_eq_getElem h2, List.drop_eq_getElem_cons h3, List.take_succ_cons, List.take_zero] at h1
  obtain ⟨n, hn, _, hw⟩ := DataW.trod_int Try.underlying28 h1
  have hb := bounds_u32 hw
  refine ⟨n, ?_, hb.1, by omega⟩
  rw [← Array.getElem?_toList, List.getElem?_eq_getElem h3]
  simp only [List.cons.injEq, and_true] at hn
  rw [hn]

theorem keyIs {v : Value} {l : Lit} (h : keyOf Try.prog 21 v = some l) : MapKept.IsKey (.int .i32) v := by
  rw [keyOf_int Try.underlying21] at h
  unfold mapKey at h
  rw [Try.underlying21] at h
  cases v <;> simp at h
  obtain ⟨⟨rfl, _⟩, _⟩ := h
  trivial

theorem look_of {bm clock : Nat} {es : Array MapEntry} (F : WideMaps.Fit H Try.prog 21 .u32 es clock) (r : Int) :
    ∃ gm, (0 ≤ gm ∧ gm < 4294967296) ∧ ∀ W : World, W.heap[bm]? = some (.map es clock) → (Instr.lookup 30 (.map (some bm)) (.int .i32 r) false).run Try.prog W = .ok (.int .u32 gm) W := by
  have hk : MapKept.IsKey (.int .i32) (.int .i32 r) := rfl
  have hks : ∀ x ∈ es.toList, MapKept.IsKey (.int .i32) x.key := fun x hx => by
    obtain ⟨y, hy⟩ := F.reads x hx
    exact keyIs (WideMaps.rd_key hy)
  rcases MapKept.findNow_spec hk es.toList 0 hks with ⟨h1, _⟩ | ⟨j, e0, h1, h2, _⟩
  · refine ⟨0, ⟨by decide, by decide⟩, fun W hb => ?_⟩
    simp [Instr.lookup, run_underlying Try.underlying30, MapKept.run_getObj_map hb, MapKept.run_checkKey Try.underlying21 hk, MapKept.run_findKey Try.underlying21 h1, Result.andThen]
  · obtain ⟨y, hy⟩ := F.reads e0 (List.mem_of_getElem? h2)
    obtain ⟨n, hv, _, hw⟩ := WideMaps.rd_val hy
    have hb := bounds_u32 hw
    refine ⟨n, ⟨hb.1, by omega⟩, fun W hb => ?_⟩
    simp [Instr.lookup, run_underlying Try.underlying30, MapKept.run_getObj_map hb, MapKept.run_checkKey Try.underlying21 hk, MapKept.run_findKey Try.underlying21 h1, hv, Result.andThen]

theorem look_none (r : Int) (W : World) : (Instr.lookup 30 (.map none) (.int .i32 r) false).run Try.prog W = .ok (.int .u32 0) W := by
  have hk : MapKept.IsKey (.int .i32) (.int .i32 r) := rfl
  simp [Instr.lookup, run_underlying Try.underlying30, MapKept.run_checkKey Try.underlying21 hk, MapKept.run_findKey (l := []) (a := none) Try.underlying21 rfl, Result.andThen]

/-- The map that came in. -/
theorem open_beyond {m : Option Nat} {x : DataW H × List MemPlace} (h : DataW.trod enc Try.prog W base sp held fuel 30 [.map m] = some x) (r : Int) :
    ∃ (L : Nat) (gm : Int), (0 ≤ gm ∧ gm < 4294967296) ∧
      (∀ W', Below W.heap.size W W' → (Builtin.len_ #[30] 3 #[.map m]).run Try.prog W' = .ok (.int .i64 (L : Int)) W') ∧
      (∀ W', Below W.heap.size W W' → (Instr.lookup 30 (.map m) (.int .i32 r) false).run Try.prog W' = .ok (.int .u32 gm) W') := by
  rcases WideMaps.open_map Try.underlying30 Try.underlying28 h with ⟨hcs, _⟩ | ⟨b, es, clock, hcs, hb, _, F, _⟩
  · simp only [List.cons.injEq, Value.map.injEq, and_true] at hcs
    subst hcs
    exact ⟨0, 0, ⟨by decide, by decide⟩, fun W' _ => by rw [Maps.len_nil Try.underlying30]; rfl, fun W' _ => look_none r W'⟩
  · simp only [List.cons.injEq, Value.map.injEq, and_true] at hcs
    subst hcs
    obtain ⟨gm, hgm, hl⟩ := look_of (bm := b) F r
    have hlt : b < W.heap.size := (Array.getElem?_eq_some_iff.1 hb).1
    have hbl : ∀ W', Below W.heap.size W W' → W'.heap[b]? = some (.map es clock) := fun W' bel => by
      rw [bel.block b hlt]; exact hb
    exact ⟨es.size, gm, hgm, fun W' bel => run_len_map W' 30 3 b es clock (by rw [Try.underlying30]; simp [Program.mapKeyOf, Program.mapElemOf, Try.underlying30]) (hbl W' bel), fun W' bel => hl W' (hbl W' bel)⟩
end

/-- A slice of bytes that came in. -/
theorem open_dst {w : World} {a : Option Addr} {len cap : Nat} {zs : List Int} (h : (a = none ∧ len = 0 ∧ cap = 0 ∧ zs = []) ∨
  ∃ x, a = some x ∧ len ≤ cap ∧ cap ≤ maxLen ∧ zs.length = cap ∧ (∀ i, i < zs.length → w.cell? (x.add i) = some (.int .u8 (zs.getD i 0))) ∧ ∀ n ∈ zs, (Lit.int .u8 n).wf = true) :
    ∃ ys : List Int, ys.length = len ∧ InU .u8 w a ys ∧ ys.length ≤ maxLen := by
  rcases h with ⟨rfl, rfl, rfl, rfl⟩ | ⟨x, rfl, hl, hm, hz, hc, hw⟩
  · exact ⟨[], rfl, .inl rfl, Nat.zero_le _⟩
  · have hlen : (zs.take len).length = len := by rw [List.length_take]; omega
    refine ⟨zs.take len, hlen, ?_, by omega⟩
    · rcases Nat.eq_zero_or_pos len with h0 | h0
      · exact .inl (List.eq_nil_of_length_eq_zero (by omega))
      · have h1 := hc 0 (by omega)
        obtain ⟨b, o, s⟩ := x
        obtain rfl : s = none := by
          cases s with
          | none => rfl
          | some y =>
            unfold World.cell? Addr.add at h1
            simp at h1
            split at h1 <;> simp at h1
        refine .inr ⟨b, o, rfl, fun i hi => ?_⟩
        have h2 := hc i (by omega)
        rw [Addr.add_lit] at h2
        rw [h2, List.getElem_take]
        have : i < zs.length := by omega
        simp [List.getD, this]
end Go.Proofs.Qxb6602675a
