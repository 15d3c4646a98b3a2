/- The small functions: the code's bytes appended, the four-byte code, and the two readings back. -/
import Derived.Test.Qxb6602675aBase
import Derived.Lib.SlFresh
namespace Go.Proofs.Qxb6602675a
open Go.RowKit

/-- 'append' onto nil or onto a full slice: always a new row. -/
theorem app_run (w : World) (a : Option Addr) (ty : TypeId) (zs news : List Int) (hz : InU .u8 w a zs) (ha : a = none ∨ ∃ b o, a = some ⟨b, o, none⟩) (ad : Addr) (c : Nat) (hn : ∀ j v, (news.map (Value.int .u8))[j]? = some v → w.cell? (ad.add j) = some v) (h0 : 0 < news.length) (hl : zs.length + news.length ≤ 1048600) (hnil : a = none → zs = []) :
    ∃ cap w', (Builtin.append_ #[31, 31] ty #[.slice a zs.length zs.length, .slice (some ad) news.length c]).run Try.prog w = .ok (.slice (some ⟨w.heap.size, 0, none⟩) (zs.length + news.length) cap) w' ∧ zs.length + news.length ≤ cap ∧ InU .u8 w' (some ⟨w.heap.size, 0, none⟩) (zs ++ news) ∧ Below w.heap.size w w' := by
  obtain ⟨i5, hi, hz0, hz1, hz2⟩ := info_parts info5
  have hcells : ∀ (extra : Array Value), InU .u8 (w.drew.alloc (.cells (((zs ++ news).map (Value.int .u8)).toArray ++ extra) 5)) (some ⟨w.heap.size, 0, none⟩) (zs ++ news) := by
    intro extra
    refine .inr ⟨_, _, rfl, fun i hi => ?_⟩
    have hb : (w.drew.alloc (.cells (((zs ++ news).map (Value.int .u8)).toArray ++ extra) 5)).heap[w.heap.size]? = some (.cells (((zs ++ news).map (Value.int .u8)).toArray ++ extra) 5) := heap_alloc_new w.drew _
    unfold World.cell?
    rw [hb]
    show (((zs ++ news).map (Value.int .u8)).toArray ++ extra)[0 + i]? = _
    rw [Nat.zero_add, Array.getElem?_append_left (by simpa using hi)]
    simp [List.getElem?_eq_getElem hi, -List.map_append]
  rcases ha with rfl | ⟨b, o, rfl⟩
  · obtain rfl := hnil rfl
    have h := run_append_nil (P := Try.prog) w 31 ty 5 i5 _ Try.underlying31 hi hz0 ad news.length c (news.map (Value.int .u8)) (by simp [hz1]) hn h0 (by simp at hl; omega) (by rw [hz2]; simp at hl; omega)
    refine ⟨_, _, by simpa using h, by simpa using grownCap_ge w news.length 0 5, ?_, ?_⟩
    · simpa using hcells _
    · exact ⟨rfl, rfl, rfl, by simp, fun k hk => heap_alloc_old w.drew _ hk⟩
  · have h := run_append_grow (P := Try.prog) w 31 ty 5 i5 _ Try.underlying31 hi hz0 ⟨b, o, none⟩ zs.length zs.length (zs.map (Value.int .u8)) (by simp [hz1]) (fun j v hj => by
      rw [List.getElem?_map] at hj
      rcases hz with rfl | ⟨b', o', e, hc⟩
      · simp at hj
      · simp only [Option.some.injEq, Addr.mk.injEq, and_true] at e
        obtain ⟨rfl, rfl⟩ := e
        by_cases hjl : j < zs.length
        · rw [List.getElem?_eq_getElem hjl] at hj
          simp at hj
          rw [Addr.add_lit, hc j hjl, hj]
        · rw [List.getElem?_eq_none (by omega)] at hj; simp at hj) ad news.length c (news.map (Value.int .u8)) (by simp [hz1]) hn (by omega) (by omega) (by
        have := nextslicecap_le (need := zs.length + news.length) (old := zs.length) (by omega)
        rw [hz2]; omega)
    refine ⟨_, _, h, grownCap_ge w _ _ 5, ?_, ?_⟩
    · simpa using hcells _
    · exact ⟨rfl, rfl, rfl, by simp, fun k hk => heap_alloc_old w.drew _ hk⟩

/-- The bytes of a code. -/
def codeB (c : Int) : List Int := if c < 65536 then [c / 256, c % 256] else [c / 16777216, c / 65536 % 256, c / 256 % 256, c % 256]
end Go.Proofs.Qxb6602675a
