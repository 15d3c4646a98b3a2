/- Reading the code units: which byte order mark leads. -/
import Derived.Test.Qxb6602611aUnits
import Derived.Ground.NamesProg
import Derived.Shelf.Lay
import Derived.Shelf.Bytes.SlSmallAll
import Derived.Lib.SlBytesConst
namespace Go.Proofs
open Go.Shelf
shelf_lay Lays.nb141 Nm 141 at Try as Qxb6602611a.lays141
end Go.Proofs
namespace Go.Proofs.Qxb6602611a
open Go.RowKit Go.Shelf

theorem InU.bytes {w : World} {a : Option Addr} {zs : List Int} (h : InU .u8 w a zs) : Lib.BytesIn w a zs.length zs := by
  intro hn
  rcases h with rfl | ⟨b, o, e, hc⟩
  · simp at hn
  · exact ⟨b, o, e, fun i hi => by rw [hc i hi]; simp [List.getD, hi]⟩

theorem InU.drop {w : World} {b o c : Nat} {zs : List Int} (h : InU .u8 w (some ⟨b, o, none⟩) zs) (k : Nat) (hc : zs.length ≤ c) : InU .u8 w (if c = k then some ⟨b, o, none⟩ else some ⟨b, o + k, none⟩) (zs.drop k) := by
  by_cases hk : zs.length ≤ k
  · exact .inl (List.drop_of_length_le hk)
  · rcases h with rfl | ⟨b', o', e, hc'⟩
    · simp at hk
    · simp only [Option.some.injEq, Addr.mk.injEq, and_true] at e
      obtain ⟨rfl, rfl⟩ := e
      rw [if_neg (by omega)]
      refine .inr ⟨b, o + k, rfl, fun i hi => ?_⟩
      rw [List.length_drop] at hi
      rw [Nat.add_assoc, hc' (k + i) (by omega), List.getElem_drop]

theorem cut_any (w : World) (a : Option Addr) (c pb : Nat) (zs ps : List Int) (hz : InU .u8 w a zs) (hc : zs.length ≤ c) (hp : InU .u8 w (some ⟨pb, 0, none⟩) ps) :
    Calls Try.prog 10 #[.slice a zs.length c, .slice (some ⟨pb, 0, none⟩) ps.length ps.length] w fun e w' => e = .returned (.tuple #[Lib.trimPrefixV a zs.length c zs ps, .bool (Lib.hasPrefix (Lib.bytesOf zs) (Lib.bytesOf ps))]) ∧ w' = w :=
  Any.bytes_CutPrefix_all lays141 a (some ⟨pb, 0, none⟩) zs.length c ps.length ps.length zs ps w rfl rfl hc hz.bytes hp.bytes

theorem byte_eq {z : Int} (h : 0 ≤ z ∧ z < 256) {n : Nat} (hn : n < 256) : (UInt8.ofNat n == UInt8.ofNat z.toNat) = decide (z = n) := by
  by_cases e : z = n
  · subst e; simp
  · rw [decide_eq_false e, beq_eq_false_iff_ne]
    intro he
    have := congrArg UInt8.toNat he
    simp at this
    omega

/-- What a UTF-16 reading hands back. -/
def Rd16 (w : World) (zs : List Int) (low : Nat) (v : Value) (w' : World) : Prop :=
  ∃ bt bu, v = .agg #[.slice (some ⟨bt, 0, none⟩) ((zs.length - 2) / 2) ((zs.length - 2) / 2), .int .i64 (2 + low : Int), .int .i64 2, .slice (some ⟨bu, 0, none⟩) ((zs.length - 2) / 2) ((zs.length - 2) / 2)] ∧
    (∀ i, i < (zs.length - 2) / 2 → w'.cell? ⟨bu, i, none⟩ = some (.int .u16 (unit (zs.drop 2) low i)) ∧ w'.cell? ⟨bt, i, none⟩ = some (.int .u8 (min (unit (zs.drop 2) low i) 128))) ∧ Below w.heap.size w w'

theorem const_in (w : World) (C : Array Value) (m : Nat × Nat) (ps : List Int) (h : C = (ps.map (Value.int .u8)).toArray) : InU .u8 (w.alloc (.cells C 5 m)) (some ⟨w.heap.size, 0, none⟩) ps := by
  subst h
  rcases Nat.eq_zero_or_pos ps.length with h0 | h0
  · exact .inl (List.eq_nil_of_length_eq_zero h0)
  · refine .inr ⟨_, _, rfl, fun i hi => ?_⟩
    simp [World.cell?_alloc_mark, hi]

theorem kc1 (w : World) (o : Obj) (C : Array Value) (n c : Nat) : (convert 22 22 (.slice (some ⟨w.heap.size + 1, 0, none⟩) n c)).run Try.prog ((w.alloc o).alloc (.cells C 5)) = .ok (.slice (some ⟨w.heap.size + 1, 0, none⟩) n c) ((w.alloc o).alloc (.cells C 5 (C.size, C.size + 1))) := by
  have := Lib.run_convert_bytes_const (P := Try.prog) (w.alloc o) 22 5 C n c Try.underlying22 Try.underlying5
  rwa [World.size_alloc] at this
theorem kc2 (w : World) (o o' : Obj) (C : Array Value) (n c : Nat) : (convert 22 22 (.slice (some ⟨w.heap.size + 1 + 1, 0, none⟩) n c)).run Try.prog (((w.alloc o).alloc o').alloc (.cells C 5)) = .ok (.slice (some ⟨w.heap.size + 1 + 1, 0, none⟩) n c) (((w.alloc o).alloc o').alloc (.cells C 5 (C.size, C.size + 1))) := by
  have := kc1 (w.alloc o) o' C n c
  rwa [World.size_alloc] at this
theorem kc3 (w : World) (o o' o'' : Obj) (C : Array Value) (n c : Nat) : (convert 22 22 (.slice (some ⟨w.heap.size + 1 + 1 + 1, 0, none⟩) n c)).run Try.prog ((((w.alloc o).alloc o').alloc o'').alloc (.cells C 5)) = .ok (.slice (some ⟨w.heap.size + 1 + 1 + 1, 0, none⟩) n c) ((((w.alloc o).alloc o').alloc o'').alloc (.cells C 5 (C.size, C.size + 1))) := by
  have := kc2 (w.alloc o) o' o'' C n c
  rwa [World.size_alloc] at this

/-- The three cuts, each at the world where it is called. -/
theorem cut_at (w : World) (b o c : Nat) (zs ps : List Int) (hz : InU .u8 w (some ⟨b, o, none⟩) zs) (hc : zs.length ≤ c) (W : World) (hb : Below w.heap.size w W) (pb : Nat) (hp : InU .u8 W (some ⟨pb, 0, none⟩) ps) (r : Bool) (hr : Lib.hasPrefix (Lib.bytesOf zs) (Lib.bytesOf ps) = r) (hps : ps ≠ []) :
    Calls Try.prog 10 #[.slice (some ⟨b, o, none⟩) zs.length c, .slice (some ⟨pb, 0, none⟩) ps.length ps.length] W fun e w' => e = .returned (.tuple #[.slice (if r = true then (if c = ps.length then some ⟨b, o, none⟩ else some ⟨b, o + ps.length, none⟩) else some ⟨b, o, none⟩) (if r = true then zs.length - ps.length else zs.length) (if r = true then c - ps.length else c), .bool r]) ∧ w' = W := by
  have h := cut_any W (some ⟨b, o, none⟩) c pb zs ps (hz.below hb) hc hp
  rw [hr] at h
  have hv : Lib.trimPrefixV (some ⟨b, o, none⟩) zs.length c zs ps = .slice (if r = true then (if c = ps.length then some ⟨b, o, none⟩ else some ⟨b, o + ps.length, none⟩) else some ⟨b, o, none⟩) (if r = true then zs.length - ps.length else zs.length) (if r = true then c - ps.length else c) := by
    cases ps with
    | nil => exact absurd rfl hps
    | cons p ps =>
      simp only [Lib.trimPrefixV, Lib.bytesTrimPrefix, hr]
      cases r <;> simp [Lib.sliceFrom]
  rw [hv] at h
  exact h

/-- What utf16Units hands back, of a text of n bytes ds. -/
def U16 (W : World) (n low : Nat) (ds : List Int) (e : Ending) (w' : World) : Prop :=
  e = .returned (.agg #[.slice (some ⟨W.heap.size + 2, 0, none⟩) (n / 2) (n / 2), .int .i64 (2 + low : Int), .int .i64 2, .slice (some ⟨W.heap.size + 1, 0, none⟩) (n / 2) (n / 2)]) ∧
      (∀ i, i < n / 2 → w'.cell? ⟨W.heap.size + 1, i, none⟩ = some (.int .u16 (unit ds low i)) ∧ w'.cell? ⟨W.heap.size + 2, i, none⟩ = some (.int .u8 (min (unit ds low i) 128))) ∧ Below W.heap.size W w'

theorem units_at (w : World) (ra : Option Addr) (c low : Nat) (zs : List Int) (hd : InU .u8 w ra (zs.drop 2)) (hr : ∀ z ∈ zs, 0 ≤ z ∧ z < 256) (hl : zs.length ≤ 1048578) (hlow : low ≤ 1) (W : World) (hb : Below w.heap.size w W) :
    Calls Try.prog 11 #[.slice ra (zs.length - 2) c, .int .i64 (low : Int)] W (U16 W (zs.length - 2) low (zs.drop 2)) := by
  have h := units_any W ra c low (zs.drop 2) (hd.below hb) (fun z h => hr z (List.mem_of_mem_drop h)) (by simp; omega) hlow
  rw [List.length_drop] at h
  exact h

theorem set4_cell (w : World) (N : Nat) (v0 v1 v2 v3 : Value) (a : Addr) (h : N ≠ a.block) : ((((w.setCell ⟨N, 0, none⟩ v0).setCell ⟨N, 1, none⟩ v1).setCell ⟨N, 2, none⟩ v2).setCell ⟨N, 3, none⟩ v3).cell? a = w.cell? a := by
  rw [World.cell?_setCell_far _ _ _ _ (by exact h), World.cell?_setCell_far _ _ _ _ (by exact h), World.cell?_setCell_far _ _ _ _ (by exact h), World.cell?_setCell_far _ _ _ _ (by exact h)]
theorem set4_below {B N : Nat} {w w' : World} (hb : Below B w w') (h : B ≤ N) (v0 v1 v2 v3 : Value) : Below B w ((((w'.setCell ⟨N, 0, none⟩ v0).setCell ⟨N, 1, none⟩ v1).setCell ⟨N, 2, none⟩ v2).setCell ⟨N, 3, none⟩ v3) :=
  (((hb.setCell h _).setCell h _).setCell h _).setCell h _

theorem zero_row (w : World) : (w.alloc (.cells #[.slice none 0 0, .int .i64 0, .int .i64 0, .slice none 0 0] 31)).rowIs w.heap.size 31 4 zeroU := by
  refine World.rowIs_alloc w #[.slice none 0 0, .int .i64 0, .int .i64 0, .slice none 0 0] 31 zeroU ?_
  intro i hi
  match i, hi with
  | 0, _ => rfl
  | 1, _ => rfl
  | 2, _ => rfl
  | 3, _ => rfl

/-- The empty answer's cells, behind a call that keeps what was there. -/
theorem zero_kept {W w' : World} {N : Nat} (h : W.rowIs N 31 4 zeroU) (hb : Below W.heap.size W w') :
    (w'.cell? ⟨N, 0, none⟩ = some (.slice none 0 0) ∧ w'.cell? ⟨N, 1, none⟩ = some (.int .i64 0) ∧ w'.cell? ⟨N, 2, none⟩ = some (.int .i64 0) ∧ w'.cell? ⟨N, 3, none⟩ = some (.slice none 0 0)) ∧ ∀ i, w'.frozen? ⟨N, i, none⟩ = false := by
  have h' : w'.rowIs N 31 4 zeroU := h.of_block (hb.block N h.lt)
  exact ⟨⟨h'.cell (i := 0) (by omega), h'.cell (i := 1) (by omega), h'.cell (i := 2) (by omega), h'.cell (i := 3) (by omega)⟩, h'.frozen⟩

set_option maxHeartbeats 1000000 in
theorem rcu_le (w : World) (b o c : Nat) (zs : List Int) (hz : InU .u8 w (some ⟨b, o, none⟩) zs) (hr : ∀ z ∈ zs, 0 ≤ z ∧ z < 256) (hl : zs.length ≤ 1048578) (hc : zs.length ≤ c) (hA : Lib.hasPrefix (Lib.bytesOf zs) (Lib.bytesOf [255, 254]) = true) :
    Calls Try.prog 9 #[.slice (some ⟨b, o, none⟩) zs.length c] w fun e w' => ∃ v, e = .returned v ∧ Rd16 w zs 0 v w' := by
  have k1 := kc1
  have hd := hz.drop 2 hc
  go_enter Try.func9, Try.ntmps9
  go_wp2_with fail
  refine (cut_at w b o c zs [255, 254] hz hc _ (((Below.refl _ _).alloc (Nat.le_refl _) _).alloc (by simp; try omega) _) (w.heap.size + 1) (by have := const_in (w.alloc (.cells #[.slice none 0 0, .int .i64 0, .int .i64 0, .slice none 0 0] 31)) #[.int .u8 255, .int .u8 254] (2, 3) [255, 254] rfl; simpa using this) true hA (by simp)).mono ?_
  rintro e w2 ⟨rfl, rfl⟩
  simp only [if_true, List.length_cons, List.length_nil, Nat.zero_add, Nat.reduceAdd]
  generalize (if c = 2 then some (⟨b, o, none⟩ : Addr) else some ⟨b, o + 2, none⟩) = ra at *
  have hrow := ((zero_row w).alloc (.cells #[.int .u8 255, .int .u8 254] 5 (2, 3)))
  have hbW : Below w.heap.size w ((w.alloc (.cells #[.slice none 0 0, .int .i64 0, .int .i64 0, .slice none 0 0] 31)).alloc (.cells #[.int .u8 255, .int .u8 254] 5 (2, 3))) := ((Below.refl _ _).alloc (Nat.le_refl _) _).alloc (by simp; try omega) _
  have hsz : ((w.alloc (.cells #[.slice none 0 0, .int .i64 0, .int .i64 0, .slice none 0 0] 31)).alloc (.cells #[.int .u8 255, .int .u8 254] 5 (2, 3))).heap.size = w.heap.size + 1 + 1 := by simp
  generalize (w.alloc (.cells #[.slice none 0 0, .int .i64 0, .int .i64 0, .slice none 0 0] 31)).alloc (.cells #[.int .u8 255, .int .u8 254] 5 (2, 3)) = W at *
  have HSZ := hid hsz
  clear hsz k1
  go_wp2_with fail
  refine (units_at w ra (c - 2) 0 zs hd hr hl (by omega) W hbW).mono ?_
  rintro e w3 ⟨rfl, hcell, hb3⟩
  obtain ⟨⟨x0, x1, x2, x3⟩, hfz⟩ := zero_kept hrow hb3
  have y0 := hfz 0
  have y1 := hfz 1
  have y2 := hfz 2
  have y3 := hfz 3
  have HC := hid hcell
  have HB := hid (hbW.trans (hb3.mono (by rw [HSZ.out]; omega)))
  clear hcell hb3 hfz hrow hbW
  go_wp2_with fail
  refine bodyPost_ret (v := .agg #[.slice (some ⟨W.heap.size + 2, 0, none⟩) ((zs.length - 2) / 2) ((zs.length - 2) / 2), .int .i64 2, .int .i64 2, .slice (some ⟨W.heap.size + 1, 0, none⟩) ((zs.length - 2) / 2) ((zs.length - 2) / 2)]) (by simp [results, Try.results9, go_sem, x0, x1, x2, x3]) rfl ⟨_, rfl, W.heap.size + 2, W.heap.size + 1, by simp, fun i hi => ?_, set4_below HB.out (Nat.le_refl _) _ _ _ _⟩
  rw [set4_cell _ _ _ _ _ _ _ (by simp [HSZ.out]; omega), set4_cell _ _ _ _ _ _ _ (by simp [HSZ.out]; omega)]
  exact HC.out i hi

set_option maxHeartbeats 1000000 in
theorem rcu_be (w : World) (b o c : Nat) (zs : List Int) (hz : InU .u8 w (some ⟨b, o, none⟩) zs) (hr : ∀ z ∈ zs, 0 ≤ z ∧ z < 256) (hl : zs.length ≤ 1048578) (hc : zs.length ≤ c) (hA : Lib.hasPrefix (Lib.bytesOf zs) (Lib.bytesOf [255, 254]) = false) (hB : Lib.hasPrefix (Lib.bytesOf zs) (Lib.bytesOf [254, 255]) = true) :
    Calls Try.prog 9 #[.slice (some ⟨b, o, none⟩) zs.length c] w fun e w' => ∃ v, e = .returned v ∧ Rd16 w zs 1 v w' := by
  have k1 := kc1
  have k2 := kc2
  have hd := hz.drop 2 hc
  go_enter Try.func9, Try.ntmps9
  go_wp2_with fail
  refine (cut_at w b o c zs [255, 254] hz hc _ (((Below.refl _ _).alloc (Nat.le_refl _) _).alloc (by simp; try omega) _) (w.heap.size + 1) (by have := const_in (w.alloc (.cells #[.slice none 0 0, .int .i64 0, .int .i64 0, .slice none 0 0] 31)) #[.int .u8 255, .int .u8 254] (2, 3) [255, 254] rfl; simpa using this) false hA (by simp)).mono ?_
  rintro e w2 ⟨rfl, rfl⟩
  simp only [Bool.false_eq_true, if_false]
  go_wp2_with fail
  refine (cut_at w b o c zs [254, 255] hz hc _ ((((Below.refl _ _).alloc (Nat.le_refl _) _).alloc (by simp; try omega) _).alloc (by simp; try omega) _) (w.heap.size + 1 + 1) (by have := const_in ((w.alloc (.cells #[.slice none 0 0, .int .i64 0, .int .i64 0, .slice none 0 0] 31)).alloc (.cells #[.int .u8 255, .int .u8 254] 5 (2, 3))) #[.int .u8 254, .int .u8 255] (2, 3) [254, 255] rfl; simpa using this) true hB (by simp)).mono ?_
  rintro e w2 ⟨rfl, rfl⟩
  simp only [if_true, List.length_cons, List.length_nil, Nat.zero_add, Nat.reduceAdd]
  generalize (if c = 2 then some (⟨b, o, none⟩ : Addr) else some ⟨b, o + 2, none⟩) = ra at *
  have hrow := (((zero_row w).alloc (.cells #[.int .u8 255, .int .u8 254] 5 (2, 3))).alloc (.cells #[.int .u8 254, .int .u8 255] 5 (2, 3)))
  have hbW : Below w.heap.size w (((w.alloc (.cells #[.slice none 0 0, .int .i64 0, .int .i64 0, .slice none 0 0] 31)).alloc (.cells #[.int .u8 255, .int .u8 254] 5 (2, 3))).alloc (.cells #[.int .u8 254, .int .u8 255] 5 (2, 3))) := (((Below.refl _ _).alloc (Nat.le_refl _) _).alloc (by simp; try omega) _).alloc (by simp; try omega) _
  have hsz : (((w.alloc (.cells #[.slice none 0 0, .int .i64 0, .int .i64 0, .slice none 0 0] 31)).alloc (.cells #[.int .u8 255, .int .u8 254] 5 (2, 3))).alloc (.cells #[.int .u8 254, .int .u8 255] 5 (2, 3))).heap.size = w.heap.size + 1 + 1 + 1 := by simp
  generalize ((w.alloc (.cells #[.slice none 0 0, .int .i64 0, .int .i64 0, .slice none 0 0] 31)).alloc (.cells #[.int .u8 255, .int .u8 254] 5 (2, 3))).alloc (.cells #[.int .u8 254, .int .u8 255] 5 (2, 3)) = W at *
  have HSZ := hid hsz
  clear hsz k1 k2
  go_wp2_with fail
  refine (units_at w ra (c - 2) 1 zs hd hr hl (by omega) W hbW).mono ?_
  rintro e w3 ⟨rfl, hcell, hb3⟩
  obtain ⟨⟨x0, x1, x2, x3⟩, hfz⟩ := zero_kept hrow hb3
  have y0 := hfz 0
  have y1 := hfz 1
  have y2 := hfz 2
  have y3 := hfz 3
  have HC := hid hcell
  have HB := hid (hbW.trans (hb3.mono (by rw [HSZ.out]; omega)))
  clear hcell hb3 hfz hrow hbW
  go_wp2_with fail
  refine bodyPost_ret (v := .agg #[.slice (some ⟨W.heap.size + 2, 0, none⟩) ((zs.length - 2) / 2) ((zs.length - 2) / 2), .int .i64 3, .int .i64 2, .slice (some ⟨W.heap.size + 1, 0, none⟩) ((zs.length - 2) / 2) ((zs.length - 2) / 2)]) (by simp [results, Try.results9, go_sem, x0, x1, x2, x3]) rfl ⟨_, rfl, W.heap.size + 2, W.heap.size + 1, by simp, fun i hi => ?_, set4_below HB.out (Nat.le_refl _) _ _ _ _⟩
  rw [set4_cell _ _ _ _ _ _ _ (by simp [HSZ.out]; omega), set4_cell _ _ _ _ _ _ _ (by simp [HSZ.out]; omega)]
  exact HC.out i hi

theorem cut_no (w : World) (a : Option Addr) (c : Nat) (zs ps : List Int) (hz : InU .u8 w a zs) (hc : zs.length ≤ c) (W : World) (hb : Below w.heap.size w W) (pb : Nat) (hp : InU .u8 W (some ⟨pb, 0, none⟩) ps) (hr : Lib.hasPrefix (Lib.bytesOf zs) (Lib.bytesOf ps) = false) :
    Calls Try.prog 10 #[.slice a zs.length c, .slice (some ⟨pb, 0, none⟩) ps.length ps.length] W fun e w' => e = .returned (.tuple #[.slice a zs.length c, .bool false]) ∧ w' = W := by
  have h := cut_any W a c pb zs ps (hz.below hb) hc hp
  rw [hr] at h
  have hv : Lib.trimPrefixV a zs.length c zs ps = .slice a zs.length c := by
    unfold Lib.trimPrefixV
    split
    · simp [Lib.bytesTrimPrefix, hr]
    · rfl
  rw [hv] at h
  exact h

/-- What a UTF-8 reading hands back: the text behind k bytes of mark. -/
def Rd8 (w : World) (zs : List Int) (k : Nat) (v : Value) (w' : World) : Prop :=
  ∃ ra c, v = .agg #[.slice ra (zs.length - k) c, .int .i64 (k : Int), .int .i64 1, .slice none 0 0] ∧ InU .u8 w' ra (zs.drop k) ∧ Below w.heap.size w w'

set_option maxHeartbeats 1000000 in
theorem rcu_bom (w : World) (b o c : Nat) (zs : List Int) (hz : InU .u8 w (some ⟨b, o, none⟩) zs) (hc : zs.length ≤ c) (hA : Lib.hasPrefix (Lib.bytesOf zs) (Lib.bytesOf [255, 254]) = false) (hB : Lib.hasPrefix (Lib.bytesOf zs) (Lib.bytesOf [254, 255]) = false) (hC : Lib.hasPrefix (Lib.bytesOf zs) (Lib.bytesOf [239, 187, 191]) = true) :
    Calls Try.prog 9 #[.slice (some ⟨b, o, none⟩) zs.length c] w fun e w' => ∃ v, e = .returned v ∧ Rd8 w zs 3 v w' := by
  have k1 := kc1
  have k2 := kc2
  have k3 := kc3
  have hd := hz.drop 3 hc
  go_enter Try.func9, Try.ntmps9
  go_wp2_with fail
  refine (cut_at w b o c zs [255, 254] hz hc _ (((Below.refl _ _).alloc (Nat.le_refl _) _).alloc (by simp; try omega) _) (w.heap.size + 1) (by have := const_in (w.alloc (.cells #[.slice none 0 0, .int .i64 0, .int .i64 0, .slice none 0 0] 31)) #[.int .u8 255, .int .u8 254] (2, 3) [255, 254] rfl; simpa using this) false hA (by simp)).mono ?_
  rintro e w2 ⟨rfl, rfl⟩
  simp only [Bool.false_eq_true, if_false]
  go_wp2_with fail
  refine (cut_at w b o c zs [254, 255] hz hc _ ((((Below.refl _ _).alloc (Nat.le_refl _) _).alloc (by simp; try omega) _).alloc (by simp; try omega) _) (w.heap.size + 1 + 1) (by have := const_in ((w.alloc (.cells #[.slice none 0 0, .int .i64 0, .int .i64 0, .slice none 0 0] 31)).alloc (.cells #[.int .u8 255, .int .u8 254] 5 (2, 3))) #[.int .u8 254, .int .u8 255] (2, 3) [254, 255] rfl; simpa using this) false hB (by simp)).mono ?_
  rintro e w2 ⟨rfl, rfl⟩
  simp only [Bool.false_eq_true, if_false]
  go_wp2_with fail
  refine (cut_at w b o c zs [239, 187, 191] hz hc _ (((((Below.refl _ _).alloc (Nat.le_refl _) _).alloc (by simp; try omega) _).alloc (by simp; try omega) _).alloc (by simp; try omega) _) (w.heap.size + 1 + 1 + 1) (by have := const_in (((w.alloc (.cells #[.slice none 0 0, .int .i64 0, .int .i64 0, .slice none 0 0] 31)).alloc (.cells #[.int .u8 255, .int .u8 254] 5 (2, 3))).alloc (.cells #[.int .u8 254, .int .u8 255] 5 (2, 3))) #[.int .u8 239, .int .u8 187, .int .u8 191] (3, 4) [239, 187, 191] rfl; simpa using this) true hC (by simp)).mono ?_
  rintro e w2 ⟨rfl, rfl⟩
  simp only [if_true, List.length_cons, List.length_nil, Nat.zero_add, Nat.reduceAdd]
  generalize (if c = 3 then some (⟨b, o, none⟩ : Addr) else some ⟨b, o + 3, none⟩) = ra at *
  have hrow := ((((zero_row w).alloc (.cells #[.int .u8 255, .int .u8 254] 5 (2, 3))).alloc (.cells #[.int .u8 254, .int .u8 255] 5 (2, 3))).alloc (.cells #[.int .u8 239, .int .u8 187, .int .u8 191] 5 (3, 4)))
  have hbW : Below w.heap.size w ((((w.alloc (.cells #[.slice none 0 0, .int .i64 0, .int .i64 0, .slice none 0 0] 31)).alloc (.cells #[.int .u8 255, .int .u8 254] 5 (2, 3))).alloc (.cells #[.int .u8 254, .int .u8 255] 5 (2, 3))).alloc (.cells #[.int .u8 239, .int .u8 187, .int .u8 191] 5 (3, 4))) := ((((Below.refl _ _).alloc (Nat.le_refl _) _).alloc (by simp; try omega) _).alloc (by simp; try omega) _).alloc (by simp; try omega) _
  generalize (((w.alloc (.cells #[.slice none 0 0, .int .i64 0, .int .i64 0, .slice none 0 0] 31)).alloc (.cells #[.int .u8 255, .int .u8 254] 5 (2, 3))).alloc (.cells #[.int .u8 254, .int .u8 255] 5 (2, 3))).alloc (.cells #[.int .u8 239, .int .u8 187, .int .u8 191] 5 (3, 4)) = W at *
  obtain ⟨⟨x0, x1, x2, x3⟩, hfz⟩ := zero_kept hrow (Below.refl _ _)
  have y0 := hfz 0
  have y1 := hfz 1
  have y2 := hfz 2
  have y3 := hfz 3
  have HB := hid hbW
  clear hfz hrow hbW k1 k2 k3
  go_wp2_with fail
  refine bodyPost_ret (v := .agg #[.slice ra (zs.length - 3) (c - 3), .int .i64 3, .int .i64 1, .slice none 0 0]) (by simp [results, Try.results9, go_sem, x0, x1, x2, x3]) rfl ⟨_, rfl, ra, c - 3, by simp, ?_, set4_below HB.out (Nat.le_refl _) _ _ _ _⟩
  exact hd.below (set4_below HB.out (Nat.le_refl _) _ _ _ _)

set_option maxHeartbeats 1000000 in
theorem rcu_plain (w : World) (a : Option Addr) (c : Nat) (zs : List Int) (hz : InU .u8 w a zs) (hc : zs.length ≤ c) (hA : Lib.hasPrefix (Lib.bytesOf zs) (Lib.bytesOf [255, 254]) = false) (hB : Lib.hasPrefix (Lib.bytesOf zs) (Lib.bytesOf [254, 255]) = false) (hC : Lib.hasPrefix (Lib.bytesOf zs) (Lib.bytesOf [239, 187, 191]) = false) :
    Calls Try.prog 9 #[.slice a zs.length c] w fun e w' => ∃ v, e = .returned v ∧ Rd8 w zs 0 v w' := by
  have k1 := kc1
  have k2 := kc2
  have k3 := kc3
  go_enter Try.func9, Try.ntmps9
  go_wp2_with fail
  refine (cut_no w a c zs [255, 254] hz hc _ (((Below.refl _ _).alloc (Nat.le_refl _) _).alloc (by simp; try omega) _) (w.heap.size + 1) (by have := const_in (w.alloc (.cells #[.slice none 0 0, .int .i64 0, .int .i64 0, .slice none 0 0] 31)) #[.int .u8 255, .int .u8 254] (2, 3) [255, 254] rfl; simpa using this) hA).mono ?_
  rintro e w2 ⟨rfl, rfl⟩
  go_wp2_with fail
  refine (cut_no w a c zs [254, 255] hz hc _ ((((Below.refl _ _).alloc (Nat.le_refl _) _).alloc (by simp; try omega) _).alloc (by simp; try omega) _) (w.heap.size + 1 + 1) (by have := const_in ((w.alloc (.cells #[.slice none 0 0, .int .i64 0, .int .i64 0, .slice none 0 0] 31)).alloc (.cells #[.int .u8 255, .int .u8 254] 5 (2, 3))) #[.int .u8 254, .int .u8 255] (2, 3) [254, 255] rfl; simpa using this) hB).mono ?_
  rintro e w2 ⟨rfl, rfl⟩
  go_wp2_with fail
  refine (cut_no w a c zs [239, 187, 191] hz hc _ (((((Below.refl _ _).alloc (Nat.le_refl _) _).alloc (by simp; try omega) _).alloc (by simp; try omega) _).alloc (by simp; try omega) _) (w.heap.size + 1 + 1 + 1) (by have := const_in (((w.alloc (.cells #[.slice none 0 0, .int .i64 0, .int .i64 0, .slice none 0 0] 31)).alloc (.cells #[.int .u8 255, .int .u8 254] 5 (2, 3))).alloc (.cells #[.int .u8 254, .int .u8 255] 5 (2, 3))) #[.int .u8 239, .int .u8 187, .int .u8 191] (3, 4) [239, 187, 191] rfl; simpa using this) hC).mono ?_
  rintro e w2 ⟨rfl, rfl⟩
  have hrow := ((((zero_row w).alloc (.cells #[.int .u8 255, .int .u8 254] 5 (2, 3))).alloc (.cells #[.int .u8 254, .int .u8 255] 5 (2, 3))).alloc (.cells #[.int .u8 239, .int .u8 187, .int .u8 191] 5 (3, 4)))
  have hbW : Below w.heap.size w ((((w.alloc (.cells #[.slice none 0 0, .int .i64 0, .int .i64 0, .slice none 0 0] 31)).alloc (.cells #[.int .u8 255, .int .u8 254] 5 (2, 3))).alloc (.cells #[.int .u8 254, .int .u8 255] 5 (2, 3))).alloc (.cells #[.int .u8 239, .int .u8 187, .int .u8 191] 5 (3, 4))) := ((((Below.refl _ _).alloc (Nat.le_refl _) _).alloc (by simp; try omega) _).alloc (by simp; try omega) _).alloc (by simp; try omega) _
  generalize (((w.alloc (.cells #[.slice none 0 0, .int .i64 0, .int .i64 0, .slice none 0 0] 31)).alloc (.cells #[.int .u8 255, .int .u8 254] 5 (2, 3))).alloc (.cells #[.int .u8 254, .int .u8 255] 5 (2, 3))).alloc (.cells #[.int .u8 239, .int .u8 187, .int .u8 191] 5 (3, 4)) = W at *
  obtain ⟨⟨x0, x1, x2, x3⟩, hfz⟩ := zero_kept hrow (Below.refl _ _)
  have y0 := hfz 0
  have y1 := hfz 1
  have y2 := hfz 2
  have y3 := hfz 3
  have HB := hid hbW
  clear hfz hrow hbW k1 k2 k3
  go_wp2_with fail
  refine bodyPost_ret (v := .agg #[.slice a zs.length c, .int .i64 0, .int .i64 1, .slice none 0 0]) (by simp [results, Try.results9, go_sem, x0, x1, x2, x3]) rfl ⟨_, rfl, a, c, by simp, ?_, set4_below HB.out (Nat.le_refl _) _ _ _ _⟩
  exact hz.below (set4_below HB.out (Nat.le_refl _) _ _ _ _)

end Go.Proofs.Qxb6602611a
