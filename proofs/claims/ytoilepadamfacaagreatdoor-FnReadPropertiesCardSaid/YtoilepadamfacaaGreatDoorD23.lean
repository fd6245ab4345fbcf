/- Two trees of values are compared loosely: for trees of plain values. -/
import Derived.Test.YtoilepadamfacaaGreatDoorD21
import Derived.Deep.RegionHeld3
set_option linter.unusedVariables false
set_option linter.unusedSimpArgs false
namespace Go.Proofs.S
open Go.RowKit Go.Maps
/-- The same value, wherever its parts lie. -/
def Alike (x y : FV) : Prop := x.kd = y.kd ∧ x.nm = y.nm ∧ x.tx = y.tx
/-- A value's cells, its kids and descriptor none. -/
abbrev flat (x : FV) : Value := .agg #[.int .i64 x.kd, .int .u64 (x.nm : Int), .string x.tx, .slice x.kA 0 x.kC, .int .i64 x.of_, .slice x.dA 0 x.dC]
/-- The cells of a flat value. -/
structure FlatAt (w : World) (g o : Nat) (x : FV) : Prop where
  c0 : w.cell? ⟨g, o, none⟩ = some (.int .i64 x.kd)
  c1 : w.cell? ⟨g, o + 1, none⟩ = some (.int .u64 (x.nm : Int))
  c2 : w.cell? ⟨g, o + 2, none⟩ = some (.string x.tx)
  c3 : w.cell? ⟨g, o + 3, none⟩ = some (.slice x.kA 0 x.kC)
  c4 : w.cell? ⟨g, o + 4, none⟩ = some (.int .i64 x.of_)
  c5 : w.cell? ⟨g, o + 5, none⟩ = some (.slice x.dA 0 x.dC)
theorem FlatAt.chg {w w' : World} {X : Nat → Prop} {g o : Nat} {x : FV} (h : FlatAt w g o x) (hc : Chg X w w') (hx : ¬ X g) : FlatAt w' g o x :=
  ⟨hc.cell h.c0 hx, hc.cell h.c1 hx, hc.cell h.c2 hx, hc.cell h.c3 hx, hc.cell h.c4 hx, hc.cell h.c5 hx⟩
theorem FVAt.flat {w : World} {g o : Nat} {x : FV} (h : FVAt w g o x) (hk : x.kN = 0) : FlatAt w g o x := ⟨h.c0, h.c1, h.c2, by rw [h.c3, hk], h.c4, h.c5⟩
theorem new3 (w : World) (a b c : Obj) : Chg (fun _ => False) w (((w.alloc a).alloc b).alloc c) ∧ (((w.alloc a).alloc b).alloc c).heap[w.heap.size]? = some a ∧ (((w.alloc a).alloc b).alloc c).heap[w.heap.size + 1]? = some b ∧ (((w.alloc a).alloc b).alloc c).heap[w.heap.size + 2]? = some c := by
  refine ⟨(((Chg.refl _ w).alloc _).alloc _).alloc _, ?_, ?_, ?_⟩
  · exact ((Chg.refl (fun _ => False) _).alloc _).blkF (((Chg.refl (fun _ => False) _).alloc _).blkF (heap_alloc_new w a))
  · have := ((Chg.refl (fun _ => False) ((w.alloc a).alloc b)).alloc c).blkF (heap_alloc_new (w.alloc a) b)
    rwa [show (w.alloc a).heap.size = w.heap.size + 1 by simp] at this
  · have := heap_alloc_new ((w.alloc a).alloc b) c
    rwa [show ((w.alloc a).alloc b).heap.size = w.heap.size + 2 by simp] at this
set_option maxHeartbeats 4000000 in
set_option maxRecDepth 1000000 in
theorem usual_plain {kd : Int} (h20 : kd ≠ 20) (h21 : kd ≠ 21) (h23 : kd ≠ 23) (u : Nat) (tx : ByteArray) (kA dA : Option Addr) (kC dC : Nat) (o : Int) (w : World) :
    Calls Tryz.prog 179 #[.agg #[.int .i64 kd, .int .u64 (u : Int), .string tx, .slice kA 0 kC, .int .i64 o, .slice dA 0 dC]] w fun e w' => e = .returned (.agg #[.int .i64 kd, .int .u64 (u : Int), .string tx, .slice none 0 0, .int .i64 o, .slice dA 0 dC]) ∧ Chg (fun _ => False) w w' := by
  have d20 : (kd == 20) = false := by simpa using h20
  have d21 : (kd == 21) = false := by simpa using h21
  have d23 : (kd == 23) = false := by simpa using h23
  clear h20 h21 h23
  go_enter Tryz.func179, Tryz.ntmps179
  go_upto_region 7 with (fail)
  refine wp_any_world (fun w' => Chg (fun _ => False) w w' ∧ w'.heap[w.heap.size]? = some (.cells #[.int .i64 kd, .int .u64 (u : Int), .string tx, .slice kA 0 kC, .int .i64 o, .slice dA 0 dC] 81 (0, 0)) ∧ w'.heap[w.heap.size + 1]? = some (.cells #[.int .i64 0, .int .u64 0, .string ⟨#[]⟩, .slice none 0 0, .int .i64 0, .slice none 0 0] 81 (0, 0)) ∧ w'.heap[w.heap.size + 2]? = some (.cells #[.int .i64 kd, .int .u64 (u : Int), .string tx, .slice none 0 0, .int .i64 o, .slice dA 0 dC] 81 (0, 0))) (new3 w _ _ _) ?_
  rintro w1 ⟨hC, h0, h1, h2⟩
  have HC := Lib.hid hC
  have a0 := blk_cell (k := 0) h0 rfl
  have a3 := blk_cell (k := 3) h0 rfl
  have a5 := blk_cell (k := 5) h0 rfl
  have o0 := blk_cell (k := 0) h2 rfl
  have r0 := blk_cell (k := 0) h1 rfl
  have f0 := blk_free (k := 0) h1
  have o1 := blk_cell (k := 1) h2 rfl
  have r1 := blk_cell (k := 1) h1 rfl
  have f1 := blk_free (k := 1) h1
  have o2 := blk_cell (k := 2) h2 rfl
  have r2 := blk_cell (k := 2) h1 rfl
  have f2 := blk_free (k := 2) h1
  have o3 := blk_cell (k := 3) h2 rfl
  have r3 := blk_cell (k := 3) h1 rfl
  have f3 := blk_free (k := 3) h1
  have o4 := blk_cell (k := 4) h2 rfl
  have r4 := blk_cell (k := 4) h1 rfl
  have f4 := blk_free (k := 4) h1
  have o5 := blk_cell (k := 5) h2 rfl
  have r5 := blk_cell (k := 5) h1 rfl
  have f5 := blk_free (k := 5) h1
  clear hC h0 h1 h2
  go_wp2_with fail
  go_loopw [42] (fun i w' => i = .int .i64 0 ∧ w' = w1) (fun _ _ => 0)
  case atStart => exact ⟨rfl, rfl⟩
  case round =>
    obtain ⟨rfl, rfl⟩ := hrel
    go_wp2_with fail
    refine bodyPost_ret (v := .agg #[.int .i64 kd, .int .u64 (u : Int), .string tx, .slice none 0 0, .int .i64 o, .slice dA 0 dC]) (by simp [results, Tryz.results179, go_sem, r0, r1, r2, r3, r4, r5]) rfl ⟨rfl, ?_⟩
    iterate 6 (refine Chg.setCell (X := fun _ => False) ?_ (fun h => absurd h (by simp <;> omega)) _)
    exact HC.out
set_option maxHeartbeats 4000000 in
set_option maxRecDepth 1000000 in
theorem usual_sym (u : Nat) (tx : ByteArray) (kA dA : Option Addr) (kC dC : Nat) (o : Int) (w : World) :
    Calls Tryz.prog 179 #[.agg #[.int .i64 20, .int .u64 (u : Int), .string tx, .slice kA 0 kC, .int .i64 o, .slice dA 0 dC]] w fun e w' => e = .returned (.agg #[.int .i64 19, .int .u64 0, .string tx, .slice none 0 0, .int .i64 0, .slice dA 0 dC]) ∧ Chg (fun _ => False) w w' := by
  go_enter Tryz.func179, Tryz.ntmps179
  go_upto_region 7 with (fail)
  refine wp_any_world (fun w' => Chg (fun _ => False) w w' ∧ w'.heap[w.heap.size]? = some (.cells #[.int .i64 20, .int .u64 (u : Int), .string tx, .slice kA 0 kC, .int .i64 o, .slice dA 0 dC] 81 (0, 0)) ∧ w'.heap[w.heap.size + 1]? = some (.cells #[.int .i64 0, .int .u64 0, .string ⟨#[]⟩, .slice none 0 0, .int .i64 0, .slice none 0 0] 81 (0, 0)) ∧ w'.heap[w.heap.size + 2]? = some (.cells #[.int .i64 19, .int .u64 0, .string tx, .slice none 0 0, .int .i64 0, .slice dA 0 dC] 81 (0, 0))) (new3 w _ _ _) ?_
  rintro w1 ⟨hC, h0, h1, h2⟩
  have HC := Lib.hid hC
  have a0 := blk_cell (k := 0) h0 rfl
  have a3 := blk_cell (k := 3) h0 rfl
  have a5 := blk_cell (k := 5) h0 rfl
  have o0 := blk_cell (k := 0) h2 rfl
  have r0 := blk_cell (k := 0) h1 rfl
  have f0 := blk_free (k := 0) h1
  have o1 := blk_cell (k := 1) h2 rfl
  have r1 := blk_cell (k := 1) h1 rfl
  have f1 := blk_free (k := 1) h1
  have o2 := blk_cell (k := 2) h2 rfl
  have r2 := blk_cell (k := 2) h1 rfl
  have f2 := blk_free (k := 2) h1
  have o3 := blk_cell (k := 3) h2 rfl
  have r3 := blk_cell (k := 3) h1 rfl
  have f3 := blk_free (k := 3) h1
  have o4 := blk_cell (k := 4) h2 rfl
  have r4 := blk_cell (k := 4) h1 rfl
  have f4 := blk_free (k := 4) h1
  have o5 := blk_cell (k := 5) h2 rfl
  have r5 := blk_cell (k := 5) h1 rfl
  have f5 := blk_free (k := 5) h1
  clear hC h0 h1 h2
  go_wp2_with fail
  go_loopw [42] (fun i w' => i = .int .i64 0 ∧ w' = w1) (fun _ _ => 0)
  case atStart => exact ⟨rfl, rfl⟩
  case round =>
    obtain ⟨rfl, rfl⟩ := hrel
    go_wp2_with fail
    refine bodyPost_ret (v := .agg #[.int .i64 19, .int .u64 0, .string tx, .slice none 0 0, .int .i64 0, .slice dA 0 dC]) (by simp [results, Tryz.results179, go_sem, r0, r1, r2, r3, r4, r5]) rfl ⟨rfl, ?_⟩
    iterate 6 (refine Chg.setCell (X := fun _ => False) ?_ (fun h => absurd h (by simp <;> omega)) _)
    exact HC.out
/-- What Usual makes of a flat value. -/
def US (x : FV) : FV := if x.kd = 20 then ⟨19, 0, x.tx, none, 0, 0, 0, x.dA, x.dC⟩ else ⟨x.kd, x.nm, x.tx, none, 0, 0, x.of_, x.dA, x.dC⟩
theorem US_alike {x y : FV} (h : Alike x y) : Alike (US x) (US y) := by
  obtain ⟨h1, h2, h3⟩ := h
  unfold US Alike
  rw [h1]
  split <;> simp [h1, h2, h3]
theorem usual_any {x : FV} (h21 : x.kd ≠ 21) (h23 : x.kd ≠ 23) (w : World) : Calls Tryz.prog 179 #[flat x] w fun e w' => e = .returned (flat (US x)) ∧ Chg (fun _ => False) w w' := by
  rcases Decidable.em (x.kd = 20) with h | h
  · have e : US x = ⟨19, 0, x.tx, none, 0, 0, 0, x.dA, x.dC⟩ := if_pos h
    rw [e]
    have := usual_sym x.nm x.tx x.kA x.dA x.kC x.dC x.of_ w
    rw [← h] at this
    exact this
  · have e : US x = ⟨x.kd, x.nm, x.tx, none, 0, 0, x.of_, x.dA, x.dC⟩ := if_neg h
    rw [e]
    exact usual_plain h h21 h23 x.nm x.tx x.kA x.dA x.kC x.dC x.of_ w
set_option maxHeartbeats 4000000 in
set_option maxRecDepth 1000000 in
/-- SameLoosely of flat values. -/
theorem loosely_flat {x y : FV} (hxy : Alike x y) (h21 : x.kd ≠ 21) (h22 : x.kd ≠ 22) (w : World) :
    Calls Tryz.prog 178 #[flat x, flat y] w fun e w' => e = .returned (.bool true) ∧ Chg (fun _ => False) w w' := by
  have d21 : (x.kd != 21) = true := by simpa using h21
  have d22 : (x.kd != 22) = true := by simpa using h22
  have HXY := Lib.hid hxy
  clear h21 h22 hxy
  go_enter Tryz.func178, Tryz.ntmps178
  go_wp2_with fail
  refine (same_FV x.kd y.kd x.nm y.nm x.tx y.tx x.kA y.kA x.dA y.dA x.of_ y.of_ x.kC y.kC x.dC y.dC _).mono ?_
  rintro _ w1 ⟨rfl, hC⟩
  have HC := Lib.hid ((((Chg.refl (fun _ => False) w).alloc _).alloc _).reads hC)
  have ht : decide (x.kd = y.kd ∧ x.nm = y.nm ∧ x.tx = y.tx) = true := decide_eq_true HXY.out
  clear hC
  rw [ht]
  clear ht
  go_wp2_with fail
  go_ret
  exact ⟨rfl, HC.out⟩
theorem US_kd {x : FV} (h21 : x.kd ≠ 21) (h22 : x.kd ≠ 22) : (US x).kd ≠ 21 ∧ (US x).kd ≠ 22 := by
  unfold US
  split
  · exact ⟨show (19 : Int) ≠ 21 by decide, show (19 : Int) ≠ 22 by decide⟩
  · exact ⟨h21, h22⟩
def RSF (X Y : FV) (p q : Nat) (i : Nat) (v : Value) (m : Nat → Value) (c : Nat) (w : World) : Prop :=
  match i with
  | 0 => v = flat X
  | 1 => v = flat (US X)
  | 2 => v = flat Y
  | 3 => v = flat (US Y)
  | 4 => v = .bool true
  | 5 => v = .bool true
  | _ => True
theorem RSF_ext (X Y : FV) (p q : Nat) {i : Nat} {v : Value} {m : Nat → Value} {c : Nat} {w w1 : World} (h : RSF X Y p q i v m c w) (hc : Chg (fun _ => False) w w1) : RSF X Y p q i v m (c + 1) w1 := by
  unfold RSF at h ⊢
  split
  · exact h
  · exact h
  · exact h
  · exact h
  · exact h
  · exact h
  · trivial
set_option maxHeartbeats 4000000 in
set_option maxRecDepth 1000000 in
theorem sameField_some {x y z : FV} (hx : x.kd ≠ 0) (hy : y.kd ≠ 0) (hxy : Alike x y) (h21 : x.kd ≠ 21) (h22 : x.kd ≠ 22) (h23 : x.kd ≠ 23) (w : World) :
    Calls Tryz.prog 125 #[.agg #[.int .i64 z.kd, .int .u64 (z.nm : Int), .string z.tx, .slice z.kA z.kN z.kC, .int .i64 z.of_, .slice z.dA 0 z.dC, .int .i64 0, .int .u64 0, .string ⟨#[]⟩, .slice none 0 0, .int .i64 0, .slice none 0 0], flat x, flat y] w fun e w' => e = .returned (.bool true) ∧ Chg (fun _ => False) w w' := by
  have dx : (x.kd == 0) = false := by simpa using hx
  have dy : (y.kd == 0) = false := by simpa using hy
  have HXY := Lib.hid hxy; have H21 := Lib.hid h21; have H22 := Lib.hid h22; have H23 := Lib.hid h23
  clear hx hy hxy h21 h22 h23
  go_enter Tryz.func125, Tryz.ntmps125
  go_upto_region 1 with (fail)
  refine wp_any_world (fun w' => Chg (fun _ => False) w w' ∧ w'.heap[w.heap.size]? = some (.cells #[.int .i64 z.kd, .int .u64 (z.nm : Int), .string z.tx, .slice z.kA z.kN z.kC, .int .i64 z.of_, .slice z.dA 0 z.dC, .int .i64 0, .int .u64 0, .string ⟨#[]⟩, .slice none 0 0, .int .i64 0, .slice none 0 0] 83 (0, 0)) ∧ w'.heap[w.heap.size + 1]? = some (.cells #[.int .i64 x.kd, .int .u64 (x.nm : Int), .string x.tx, .slice x.kA 0 x.kC, .int .i64 x.of_, .slice x.dA 0 x.dC] 81 (0, 0)) ∧ w'.heap[w.heap.size + 2]? = some (.cells #[.int .i64 y.kd, .int .u64 (y.nm : Int), .string y.tx, .slice y.kA 0 y.kC, .int .i64 y.of_, .slice y.dA 0 y.dC] 81 (0, 0))) (new3 w _ _ _) ?_
  rintro w2 ⟨hC, h0, h1, h2⟩
  have a0 := blk_cell (k := 0) h1 rfl
  have b0 := blk_cell (k := 0) h2 rfl
  clear h0
  go_upto_region 5 with (fail)
  clear a0 b0
  have HC2 := Lib.hid hC; have HA := Lib.hid h1; have HB := Lib.hid h2
  have a0 := blk_cell (k := 0) h1 rfl
  have b0 := blk_cell (k := 0) h2 rfl
  have a1 := blk_cell (k := 1) h1 rfl
  have b1 := blk_cell (k := 1) h2 rfl
  have a2 := blk_cell (k := 2) h1 rfl
  have b2 := blk_cell (k := 2) h2 rfl
  have a3 := blk_cell (k := 3) h1 rfl
  have b3 := blk_cell (k := 3) h2 rfl
  have a4 := blk_cell (k := 4) h1 rfl
  have b4 := blk_cell (k := 4) h2 rfl
  have a5 := blk_cell (k := 5) h1 rfl
  have b5 := blk_cell (k := 5) h2 rfl
  clear hC h1 h2
  go_upto_region 5 with (fail)
  go_quiet (fail)
  go_upto_region 9 with (fail)
  clear a0 b0 a1 b1 a2 b2 a3 b3 a4 b4 a5 b5
  refine wp_any_world (fun w' => Chg (fun _ => False) w w' ∧ FlatAt w' (w.heap.size + 1) 0 x ∧ FlatAt w' (w.heap.size + 1 + 1) 0 y) ⟨HC2.out.drewN _, ⟨blk_cell (k := 0) HA.out rfl, blk_cell (k := 1) HA.out rfl, blk_cell (k := 2) HA.out rfl, blk_cell (k := 3) HA.out rfl, blk_cell (k := 4) HA.out rfl, blk_cell (k := 5) HA.out rfl⟩, ⟨blk_cell (k := 0) HB.out rfl, blk_cell (k := 1) HB.out rfl, blk_cell (k := 2) HB.out rfl, blk_cell (k := 3) HB.out rfl, blk_cell (k := 4) HB.out rfl, blk_cell (k := 5) HB.out rfl⟩⟩ ?_
  rintro w0 ⟨hC0, hA, hB⟩
  have HC0 := Lib.hid hC0; have HXA := Lib.hid hA; have HYB := Lib.hid hB
  clear hC0 hA hB HC2 HA HB
  refine wp_region_rel (RSF x y (w.heap.size + 1) (w.heap.size + 1 + 1)) (fun w' => Chg (fun _ => False) w0 w') [5] (by kernel_rfl) (by kernel_rfl) (by kernel_rfl) (by kernel_rfl) ((Chg.refl _ w0).drewN 1) ?steps ?fin
  case steps =>
    refine ⟨⟨rfl, ?_⟩, ⟨rfl, ?_⟩, ⟨rfl, ?_⟩, ⟨rfl, ?_⟩, ⟨rfl, ?_⟩, ⟨rfl, ?_⟩, trivial⟩
    all_goals (intro vals ev c w1 hc hI hR hv h0 hcst hfn hgl)
    · have e4 : ev (.tmp 4) = .pointer (some ⟨(w.heap.size + 1), 0, none⟩) := h0 4 (by kernel_rfl)
      obtain ⟨q0, q1, q2, q3, q4, q5⟩ := HXA.out.chg hI (fun h => h)
      simp only [Nat.zero_add] at q1 q2 q3 q4 q5
      clear hR hv h0 hc
      refine Step.fixed (x := flat x) ?_ ⟨rfl, hI, fun i_ x_ m_ _ _ h_ => RSF_ext x y (w.heap.size + 1) (w.heap.size + 1 + 1) h_ (Chg.refl _ _)⟩
      unfold OpDoes
      go_simp
    · have e66 : ev (.tmp 66) = flat x := (hv 0 66 (by kernel_rfl) (by kernel_rfl) (Nat.le_of_ble_eq_true (by kernel_rfl))).trans (hR 0 (by kernel_rfl))
      clear hR hv h0 hc
      have hf := hfn 179
      unfold OpDoes
      go_simp
      refine (usual_any (x := x) H21.out H23.out _).mono ?_
      rintro _ w2 ⟨rfl, hC⟩
      exact ⟨_, rfl, rfl, hI.reads hC, fun i_ x_ m_ _ _ h_ => RSF_ext x y (w.heap.size + 1) (w.heap.size + 1 + 1) h_ hC⟩
    · have e5 : ev (.tmp 5) = .pointer (some ⟨(w.heap.size + 1 + 1), 0, none⟩) := h0 5 (by kernel_rfl)
      obtain ⟨q0, q1, q2, q3, q4, q5⟩ := HYB.out.chg hI (fun h => h)
      simp only [Nat.zero_add] at q1 q2 q3 q4 q5
      clear hR hv h0 hc
      refine Step.fixed (x := flat y) ?_ ⟨rfl, hI, fun i_ x_ m_ _ _ h_ => RSF_ext x y (w.heap.size + 1) (w.heap.size + 1 + 1) h_ (Chg.refl _ _)⟩
      unfold OpDoes
      go_simp
    · have e68 : ev (.tmp 68) = flat y := (hv 2 68 (by kernel_rfl) (by kernel_rfl) (Nat.le_of_ble_eq_true (by kernel_rfl))).trans (hR 2 (by kernel_rfl))
      clear hR hv h0 hc
      have hf := hfn 179
      unfold OpDoes
      go_simp
      refine (usual_any (x := y) (HXY.out.1 ▸ H21.out) (HXY.out.1 ▸ H23.out) _).mono ?_
      rintro _ w2 ⟨rfl, hC⟩
      exact ⟨_, rfl, rfl, hI.reads hC, fun i_ x_ m_ _ _ h_ => RSF_ext x y (w.heap.size + 1) (w.heap.size + 1 + 1) h_ hC⟩
    · have e67 : ev (.tmp 67) = vals 1 := hv 1 67 (by kernel_rfl) (by kernel_rfl) (Nat.le_of_ble_eq_true (by kernel_rfl))
      have e69 : ev (.tmp 69) = vals 3 := hv 3 69 (by kernel_rfl) (by kernel_rfl) (Nat.le_of_ble_eq_true (by kernel_rfl))
      have e67x : ev (.tmp 67) = flat (US x) := by rw [e67]; exact hR 1 (by kernel_rfl)
      have e69x : ev (.tmp 69) = flat (US y) := by rw [e69]; exact hR 3 (by kernel_rfl)
      clear e67 e69
      have hf := hfn 178
      clear hR hv h0 hc
      unfold OpDoes
      go_simp
      refine (loosely_flat (x := US x) (y := US y) (US_alike HXY.out) (US_kd H21.out H22.out).1 (US_kd H21.out H22.out).2 _).mono ?_
      rintro _ w2 ⟨rfl, hC⟩
      exact ⟨_, rfl, rfl, hI.reads hC, fun i_ x_ m_ _ _ h_ => RSF_ext x y (w.heap.size + 1) (w.heap.size + 1 + 1) h_ hC⟩
    · have e70 : ev (.tmp 70) = vals 4 := hv 4 70 (by kernel_rfl) (by kernel_rfl) (Nat.le_of_ble_eq_true (by kernel_rfl))
      have e70x : ev (.tmp 70) = .bool true := by rw [e70]; exact hR 4 (by kernel_rfl)
      clear e70
      clear hR hv h0 hc
      refine Step.fixed (x := .bool true) ?_ ⟨rfl, hI, fun i_ x_ m_ _ _ h_ => RSF_ext x y (w.heap.size + 1) (w.heap.size + 1 + 1) h_ (Chg.refl _ _)⟩
      unfold OpDoes
      go_simp
  case fin =>
    intro vals c w3 hI hfin
    have h5 : vals 5 = .bool true := hfin 5 (by kernel_rfl) (by decide)
    have HI := Lib.hid (HC0.out.reads hI)
    clear hfin hI
    simp only [putAll, Act.put, List.setIfInBounds_toArray, List.set_cons_zero, List.set_cons_succ, Nat.reduceAdd]
    rw [h5]
    clear h5
    go_wp2_with fail
    go_ret
    exact ⟨rfl, HI.out⟩
set_option maxHeartbeats 4000000 in
set_option maxRecDepth 1000000 in
theorem sameField_null {x y z : FV} (hx : x.kd = 0) (hy : y.kd = 0) (w : World) :
    Calls Tryz.prog 125 #[.agg #[.int .i64 z.kd, .int .u64 (z.nm : Int), .string z.tx, .slice z.kA z.kN z.kC, .int .i64 z.of_, .slice z.dA 0 z.dC, .int .i64 0, .int .u64 0, .string ⟨#[]⟩, .slice none 0 0, .int .i64 0, .slice none 0 0], flat x, flat y] w fun e w' => e = .returned (.bool true) ∧ Chg (fun _ => False) w w' := by
  obtain ⟨xkd, xnm, xtx, xkA, xkN, xkC, xof, xdA, xdC⟩ := x
  obtain ⟨ykd, ynm, ytx, ykA, ykN, ykC, yof, ydA, ydC⟩ := y
  simp only at hx hy
  subst hx hy
  go_enter Tryz.func125, Tryz.ntmps125
  go_upto_region 1 with (fail)
  refine wp_any_world (fun w' => Chg (fun _ => False) w w' ∧ w'.heap[w.heap.size]? = some (.cells #[.int .i64 z.kd, .int .u64 (z.nm : Int), .string z.tx, .slice z.kA z.kN z.kC, .int .i64 z.of_, .slice z.dA 0 z.dC, .int .i64 0, .int .u64 0, .string ⟨#[]⟩, .slice none 0 0, .int .i64 0, .slice none 0 0] 83 (0, 0)) ∧ w'.heap[w.heap.size + 1]? = some (.cells #[.int .i64 0, .int .u64 (xnm : Int), .string xtx, .slice xkA 0 xkC, .int .i64 xof, .slice xdA 0 xdC] 81 (0, 0)) ∧ w'.heap[w.heap.size + 2]? = some (.cells #[.int .i64 0, .int .u64 (ynm : Int), .string ytx, .slice ykA 0 ykC, .int .i64 yof, .slice ydA 0 ydC] 81 (0, 0))) (new3 w _ _ _) ?_
  rintro w1 ⟨hC, h0, h1, h2⟩
  have HC := Lib.hid hC; have H1 := Lib.hid h1; have H2 := Lib.hid h2
  have z0 := blk_cell (k := 6) h0 rfl
  have f0 := blk_free (k := 0) h1
  have g0 := blk_free (k := 0) h2
  have z1 := blk_cell (k := 7) h0 rfl
  have f1 := blk_free (k := 1) h1
  have g1 := blk_free (k := 1) h2
  have z2 := blk_cell (k := 8) h0 rfl
  have f2 := blk_free (k := 2) h1
  have g2 := blk_free (k := 2) h2
  have z3 := blk_cell (k := 9) h0 rfl
  have f3 := blk_free (k := 3) h1
  have g3 := blk_free (k := 3) h2
  have z4 := blk_cell (k := 10) h0 rfl
  have f4 := blk_free (k := 4) h1
  have g4 := blk_free (k := 4) h2
  have z5 := blk_cell (k := 11) h0 rfl
  have f5 := blk_free (k := 5) h1
  have g5 := blk_free (k := 5) h2
  have a0 := blk_cell (k := 0) h1 rfl
  have b0 := blk_cell (k := 0) h2 rfl
  have a1 := blk_cell (k := 1) h1 rfl
  have b1 := blk_cell (k := 1) h2 rfl
  have a2 := blk_cell (k := 2) h1 rfl
  have b2 := blk_cell (k := 2) h2 rfl
  have a3 := blk_cell (k := 3) h1 rfl
  have b3 := blk_cell (k := 3) h2 rfl
  have a4 := blk_cell (k := 4) h1 rfl
  have b4 := blk_cell (k := 4) h2 rfl
  have a5 := blk_cell (k := 5) h1 rfl
  have b5 := blk_cell (k := 5) h2 rfl
  clear hC h0 h1 h2
  go_upto_region 5 with (fail)
  refine wp_any_world (fun w' => Chg (fun _ => False) w w' ∧ w'.heap[w.heap.size + 1]? = some (.cells #[.int .i64 0, .int .u64 0, .string ⟨#[]⟩, .slice none 0 0, .int .i64 0, .slice none 0 0] 81 (0, 0)) ∧ w'.heap[w.heap.size + 2]? = some (.cells #[.int .i64 0, .int .u64 0, .string ⟨#[]⟩, .slice none 0 0, .int .i64 0, .slice none 0 0] 81 (0, 0))) ⟨?_, ?_, ?_⟩ ?_
  · iterate 12 (refine Chg.setCell (X := fun _ => False) ?_ (fun h => absurd h (by simp <;> omega)) _)
    exact HC.out
  · iterate 6 (refine (Below.heap_setCell _ _ _ _ (by simp <;> omega)).trans ?_)
    exact setCell_blk (k := 5) (setCell_blk (k := 4) (setCell_blk (k := 3) (setCell_blk (k := 2) (setCell_blk (k := 1) (setCell_blk (k := 0) H1.out _) _) _) _) _) _
  · refine setCell_blk (k := 5) (setCell_blk (k := 4) (setCell_blk (k := 3) (setCell_blk (k := 2) (setCell_blk (k := 1) (setCell_blk (k := 0) (cs := #[.int .i64 0, .int .u64 (ynm : Int), .string ytx, .slice ykA 0 ykC, .int .i64 yof, .slice ydA 0 ydC]) ?_ _) _) _) _) _) _
    iterate 6 (refine (Below.heap_setCell _ _ _ _ (by simp <;> omega)).trans ?_)
    exact H2.out
  rintro w2 ⟨hC, h1, h2⟩
  clear HC H1 H2 z0 z1 z2 z3 z4 z5 f0 f1 f2 f3 f4 f5 g0 g1 g2 g3 g4 g5 a0 a1 a2 a3 a4 a5 b0 b1 b2 b3 b4 b5
  have HC2 := Lib.hid hC; have HA := Lib.hid h1; have HB := Lib.hid h2
  have a0 := blk_cell (k := 0) h1 rfl
  have b0 := blk_cell (k := 0) h2 rfl
  have a1 := blk_cell (k := 1) h1 rfl
  have b1 := blk_cell (k := 1) h2 rfl
  have a2 := blk_cell (k := 2) h1 rfl
  have b2 := blk_cell (k := 2) h2 rfl
  have a3 := blk_cell (k := 3) h1 rfl
  have b3 := blk_cell (k := 3) h2 rfl
  have a4 := blk_cell (k := 4) h1 rfl
  have b4 := blk_cell (k := 4) h2 rfl
  have a5 := blk_cell (k := 5) h1 rfl
  have b5 := blk_cell (k := 5) h2 rfl
  clear hC h1 h2
  go_upto_region 5 with (fail)
  go_quiet (fail)
  go_upto_region 9 with (fail)
  clear a0 b0 a1 b1 a2 b2 a3 b3 a4 b4 a5 b5
  refine wp_any_world (fun w' => Chg (fun _ => False) w w' ∧ FlatAt w' (w.heap.size + 1) 0 FV0 ∧ FlatAt w' (w.heap.size + 1 + 1) 0 FV0) ⟨HC2.out.drewN _, ⟨blk_cell (k := 0) HA.out rfl, blk_cell (k := 1) HA.out rfl, blk_cell (k := 2) HA.out rfl, blk_cell (k := 3) HA.out rfl, blk_cell (k := 4) HA.out rfl, blk_cell (k := 5) HA.out rfl⟩, ⟨blk_cell (k := 0) HB.out rfl, blk_cell (k := 1) HB.out rfl, blk_cell (k := 2) HB.out rfl, blk_cell (k := 3) HB.out rfl, blk_cell (k := 4) HB.out rfl, blk_cell (k := 5) HB.out rfl⟩⟩ ?_
  rintro w0 ⟨hC0, hA, hB⟩
  have HC0 := Lib.hid hC0; have HXA := Lib.hid hA; have HYB := Lib.hid hB
  clear hC0 hA hB HC2 HA HB
  refine wp_region_rel (RSF FV0 FV0 (w.heap.size + 1) (w.heap.size + 1 + 1)) (fun w' => Chg (fun _ => False) w0 w') [5] (by kernel_rfl) (by kernel_rfl) (by kernel_rfl) (by kernel_rfl) ((Chg.refl _ w0).drewN 1) ?steps ?fin
  case steps =>
    refine ⟨⟨rfl, ?_⟩, ⟨rfl, ?_⟩, ⟨rfl, ?_⟩, ⟨rfl, ?_⟩, ⟨rfl, ?_⟩, ⟨rfl, ?_⟩, trivial⟩
    all_goals (intro vals ev c w1 hc hI hR hv h0 hcst hfn hgl)
    · have e4 : ev (.tmp 4) = .pointer (some ⟨(w.heap.size + 1), 0, none⟩) := h0 4 (by kernel_rfl)
      obtain ⟨q0, q1, q2, q3, q4, q5⟩ := HXA.out.chg hI (fun h => h)
      simp only [Nat.zero_add] at q1 q2 q3 q4 q5
      clear hR hv h0 hc
      refine Step.fixed (x := flat FV0) ?_ ⟨rfl, hI, fun i_ x_ m_ _ _ h_ => RSF_ext FV0 FV0 (w.heap.size + 1) (w.heap.size + 1 + 1) h_ (Chg.refl _ _)⟩
      unfold OpDoes
      go_simp
    · have e66 : ev (.tmp 66) = flat FV0 := (hv 0 66 (by kernel_rfl) (by kernel_rfl) (Nat.le_of_ble_eq_true (by kernel_rfl))).trans (hR 0 (by kernel_rfl))
      clear hR hv h0 hc
      have hf := hfn 179
      unfold OpDoes
      go_simp
      refine (usual_any (x := FV0) (by decide) (by decide) _).mono ?_
      rintro _ w2 ⟨rfl, hC⟩
      exact ⟨_, rfl, rfl, hI.reads hC, fun i_ x_ m_ _ _ h_ => RSF_ext FV0 FV0 (w.heap.size + 1) (w.heap.size + 1 + 1) h_ hC⟩
    · have e5 : ev (.tmp 5) = .pointer (some ⟨(w.heap.size + 1 + 1), 0, none⟩) := h0 5 (by kernel_rfl)
      obtain ⟨q0, q1, q2, q3, q4, q5⟩ := HYB.out.chg hI (fun h => h)
      simp only [Nat.zero_add] at q1 q2 q3 q4 q5
      clear hR hv h0 hc
      refine Step.fixed (x := flat FV0) ?_ ⟨rfl, hI, fun i_ x_ m_ _ _ h_ => RSF_ext FV0 FV0 (w.heap.size + 1) (w.heap.size + 1 + 1) h_ (Chg.refl _ _)⟩
      unfold OpDoes
      go_simp
    · have e68 : ev (.tmp 68) = flat FV0 := (hv 2 68 (by kernel_rfl) (by kernel_rfl) (Nat.le_of_ble_eq_true (by kernel_rfl))).trans (hR 2 (by kernel_rfl))
      clear hR hv h0 hc
      have hf := hfn 179
      unfold OpDoes
      go_simp
      refine (usual_any (x := FV0) (by decide) (by decide) _).mono ?_
      rintro _ w2 ⟨rfl, hC⟩
      exact ⟨_, rfl, rfl, hI.reads hC, fun i_ x_ m_ _ _ h_ => RSF_ext FV0 FV0 (w.heap.size + 1) (w.heap.size + 1 + 1) h_ hC⟩
    · have e67 : ev (.tmp 67) = vals 1 := hv 1 67 (by kernel_rfl) (by kernel_rfl) (Nat.le_of_ble_eq_true (by kernel_rfl))
      have e69 : ev (.tmp 69) = vals 3 := hv 3 69 (by kernel_rfl) (by kernel_rfl) (Nat.le_of_ble_eq_true (by kernel_rfl))
      have e67x : ev (.tmp 67) = flat (US FV0) := by rw [e67]; exact hR 1 (by kernel_rfl)
      have e69x : ev (.tmp 69) = flat (US FV0) := by rw [e69]; exact hR 3 (by kernel_rfl)
      clear e67 e69
      have hf := hfn 178
      clear hR hv h0 hc
      unfold OpDoes
      go_simp
      refine (loosely_flat (x := US FV0) (y := US FV0) (US_alike ⟨rfl, rfl, rfl⟩) (US_kd (by decide) (by decide)).1 (US_kd (by decide) (by decide)).2 _).mono ?_
      rintro _ w2 ⟨rfl, hC⟩
      exact ⟨_, rfl, rfl, hI.reads hC, fun i_ x_ m_ _ _ h_ => RSF_ext FV0 FV0 (w.heap.size + 1) (w.heap.size + 1 + 1) h_ hC⟩
    · have e70 : ev (.tmp 70) = vals 4 := hv 4 70 (by kernel_rfl) (by kernel_rfl) (Nat.le_of_ble_eq_true (by kernel_rfl))
      have e70x : ev (.tmp 70) = .bool true := by rw [e70]; exact hR 4 (by kernel_rfl)
      clear e70
      clear hR hv h0 hc
      refine Step.fixed (x := .bool true) ?_ ⟨rfl, hI, fun i_ x_ m_ _ _ h_ => RSF_ext FV0 FV0 (w.heap.size + 1) (w.heap.size + 1 + 1) h_ (Chg.refl _ _)⟩
      unfold OpDoes
      go_simp
  case fin =>
    intro vals c w3 hI hfin
    have h5 : vals 5 = .bool true := hfin 5 (by kernel_rfl) (by decide)
    have HI := Lib.hid (HC0.out.reads hI)
    clear hfin hI
    simp only [putAll, Act.put, List.setIfInBounds_toArray, List.set_cons_zero, List.set_cons_succ, Nat.reduceAdd]
    rw [h5]
    clear h5
    go_wp2_with fail
    go_ret
    exact ⟨rfl, HI.out⟩
/-- SameField of flat values that are alike, the default nothing. -/
theorem sameField {x y z : FV} (hxy : Alike x y) (h21 : x.kd ≠ 21) (h22 : x.kd ≠ 22) (h23 : x.kd ≠ 23) (w : World) :
    Calls Tryz.prog 125 #[.agg #[.int .i64 z.kd, .int .u64 (z.nm : Int), .string z.tx, .slice z.kA z.kN z.kC, .int .i64 z.of_, .slice z.dA 0 z.dC, .int .i64 0, .int .u64 0, .string ⟨#[]⟩, .slice none 0 0, .int .i64 0, .slice none 0 0], flat x, flat y] w fun e w' => e = .returned (.bool true) ∧ Chg (fun _ => False) w w' := by
  by_cases hx : x.kd = 0
  · exact sameField_null hx (hxy.1 ▸ hx) w
  · exact sameField_some hx (hxy.1 ▸ hx) hxy h21 h22 h23 w
/-- What the checks are asked of two rows of fields. -/
structure Pair (x y : FV) : Prop where
  alike : Alike x y
  k21 : x.kd ≠ 21
  k22 : x.kd ≠ 22
  k23 : x.kd ≠ 23
  xN : x.kN = 0
  yN : y.kN = 0
set_option maxHeartbeats 8000000 in
set_option maxRecDepth 1000000 in
theorem sameKids_calls {F X Y : Nat → FV} {n : Nat} (hn1 : 1 ≤ n) (hn : n ≤ 13) {cd : Int} {g cC ka aC kb bC : Nat} {w : World} (hP : ∀ j, j < n → Pair (X j) (Y j)) (hf : ∀ j, j < n → FVAt w g (j * 12) (F j) ∧ FVAt w g (j * 12 + 6) FV0) (ha : ∀ j, j < n → FVAt w ka (j * 6) (X j)) (hb : ∀ j, j < n → FVAt w kb (j * 6) (Y j)) :
    Calls Tryz.prog 67 #[.agg #[.int .u64 cd, .slice (some ⟨g, 0, none⟩) n cC], .slice (some ⟨ka, 0, none⟩) n aC, .slice (some ⟨kb, 0, none⟩) n bC] w fun e w' => e = .returned (.bool true) ∧ Chg (fun _ => False) w w' := by
  have HP := Lib.hid hP; have HF := Lib.hid hf; have HA := Lib.hid ha; have HB := Lib.hid hb
  clear hP hf ha hb
  have hd : decide ((n : Int) > (n : Int)) = false := by simp
  go_enter Tryz.func67, Tryz.ntmps67
  go_upto_region 1 with (fail)
  refine wp_any_world (fun w' => Chg (fun _ => False) w w' ∧ w'.heap[w.heap.size]? = some (.cells #[.int .u64 cd, .slice (some ⟨g, 0, none⟩) n cC] 35 (0, 0))) ⟨(Chg.refl _ w).alloc _, heap_alloc_new _ _⟩ ?_
  rintro w1 ⟨hC, hbx⟩
  have HC := Lib.hid hC
  have y1 := blk_cell (k := 1) hbx rfl
  clear hC hbx
  go_wp2_with fail
  go_loopw [28] (fun i wr => ∃ k : Nat, k ≤ n ∧ i = .int .i64 (k : Int) ∧ Chg (fun _ => False) w1 wr) (fun i _ => n - (intOf i).toNat)
  case atStart => exact ⟨0, Nat.zero_le _, rfl, Chg.refl _ _⟩
  case round =>
    obtain ⟨k, hkn, rfl, hCr⟩ := hrel
    have HCR := Lib.hid hCr
    clear hCr
    rcases Nat.lt_or_ge k n with hlt | hge
    · have hd1 : decide ((k : Int) < (n : Int)) = true := by simp; omega
      have hCw := HC.out.reads HCR.out
      obtain ⟨q0, q1, q2, q3, q4, q5⟩ := (HF.out k hlt).1.chg hCw (fun h => h)
      obtain ⟨p0, p1, p2, p3, p4, p5⟩ := (HF.out k hlt).2.chg hCw (fun h => h)
      simp only [Nat.add_assoc, Nat.reduceAdd, FV0] at p0 p1 p2 p3 p4 p5
      have hk0 : (0 : Int) ≤ (k : Int) := by omega
      have hkl : (k : Int) < (n : Int) := by omega
      clear hCw
      go_upto_region 7 with (fail)
      refine wp_any_world (fun w' => Chg (fun _ => False) wr w' ∧ w'.heap[wr.heap.size]? = some (.cells #[.int .i64 (F k).kd, .int .u64 ((F k).nm : Int), .string (F k).tx, .slice (F k).kA (F k).kN (F k).kC, .int .i64 (F k).of_, .slice (F k).dA 0 (F k).dC, .int .i64 0, .int .u64 0, .string ⟨#[]⟩, .slice none 0 0, .int .i64 0, .slice none 0 0] 83 (0, 0)) ∧ w'.heap[wr.heap.size + 1]? = some (.cells #[.int .i64 0, .int .u64 0, .string ⟨#[]⟩, .slice none 0 0, .int .i64 0, .slice none 0 0] 81 (0, 0)) ∧ w'.heap[wr.heap.size + 2]? = some (.cells #[.int .i64 0, .int .u64 0, .string ⟨#[]⟩, .slice none 0 0, .int .i64 0, .slice none 0 0] 81 (0, 0))) (new3 wr _ _ _) ?_
      rintro w2 ⟨hC2, h0, h1, h2⟩
      have HC2 := Lib.hid hC2; have H0 := Lib.hid h0; have H1 := Lib.hid h1; have H2 := Lib.hid h2
      clear q0 q1 q2 q3 q4 q5 p0 p1 p2 p3 p4 p5
      have hCw2 := (HC.out.reads HCR.out).reads HC2.out
      have HP3 := HP.out k hlt
      obtain ⟨x0, x1, x2, x3, x4, x5⟩ := ((HA.out k hlt).chg hCw2 (fun h => h)).flat HP3.xN
      have f0 := blk_free (k := 0) h1
      have z0 := blk_cell (k := 0) h1 rfl
      have f1 := blk_free (k := 1) h1
      have z1 := blk_cell (k := 1) h1 rfl
      have f2 := blk_free (k := 2) h1
      have z2 := blk_cell (k := 2) h1 rfl
      have f3 := blk_free (k := 3) h1
      have z3 := blk_cell (k := 3) h1 rfl
      have f4 := blk_free (k := 4) h1
      have z4 := blk_cell (k := 4) h1 rfl
      have f5 := blk_free (k := 5) h1
      have z5 := blk_cell (k := 5) h1 rfl
      have HP4 := Lib.hid HP3
      clear hC2 h0 h1 h2 hCw2 HP3
      go_upto_region 9 with (fail)
      refine wp_any_world (fun w' => Chg (fun x => x = wr.heap.size + 1) w2 w' ∧ FlatAt w' (wr.heap.size + 1) 0 (X k)) ⟨?_, ?_⟩ ?_
      · iterate 6 (refine Chg.setCell (X := fun x => x = wr.heap.size + 1) ?_ (fun _ => by rfl) _)
        exact Chg.refl _ _
      · have hb := setCell_blk (k := 5) (setCell_blk (k := 4) (setCell_blk (k := 3) (setCell_blk (k := 2) (setCell_blk (k := 1) (setCell_blk (k := 0) H1.out (.int .i64 (X k).kd)) (.int .u64 ((X k).nm : Int))) (.string (X k).tx)) (.slice (X k).kA 0 (X k).kC)) (.int .i64 (X k).of_)) (.slice (X k).dA 0 (X k).dC)
        exact ⟨blk_cell hb rfl, blk_cell hb rfl, blk_cell hb rfl, blk_cell hb rfl, blk_cell hb rfl, blk_cell hb rfl⟩
      rintro w3 ⟨hC3, hX3⟩
      have HC3 := Lib.hid hC3; have HX3 := Lib.hid hX3
      clear x0 x1 x2 x3 x4 x5 f0 f1 f2 f3 f4 f5 z0 z1 z2 z3 z4 z5
      have hs2 : wr.heap.size + 3 ≤ w2.heap.size := by have := (Array.getElem?_eq_some_iff.1 H2.out).1; omega
      have HCW3 : Hid (Chg (fun _ => False) w w3) := Lib.hid (((HC.out.reads HCR.out).reads HC2.out).trans hC3 (fun i hi h => absurd hi (by have := HC.out.size; have := HCR.out.size; have h' : i = wr.heap.size + 1 := h; omega)))
      have h2 := hC3.blk H2.out (fun h => absurd (show wr.heap.size + 2 = wr.heap.size + 1 from h) (by omega))
      have H2' := Lib.hid h2
      have H0' := Lib.hid (hC3.blk H0.out (fun h => absurd (show wr.heap.size = wr.heap.size + 1 from h) (by omega)))
      obtain ⟨x0, x1, x2, x3, x4, x5⟩ := ((HB.out k hlt).chg HCW3.out (fun h => h)).flat HP4.out.yN
      have f0 := blk_free (k := 0) h2
      have z0 := blk_cell (k := 0) h2 rfl
      have f1 := blk_free (k := 1) h2
      have z1 := blk_cell (k := 1) h2 rfl
      have f2 := blk_free (k := 2) h2
      have z2 := blk_cell (k := 2) h2 rfl
      have f3 := blk_free (k := 3) h2
      have z3 := blk_cell (k := 3) h2 rfl
      have f4 := blk_free (k := 4) h2
      have z4 := blk_cell (k := 4) h2 rfl
      have f5 := blk_free (k := 5) h2
      have z5 := blk_cell (k := 5) h2 rfl
      clear hC3 hX3 h2
      go_upto_region 11 with (fail)
      refine wp_any_world (fun w' => Chg (fun x => x = wr.heap.size + 2) w3 w' ∧ FlatAt w' (wr.heap.size + 1) 0 (X k) ∧ FlatAt w' (wr.heap.size + 1 + 1) 0 (Y k) ∧ w'.heap[wr.heap.size]? = some (.cells #[.int .i64 (F k).kd, .int .u64 ((F k).nm : Int), .string (F k).tx, .slice (F k).kA (F k).kN (F k).kC, .int .i64 (F k).of_, .slice (F k).dA 0 (F k).dC, .int .i64 0, .int .u64 0, .string ⟨#[]⟩, .slice none 0 0, .int .i64 0, .slice none 0 0] 83 (0, 0))) ⟨?_, ?_, ?_, ?_⟩ ?_
      · iterate 6 (refine Chg.setCell (X := fun x => x = wr.heap.size + 2) ?_ (fun _ => by rfl) _)
        exact Chg.refl _ _
      · refine FlatAt.chg (X := fun x => x = wr.heap.size + 2) HX3.out ?_ (fun h => absurd (show wr.heap.size + 1 = wr.heap.size + 2 from h) (by omega))
        iterate 6 (refine Chg.setCell (X := fun x => x = wr.heap.size + 2) ?_ (fun _ => by rfl) _)
        exact Chg.refl _ _
      · have hb := setCell_blk (k := 5) (setCell_blk (k := 4) (setCell_blk (k := 3) (setCell_blk (k := 2) (setCell_blk (k := 1) (setCell_blk (k := 0) H2'.out (.int .i64 (Y k).kd)) (.int .u64 ((Y k).nm : Int))) (.string (Y k).tx)) (.slice (Y k).kA 0 (Y k).kC)) (.int .i64 (Y k).of_)) (.slice (Y k).dA 0 (Y k).dC)
        exact ⟨blk_cell hb rfl, blk_cell hb rfl, blk_cell hb rfl, blk_cell hb rfl, blk_cell hb rfl, blk_cell hb rfl⟩
      · refine Chg.blk (X := fun x => x = wr.heap.size + 2) ?_ H0'.out (fun h => absurd (show wr.heap.size = wr.heap.size + 2 from h) (by omega))
        iterate 6 (refine Chg.setCell (X := fun x => x = wr.heap.size + 2) ?_ (fun _ => by rfl) _)
        exact Chg.refl _ _
      rintro w4 ⟨hC4, hX4, hY4, h04⟩
      have HCW4 : Hid (Chg (fun _ => False) w1 w4) := Lib.hid (((HCR.out.reads HC2.out).trans HC3.out (fun i hi h => absurd hi (by have := HCR.out.size; have h' : i = wr.heap.size + 1 := h; omega))).trans hC4 (fun i hi h => absurd hi (by have := HCR.out.size; have h' : i = wr.heap.size + 2 := h; omega)))
      clear x0 x1 x2 x3 x4 x5 f0 f1 f2 f3 f4 f5 z0 z1 z2 z3 z4 z5 hC4
      obtain ⟨x0, x1, x2, x3, x4, x5⟩ := hX4
      obtain ⟨y0, y1', y2, y3, y4, y5⟩ := hY4
      simp only [Nat.zero_add] at x1 x2 x3 x4 x5 y1' y2 y3 y4 y5
      have d0 := blk_cell (k := 0) h04 rfl
      have d1 := blk_cell (k := 1) h04 rfl
      have d2 := blk_cell (k := 2) h04 rfl
      have d3 := blk_cell (k := 3) h04 rfl
      have d4 := blk_cell (k := 4) h04 rfl
      have d5 := blk_cell (k := 5) h04 rfl
      have d6 := blk_cell (k := 6) h04 rfl
      have d7 := blk_cell (k := 7) h04 rfl
      have d8 := blk_cell (k := 8) h04 rfl
      have d9 := blk_cell (k := 9) h04 rfl
      have d10 := blk_cell (k := 10) h04 rfl
      have d11 := blk_cell (k := 11) h04 rfl
      clear h04
      go_wp2_with fail
      refine (sameField (x := X k) (y := Y k) (z := F k) HP4.out.alike HP4.out.k21 HP4.out.k22 HP4.out.k23 _).mono ?_
      rintro _ w5 ⟨rfl, hC5⟩
      have HC5 := Lib.hid (HCW4.out.reads hC5)
      clear hC5 x0 x1 x2 x3 x4 x5 y0 y1' y2 y3 y4 y5 d0 d1 d2 d3 d4 d5 d6 d7 d8 d9 d10 d11
      go_wp2_with fail
      go_roundw
      case rel => exact ⟨k + 1, hlt, by go_num, HC5.out⟩
      case measure => simp [intOf]; omega
    · obtain rfl : k = n := by omega
      have hd1 : decide ((k : Int) < (k : Int)) = false := by simp
      go_wp2_with fail
      go_ret
      exact ⟨rfl, HC.out.reads HCR.out⟩
end Go.Proofs.S
