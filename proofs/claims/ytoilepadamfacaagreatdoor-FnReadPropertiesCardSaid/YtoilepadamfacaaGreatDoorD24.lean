/- The comparison of two trees answers true where both hold the same: for trees of plain values. -/
import Derived.Test.YtoilepadamfacaaGreatDoorD23
set_option linter.unusedVariables false
set_option linter.unusedSimpArgs false
namespace Go.Proofs.S
open Go.RowKit Go.Maps
theorem new2b (w : World) (a b : Obj) : Chg (fun _ => False) w ((w.alloc a).alloc b) ∧ ((w.alloc a).alloc b).heap[w.heap.size]? = some a ∧ ((w.alloc a).alloc b).heap[w.heap.size + 1]? = some b := by
  refine ⟨((Chg.refl _ w).alloc _).alloc _, ?_, ?_⟩
  · exact ((Chg.refl (fun _ => False) _).alloc _).blkF (heap_alloc_new w a)
  · have := heap_alloc_new (w.alloc a) b
    rwa [show (w.alloc a).heap.size = w.heap.size + 1 by simp] at this
theorem whole_kids {F : Nat → FV} {n kg kC base : Nat} {xs : List FV} {w : World} (hO : OwnV w base (.slice (some ⟨kg, 0, none⟩) n kC) xs) (hxl : xs.length = n) (hxs : ∀ j, j < n → xs[j]? = some (F j)) (hn1 : 1 ≤ n) : ∀ j, j < n → FVAt w kg (j * 6) (F j) := by
  have hxne : xs ≠ [] := fun h => by rw [h] at hxl; simp at hxl; omega
  obtain ⟨kg', kC', hv, hkg1, hkg2, hcl⟩ := hO.at hxne
  injection hv with e1 e2 e3
  injection e1 with e1
  injection e1 with e1
  subst e1
  exact fun j hj => hcl j _ (hxs j hj)
def RIS (F : Nat → FV) (n g cC kb bC b2 b3 : Nat) (i : Nat) (v : Value) (m : Nat → Value) (c : Nat) (w : World) : Prop :=
  match i with
  | 0 => v = .agg #[.int .u64 115, .slice (some ⟨g, 0, none⟩) n cC]
  | 1 => v = .agg #[.int .u64 115, .slice (some ⟨g, 0, none⟩) n cC]
  | 2 => ∃ kg kC dg, v = .agg #[.int .i64 21, .int .u64 0, .string ⟨#[]⟩, .slice (some ⟨kg, 0, none⟩) n kC, .int .i64 0, .slice (some ⟨dg, 0, none⟩) 1 1] ∧ ∀ j, j < n → FVAt w kg (j * 6) (F j)
  | 3 => ∃ kg kC, v = .slice (some ⟨kg, 0, none⟩) n kC ∧ ∀ j, j < n → FVAt w kg (j * 6) (F j)
  | 4 => v = .pointer (some ⟨b3, 3, none⟩)
  | 5 => v = .slice (some ⟨kb, 0, none⟩) n bC
  | 6 => v = .bool true
  | 7 => v = .bool true
  | _ => True
theorem RIS_ext (F : Nat → FV) (n g cC kb bC b2 b3 : Nat) {i : Nat} {v : Value} {m : Nat → Value} {c : Nat} {w w1 : World} (h : RIS F n g cC kb bC b2 b3 i v m c w) (hc : Chg (fun _ => False) w w1) : RIS F n g cC kb bC b2 b3 i v m (c + 1) w1 := by
  unfold RIS at h ⊢
  split
  · exact h
  · exact h
  · obtain ⟨kg, kC, dg, h1, h2⟩ := h; exact ⟨kg, kC, dg, h1, fun j hj => (h2 j hj).chg hc (fun h => h)⟩
  · obtain ⟨kg, kC, h1, h2⟩ := h; exact ⟨kg, kC, h1, fun j hj => (h2 j hj).chg hc (fun h => h)⟩
  · exact h
  · exact h
  · exact h
  · exact h
  · trivial
set_option maxHeartbeats 8000000 in
set_option maxRecDepth 1000000 in
/-- (Composite).Is of a value whose fields are alike. -/
theorem is_calls {F Y : Nat → FV} {n : Nat} (hn1 : 1 ≤ n) (hn : n ≤ 13) {g cC kb bC dg dC : Nat} {w : World} (hP : ∀ j, j < n → Pair (F j) (Y j)) (hf : ∀ j, j < n → FVAt w g (j * 12) (F j) ∧ FVAt w g (j * 12 + 6) FV0) (hb : ∀ j, j < n → FVAt w kb (j * 6) (Y j)) (hd : FVAt w dg 0 FD) :
    Calls Tryz.prog 38 #[.agg #[.int .u64 115, .slice (some ⟨g, 0, none⟩) n cC], .agg #[.int .i64 21, .int .u64 0, .string ⟨#[]⟩, .slice (some ⟨kb, 0, none⟩) n bC, .int .i64 0, .slice (some ⟨dg, 0, none⟩) 1 dC]] w fun e w' => e = .returned (.bool true) ∧ Chg (fun _ => False) w w' := by
  have h2 := new2b w (.cells #[.int .u64 115, .slice (some ⟨g, 0, none⟩) n cC] 35) (.cells #[.int .i64 21, .int .u64 0, .string ⟨#[]⟩, .slice (some ⟨kb, 0, none⟩) n bC, .int .i64 0, .slice (some ⟨dg, 0, none⟩) 1 dC] 81)
  have HP := Lib.hid hP; have HFb := Lib.hid hf; have HBb := Lib.hid hb; have HD := Lib.hid hd
  clear hP hf hb hd
  go_enter Tryz.func38, Tryz.ntmps38
  go_upto_region 1 with (fail)
  refine wp_any_world (fun w' => Chg (fun _ => False) w w' ∧ w'.heap[w.heap.size]? = some (.cells #[.int .u64 115, .slice (some ⟨g, 0, none⟩) n cC] 35 (0, 0)) ∧ w'.heap[w.heap.size + 1]? = some (.cells #[.int .i64 21, .int .u64 0, .string ⟨#[]⟩, .slice (some ⟨kb, 0, none⟩) n bC, .int .i64 0, .slice (some ⟨dg, 0, none⟩) 1 dC] 81 (0, 0))) h2 ?_
  clear h2
  rintro w1 ⟨hC, h0, h1⟩
  have HC := Lib.hid hC
  obtain ⟨d0, d1, d2, d3, d4, d5⟩ := HD.out.chg hC (fun h => h)
  simp only [FD, Nat.zero_add] at d0 d1
  have Y0 := Lib.hid (blk_cell (k := 0) h0 rfl); have Y1 := Lib.hid (blk_cell (k := 1) h0 rfl)
  have Z3 := Lib.hid (blk_cell (k := 3) h1 rfl)
  have y0 := Y0.out
  have z0 := blk_cell (k := 0) h1 rfl
  have z5 := blk_cell (k := 5) h1 rfl
  clear hC h0 h1 d2 d3 d4 d5
  go_quiet (fail)
  go_upto_region 3 with (fail)
  clear d0 d1 y0 z0 z5
  refine wp_any_world (fun w' => Chg (fun _ => False) w1 w') ((Chg.refl _ w1).drewN _) ?_
  rintro w0 hC0
  have HC0 := Lib.hid (HC.out.reads hC0)
  have HF : Hid (∀ j, j < n → FVAt w0 g (j * 12) (F j) ∧ FVAt w0 g (j * 12 + 6) FV0) := Lib.hid (fun j hj => ⟨(HFb.out j hj).1.chg HC0.out (fun h => h), (HFb.out j hj).2.chg HC0.out (fun h => h)⟩)
  have HB : Hid (∀ j, j < n → FVAt w0 kb (j * 6) (Y j)) := Lib.hid (fun j hj => (HBb.out j hj).chg HC0.out (fun h => h))
  have y0 := hC0.cell Y0.out (fun h => h); have y1 := hC0.cell Y1.out (fun h => h); have z3 := hC0.cell Z3.out (fun h => h)
  clear Y0 Y1 Z3
  have Y0 := Lib.hid y0; have Y1 := Lib.hid y1; have Z3 := Lib.hid z3
  clear y0 y1 z3 hC0
  refine wp_region_rel (RIS F n g cC kb bC w.heap.size (w.heap.size + 1)) (fun w' => Chg (fun _ => False) w0 w') [7] (by kernel_rfl) (by kernel_rfl) (by kernel_rfl) (by kernel_rfl) ((Chg.refl _ w0).drewN 1) ?steps ?fin
  case steps =>
    refine ⟨⟨rfl, ?_⟩, ⟨rfl, ?_⟩, ⟨rfl, ?_⟩, ⟨rfl, ?_⟩, ⟨rfl, ?_⟩, ⟨rfl, ?_⟩, ⟨rfl, ?_⟩, ⟨rfl, ?_⟩, trivial⟩
    all_goals (intro vals ev c w1 hc hI hR hv h0 hcst hfn hgl)
    · have e2 : ev (.tmp 2) = .pointer (some ⟨w.heap.size, 0, none⟩) := h0 2 (by kernel_rfl)
      have l_y0 := hI.cell Y0.out (fun h => h)
      have l_y1 := hI.cell Y1.out (fun h => h)
      clear hR hv h0 hc
      refine Step.fixed (x := .agg #[.int .u64 115, .slice (some ⟨g, 0, none⟩) n cC]) ?_ ⟨rfl, hI, fun i_ x_ m_ _ _ h_ => RIS_ext F n g cC kb bC w.heap.size (w.heap.size + 1) h_ (Chg.refl _ _)⟩
      unfold OpDoes
      go_simp
    · have e2 : ev (.tmp 2) = .pointer (some ⟨w.heap.size, 0, none⟩) := h0 2 (by kernel_rfl)
      have l_y0 := hI.cell Y0.out (fun h => h)
      have l_y1 := hI.cell Y1.out (fun h => h)
      clear hR hv h0 hc
      refine Step.fixed (x := .agg #[.int .u64 115, .slice (some ⟨g, 0, none⟩) n cC]) ?_ ⟨rfl, hI, fun i_ x_ m_ _ _ h_ => RIS_ext F n g cC kb bC w.heap.size (w.heap.size + 1) h_ (Chg.refl _ _)⟩
      unfold OpDoes
      go_simp
    · have e33 : ev (.tmp 33) = .agg #[.int .u64 115, .slice (some ⟨g, 0, none⟩) n cC] := (hv 1 33 (by kernel_rfl) (by kernel_rfl) (Nat.le_of_ble_eq_true (by kernel_rfl))).trans (hR 1 (by kernel_rfl))
      have hf := hfn 33
      clear hR hv h0 hc
      unfold OpDoes
      go_simp
      refine (whole_calls (F := F) hn1 hn (fun j hj => ⟨(HF.out j hj).1.chg hI (fun h => h), (HF.out j hj).2.chg hI (fun h => h)⟩)).mono ?_
      rintro _ w2 ⟨kg, kC, dg, xs, rfl, hO, hxl, hxs, hdg, hdk, hFD, hC⟩
      have hxne : xs ≠ [] := fun h => by rw [h] at hxl; simp at hxl; omega
      obtain ⟨kg', kC', hv', hkg1, hkg2, hcl⟩ := hO.at hxne
      injection hv' with e1 e2 e3
      injection e1 with e1
      injection e1 with e1
      subst e1
      exact ⟨_, rfl, ⟨kg, kC, dg, rfl, fun j hj => hcl j _ (hxs j hj)⟩, hI.reads hC, fun i_ x_ m_ _ _ h_ => RIS_ext F n g cC kb bC w.heap.size (w.heap.size + 1) h_ hC⟩
    · have e34 : ev (.tmp 34) = vals 2 := hv 2 34 (by kernel_rfl) (by kernel_rfl) (Nat.le_of_ble_eq_true (by kernel_rfl))
      obtain ⟨kg, kC, dg, g1, g2⟩ := (hR 2 (by kernel_rfl) : ∃ kg kC dg, vals 2 = .agg #[.int .i64 21, .int .u64 0, .string ⟨#[]⟩, .slice (some ⟨kg, 0, none⟩) n kC, .int .i64 0, .slice (some ⟨dg, 0, none⟩) 1 1] ∧ ∀ j, j < n → FVAt w1 kg (j * 6) (F j))
      rw [g1] at e34
      have G2 := Lib.hid g2
      clear g1 g2 hR hv h0 hc
      have hfd : ∀ W : World, (Instr.field 81 (.agg #[.int .i64 21, .int .u64 0, .string ⟨#[]⟩, .slice (some ⟨kg, 0, none⟩) n kC, .int .i64 0, .slice (some ⟨dg, 0, none⟩) 1 1]) 3).run Tryz.prog W = .ok (.slice (some ⟨kg, 0, none⟩) n kC) W := fun W => by rfl
      refine Step.fixed (x := .slice (some ⟨kg, 0, none⟩) n kC) ?_ ⟨⟨kg, kC, rfl, G2.out⟩, hI, fun i_ x_ m_ _ _ h_ => RIS_ext F n g cC kb bC w.heap.size (w.heap.size + 1) h_ (Chg.refl _ _)⟩
      unfold OpDoes
      go_simp
    · have e3 : ev (.tmp 3) = .pointer (some ⟨(w.heap.size + 1), 0, none⟩) := h0 3 (by kernel_rfl)
      clear hR hv h0 hc
      refine Step.fixed (x := .pointer (some ⟨(w.heap.size + 1), 3, none⟩)) ?_ ⟨rfl, hI, fun i_ x_ m_ _ _ h_ => RIS_ext F n g cC kb bC w.heap.size (w.heap.size + 1) h_ (Chg.refl _ _)⟩
      unfold OpDoes
      go_simp
    · have e36 : ev (.tmp 36) = .pointer (some ⟨(w.heap.size + 1), 3, none⟩) := (hv 4 36 (by kernel_rfl) (by kernel_rfl) (Nat.le_of_ble_eq_true (by kernel_rfl))).trans (hR 4 (by kernel_rfl))
      have l_z3 := hI.cell Z3.out (fun h => h)
      clear hR hv h0 hc
      refine Step.fixed (x := .slice (some ⟨kb, 0, none⟩) n bC) ?_ ⟨rfl, hI, fun i_ x_ m_ _ _ h_ => RIS_ext F n g cC kb bC w.heap.size (w.heap.size + 1) h_ (Chg.refl _ _)⟩
      unfold OpDoes
      go_simp
    · have e32 : ev (.tmp 32) = .agg #[.int .u64 115, .slice (some ⟨g, 0, none⟩) n cC] := (hv 0 32 (by kernel_rfl) (by kernel_rfl) (Nat.le_of_ble_eq_true (by kernel_rfl))).trans (hR 0 (by kernel_rfl))
      have e35 : ev (.tmp 35) = vals 3 := hv 3 35 (by kernel_rfl) (by kernel_rfl) (Nat.le_of_ble_eq_true (by kernel_rfl))
      have e37 : ev (.tmp 37) = .slice (some ⟨kb, 0, none⟩) n bC := (hv 5 37 (by kernel_rfl) (by kernel_rfl) (Nat.le_of_ble_eq_true (by kernel_rfl))).trans (hR 5 (by kernel_rfl))
      obtain ⟨kg, kC, g1, g2⟩ := (hR 3 (by kernel_rfl) : ∃ kg kC, vals 3 = .slice (some ⟨kg, 0, none⟩) n kC ∧ ∀ j, j < n → FVAt w1 kg (j * 6) (F j))
      rw [g1] at e35
      have G2 := Lib.hid g2
      have hf := hfn 67
      clear g1 g2 hR hv h0 hc
      unfold OpDoes
      go_simp
      refine (sameKids_calls (F := F) (X := F) (Y := Y) hn1 hn HP.out (fun j hj => ⟨(HF.out j hj).1.chg hI (fun h => h), (HF.out j hj).2.chg hI (fun h => h)⟩) G2.out (fun j hj => (HB.out j hj).chg hI (fun h => h))).mono ?_
      rintro _ w2 ⟨rfl, hC⟩
      exact ⟨_, rfl, rfl, hI.reads hC, fun i_ x_ m_ _ _ h_ => RIS_ext F n g cC kb bC w.heap.size (w.heap.size + 1) h_ hC⟩
    · have e38 : ev (.tmp 38) = vals 6 := hv 6 38 (by kernel_rfl) (by kernel_rfl) (Nat.le_of_ble_eq_true (by kernel_rfl))
      have e38x : ev (.tmp 38) = .bool true := by rw [e38]; exact hR 6 (by kernel_rfl)
      clear e38
      clear hR hv h0 hc
      refine Step.fixed (x := .bool true) ?_ ⟨rfl, hI, fun i_ x_ m_ _ _ h_ => RIS_ext F n g cC kb bC w.heap.size (w.heap.size + 1) h_ (Chg.refl _ _)⟩
      unfold OpDoes
      go_simp
  case fin =>
    intro vals c w3 hI hfin
    have h5 : vals 7 = .bool true := hfin 7 (by kernel_rfl) (by decide)
    have HI := Lib.hid (HC0.out.reads hI)
    clear hfin hI
    simp only [putAll, Act.put, List.setIfInBounds_toArray, List.set_cons_zero, List.set_cons_succ, Nat.reduceAdd]
    rw [h5]
    clear h5
    go_wp2_with fail
    go_ret
    exact ⟨rfl, HI.out⟩
set_option maxHeartbeats 8000000 in
set_option maxRecDepth 1000000 in
/-- (Composite).Same of composite values whose fields are alike. -/
theorem same_calls {F Y : Nat → FV} {n : Nat} (hn1 : 1 ≤ n) (hn : n ≤ 13) {g cC g2 cC2 : Nat} {w : World} (hP : ∀ j, j < n → Pair (F j) (Y j)) (hf : ∀ j, j < n → FVAt w g (j * 12) (F j) ∧ FVAt w g (j * 12 + 6) FV0) (hb : ∀ j, j < n → FVAt w g2 (j * 12) (Y j) ∧ FVAt w g2 (j * 12 + 6) FV0) :
    Calls Tryz.prog 10 #[.agg #[.int .u64 115, .slice (some ⟨g, 0, none⟩) n cC], .agg #[.int .u64 115, .slice (some ⟨g2, 0, none⟩) n cC2]] w fun e w' => e = .returned (.bool true) ∧ Chg (fun _ => False) w w' := by
  have h2 := new2b w (.cells #[.int .u64 115, .slice (some ⟨g, 0, none⟩) n cC] 35) (.cells #[.int .u64 115, .slice (some ⟨g2, 0, none⟩) n cC2] 35)
  have HP := Lib.hid hP; have HFb := Lib.hid hf; have HBb := Lib.hid hb
  clear hP hf hb
  go_enter Tryz.func10, Tryz.ntmps10
  go_upto_region 1 with (fail)
  refine wp_any_world (fun w' => Chg (fun _ => False) w w' ∧ w'.cell? ⟨w.heap.size, 0, none⟩ = some (.int .u64 115) ∧ w'.cell? ⟨w.heap.size, 1, none⟩ = some (.slice (some ⟨g, 0, none⟩) n cC) ∧ w'.cell? ⟨w.heap.size + 1, 0, none⟩ = some (.int .u64 115) ∧ w'.cell? ⟨w.heap.size + 1, 1, none⟩ = some (.slice (some ⟨g2, 0, none⟩) n cC2)) ⟨h2.1, blk_cell h2.2.1 rfl, blk_cell h2.2.1 rfl, blk_cell h2.2.2 rfl, blk_cell h2.2.2 rfl⟩ ?_
  clear h2
  rintro w1 ⟨hC, y0, y1, z0, z1⟩
  have HC := Lib.hid hC
  clear hC
  have y0d : w1.drew.cell? ⟨w.heap.size, 0, none⟩ = some (.int .u64 115) := y0
  have y1d : w1.drew.cell? ⟨w.heap.size, 1, none⟩ = some (.slice (some ⟨g, 0, none⟩) n cC) := y1
  have z0d : w1.drew.cell? ⟨w.heap.size + 1, 0, none⟩ = some (.int .u64 115) := z0
  have z1d : w1.drew.cell? ⟨w.heap.size + 1, 1, none⟩ = some (.slice (some ⟨g2, 0, none⟩) n cC2) := z1
  have HCd : Hid (Chg (fun _ => False) w w1.drew) := Lib.hid (HC.out.drewN 1)
  clear y0 y1 z0 z1
  go_region_held3 (fun w' => w'.cell? ⟨w.heap.size, 0, none⟩ = some (.int .u64 115) ∧ w'.cell? ⟨w.heap.size, 1, none⟩ = some (.slice (some ⟨g, 0, none⟩) n cC) ∧ w'.cell? ⟨w.heap.size + 1, 0, none⟩ = some (.int .u64 115) ∧ w'.cell? ⟨w.heap.size + 1, 1, none⟩ = some (.slice (some ⟨g2, 0, none⟩) n cC2)) ((repeat' apply And.intro) <;> with_reducible assumption) (first
    | (go_at_call 33; refine (whole_calls (F := Y) hn1 hn (fun j hj => ⟨(HBb.out j hj).1.chg HCd.out (fun h => h), (HBb.out j hj).2.chg HCd.out (fun h => h)⟩)).mono ?_; rintro _ w2 ⟨kg, kC, dg, xs, rfl, hO, hxl, hxs, hdg, hdk, hFD, hC⟩; have y0e := hC.cell y0d (fun h => h); have y1e := hC.cell y1d (fun h => h); have z0e := hC.cell z0d (fun h => h); have z1e := hC.cell z1d (fun h => h); have HC2 := Lib.hid (HCd.out.reads hC); have HFD := Lib.hid hFD; have HK := Lib.hid (whole_kids hO hxl hxs hn1); clear hO hxl hxs hdg hdk hFD hC)
    | (go_at_call 38; refine (is_calls (F := F) (Y := Y) hn1 hn HP.out (fun j hj => ⟨(HFb.out j hj).1.chg HC2.out (fun h => h), (HFb.out j hj).2.chg HC2.out (fun h => h)⟩) HK.out HFD.out).mono ?_; rintro _ w3 ⟨rfl, hC⟩; have HC3 := Lib.hid (HC2.out.reads hC); have y0f := hC.cell y0e (fun h => h); have y1f := hC.cell y1e (fun h => h); have z0f := hC.cell z0e (fun h => h); have z1f := hC.cell z1e (fun h => h); clear hC))
  go_wp2_with fail
  go_ret
  exact ⟨rfl, HC3.out⟩
end Go.Proofs.S
