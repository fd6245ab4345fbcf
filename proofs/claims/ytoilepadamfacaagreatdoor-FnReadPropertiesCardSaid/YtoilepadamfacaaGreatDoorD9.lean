/- The writer writes numbers of the kinds 5 and 16 in each of their forms: for numbers within their kind. -/
import Derived.Test.YtoilepadamfacaaGreatDoorD8
set_option linter.unusedVariables false
set_option linter.unusedSimpArgs false
namespace Go.Proofs.S
open Go.RowKit Go.Maps
set_option maxHeartbeats 8000000 in
set_option maxRecDepth 1000000 in
theorem numbered_5 {u : Nat} (hu : u < U64) (tx : ByteArray) (A : Option Addr) (n c : Nat) (o : Int) (A' : Option Addr) (n' c' : Nat) (w : World) :
    Calls Tryz.prog 124 #[.agg #[.int .i64 5, .int .u64 (u : Int), .string tx, .slice A n c, .int .i64 o, .slice A' n' c']] w fun e w' => ∃ v, e = .returned v ∧ PcsNe 3 w.heap.size w' v (GoodV 5 u tx.data.toList) ∧ Chg (fun _ => False) w w' := by
  have HK : Hid ((Lit.int .i64 5).wf = true) := Lib.hid (by decide)
  have HCD : Hid (codedD.atKey (.int .i64 5) (.lit (.int .i64 0)) = .lit (.int .i64 128)) := Lib.hid (by kernel_rfl)
  have HSZ : Hid (IntKind.i64.wrap (tbl fixedKv 5 - if (5 : Int) = 0 ∨ (5 : Int) = 1 ∨ (18 : Int) ≤ 5 then 1 else 0) = ((8 : Nat) : Int)) := Lib.hid (by decide)
  have HS8 : Hid ((8 : Nat) ≤ 8) := Lib.hid (by decide)
  have HU := Lib.hid hu
  go_enter Tryz.func124, Tryz.ntmps124
  go_wp2_with fail
  go_quiet (fail)
  go_wp2_with fail
  refine wp_any_world (fun w' => Chg (fun _ => False) w w' ∧ w'.heap[w.heap.size]? = some (.cells #[.int .i64 5, .int .u64 (u : Int), .string tx, .slice A n c, .int .i64 o, .slice A' n' c'] 81 (0, 0)) ∧ w.heap.size + 1 ≤ w'.heap.size) ⟨((Chg.refl _ w).alloc _).drewN nq, heap_alloc_new _ _, by simp [World.drewN]⟩ ?_
  rintro wB ⟨hB, hbx, hBs⟩
  have c0 := blk_cell (k := 0) hbx rfl
  have HBX := Lib.hid hbx; clear hbx
  have HBC := Lib.hid hB; clear hB
  refine wp_region_rel (RN2 wB.heap.size w.heap.size 5 128 8 u) (fun w' => Chg (fun _ => False) wB w') [10] (by kernel_rfl) (by kernel_rfl) (by kernel_rfl) (by kernel_rfl) ((Chg.refl _ wB).drewN 1) ?steps ?fin
  case steps =>
    refine ⟨⟨rfl, ?_⟩, ⟨rfl, ?_⟩, ⟨rfl, ?_⟩, ⟨rfl, ?_⟩, ⟨rfl, ?_⟩, ⟨rfl, ?_⟩, ⟨rfl, ?_⟩, ⟨rfl, ?_⟩, ⟨rfl, ?_⟩, ⟨rfl, ?_⟩, ⟨rfl, ?_⟩, trivial⟩
    all_goals (intro vals ev c w1 hc hI hR hv h0 hcst hfn hgl)
    · have e1 : ev (.tmp 1) = .pointer (some ⟨w.heap.size, 0, none⟩) := h0 1 (by kernel_rfl)
      have l_c0 := Chg.cell hI c0 (fun h => h)
      clear hR hv h0 hc
      refine Step.fixed (x := .pointer (some ⟨w.heap.size, 0, none⟩)) ?_ ⟨rfl, hI, fun i_ x_ m_ _ _ h_ => RN2_ext wB.heap.size w.heap.size 5 128 8 u h_ (Chg.refl _ _)⟩
      unfold OpDoes
      go_simp
    · have e12 : ev (.tmp 12) = .pointer (some ⟨w.heap.size, 0, none⟩) := (hv 0 12 (by kernel_rfl) (by kernel_rfl) (Nat.le_of_ble_eq_true (by kernel_rfl))).trans (hR 0 (by kernel_rfl))
      have l_c0 := Chg.cell hI c0 (fun h => h)
      clear hR hv h0 hc
      refine Step.fixed (x := .int .i64 5) ?_ ⟨rfl, hI, fun i_ x_ m_ _ _ h_ => RN2_ext wB.heap.size w.heap.size 5 128 8 u h_ (Chg.refl _ _)⟩
      unfold OpDoes
      go_simp
    · have e13 : ev (.tmp 13) = .int .i64 5 := (hv 1 13 (by kernel_rfl) (by kernel_rfl) (Nat.le_of_ble_eq_true (by kernel_rfl))).trans (hR 1 (by kernel_rfl))
      clear hR
      have hf := hfn 121
      clear hv h0 hc
      unfold OpDoes
      go_simp
      refine (coded_at 5 128 HK.out HCD.out w1).mono ?_
      rintro _ w2 ⟨rfl, hC⟩
      exact ⟨_, rfl, rfl, hI.reads hC, fun i x m _ _ h => RN2_ext wB.heap.size w.heap.size 5 128 8 u h hC⟩
    · have e3 : ev (.tmp 3) = .int .u64 (u : Int) := h0 3 (by kernel_rfl)
      have l_c0 := Chg.cell hI c0 (fun h => h)
      clear hR hv h0 hc
      refine Step.fixed (x := .int .u64 (u : Int)) ?_ ⟨rfl, hI, fun i_ x_ m_ _ _ h_ => RN2_ext wB.heap.size w.heap.size 5 128 8 u h_ (Chg.refl _ _)⟩
      unfold OpDoes
      go_simp
    · have e1 : ev (.tmp 1) = .pointer (some ⟨w.heap.size, 0, none⟩) := h0 1 (by kernel_rfl)
      have l_c0 := Chg.cell hI c0 (fun h => h)
      clear hR hv h0 hc
      refine Step.fixed (x := .pointer (some ⟨w.heap.size, 0, none⟩)) ?_ ⟨rfl, hI, fun i_ x_ m_ _ _ h_ => RN2_ext wB.heap.size w.heap.size 5 128 8 u h_ (Chg.refl _ _)⟩
      unfold OpDoes
      go_simp
    · have e16 : ev (.tmp 16) = .pointer (some ⟨w.heap.size, 0, none⟩) := (hv 4 16 (by kernel_rfl) (by kernel_rfl) (Nat.le_of_ble_eq_true (by kernel_rfl))).trans (hR 4 (by kernel_rfl))
      have l_c0 := Chg.cell hI c0 (fun h => h)
      clear hR hv h0 hc
      refine Step.fixed (x := .int .i64 5) ?_ ⟨rfl, hI, fun i_ x_ m_ _ _ h_ => RN2_ext wB.heap.size w.heap.size 5 128 8 u h_ (Chg.refl _ _)⟩
      unfold OpDoes
      go_simp
    · have e17 : ev (.tmp 17) = .int .i64 5 := (hv 5 17 (by kernel_rfl) (by kernel_rfl) (Nat.le_of_ble_eq_true (by kernel_rfl))).trans (hR 5 (by kernel_rfl))
      clear hR
      have hf := hfn 176
      clear hv h0 hc
      unfold OpDoes
      go_simp
      refine (fixed_at 5 8 HK.out HSZ.out w1).mono ?_
      rintro _ w2 ⟨rfl, hC⟩
      exact ⟨_, rfl, rfl, hI.reads hC, fun i x m _ _ h => RN2_ext wB.heap.size w.heap.size 5 128 8 u h hC⟩
    · have e15 : ev (.tmp 15) = .int .u64 (u : Int) := (hv 3 15 (by kernel_rfl) (by kernel_rfl) (Nat.le_of_ble_eq_true (by kernel_rfl))).trans (hR 3 (by kernel_rfl))
      have e18 : ev (.tmp 18) = vals 6 := hv 6 18 (by kernel_rfl) (by kernel_rfl) (Nat.le_of_ble_eq_true (by kernel_rfl))
      have hsz : vals 6 = .int .i64 (8 : Int) := hR 6 (by kernel_rfl)
      rw [hsz] at e18
      clear hR
      have hf := hfn 174
      clear hv h0 hc
      unfold OpDoes
      go_simp
      refine (big_calls u 8 HS8.out w1).mono ?_
      rintro _ w2 ⟨v7, rfl, ho, hC⟩
      exact ⟨_, rfl, Own8.base_le ho hI.size, hI.reads hC, fun i x m _ _ h => RN2_ext wB.heap.size w.heap.size 5 128 8 u h hC⟩
    · have e14 : ev (.tmp 14) = vals 2 := hv 2 14 (by kernel_rfl) (by kernel_rfl) (Nat.le_of_ble_eq_true (by kernel_rfl))
      have e19 : ev (.tmp 19) = vals 7 := hv 7 19 (by kernel_rfl) (by kernel_rfl) (Nat.le_of_ble_eq_true (by kernel_rfl))
      have h2 : vals 2 = .int .i64 128 := hR 2 (by kernel_rfl)
      have h7 : Own8 w1 wB.heap.size (vals 7) (be 8 u) := hR 7 (by kernel_rfl)
      rw [h2] at e14
      obtain ⟨A7, n7, c7, h7e⟩ := h7.slice
      rw [h7e] at e19
      have H7 := Lib.hid h7; clear h7 h2
      have HE := Lib.hid h7e; clear h7e
      clear hR hv h0 hc
      refine Step.fixed (x := .agg #[.int .i64 128, .slice A7 n7 c7]) ?_ ⟨⟨_, rfl, HE.out ▸ H7.out⟩, hI, fun i x m _ _ h => RN2_ext wB.heap.size w.heap.size 5 128 8 u h (Chg.refl _ _)⟩
      unfold OpDoes
      go_simp
    · clear hR hv h0 hc
      refine OpDoes.mono (p := fun v w2 => v = .pointer (some ⟨w1.heap.size, 0, none⟩) ∧ w2 = w1.alloc (.cells #[.int .i64 0, .slice none 0 0] 154)) ?_ ?_
      · unfold OpDoes
        go_simp
      · rintro v w2 ⟨rfl, rfl⟩
        exact ⟨⟨_, rfl, hI.size, heap_alloc_new _ _⟩, hI.alloc _, fun i x m _ _ h => RN2_ext wB.heap.size w.heap.size 5 128 8 u h ((Chg.refl _ _).alloc _)⟩
    · have e5 : ev (.tmp 5) = vals 9 := hv 9 5 (by kernel_rfl) (by kernel_rfl) (Nat.le_of_ble_eq_true (by kernel_rfl))
      have e20 : ev (.tmp 20) = vals 8 := hv 8 20 (by kernel_rfl) (by kernel_rfl) (Nat.le_of_ble_eq_true (by kernel_rfl))
      obtain ⟨dv, g1, g2⟩ := (hR 8 (by kernel_rfl) : ∃ dv, vals 8 = .agg #[.int .i64 128, dv] ∧ Own8 w1 wB.heap.size dv (be 8 u))
      obtain ⟨g, g3, g4, g5⟩ := (hR 9 (by kernel_rfl) : ∃ g, vals 9 = .pointer (some ⟨g, 0, none⟩) ∧ wB.heap.size ≤ g ∧ w1.heap[g]? = some (.cells #[.int .i64 0, .slice none 0 0] 154 (0, 0)))
      obtain ⟨A7, n7, c7, g2e⟩ := g2.slice
      subst g2e
      rw [g1] at e20
      rw [g3] at e5
      have k0 := blk_cell (k := 0) g5 rfl
      have k1 := blk_cell (k := 1) g5 rfl
      have f0 := blk_free (k := 0) g5
      have f1 := blk_free (k := 1) g5
      have HG := Lib.hid g5; have HM := Lib.hid g3; have HO := Lib.hid g2; clear g5 g2 g1 g3
      clear hR hv h0 hc
      refine OpDoes.mono (p := fun v w2 => v = undef ∧ w2 = (w1.setCell ⟨g, 0, none⟩ (.int .i64 128)).setCell ⟨g, 1, none⟩ (.slice A7 n7 c7)) ?_ ?_
      · unfold OpDoes
        go_simp
      · rintro v w2 ⟨rfl, rfl⟩
        have q1 := setCell_blk (k := 0) HG.out (.int .i64 128)
        have q2 := setCell_blk (k := 1) q1 (.slice A7 n7 c7)
        refine ⟨⟨g, _, (mask_eq (by kernel_rfl)).trans HM.out, g4, q2, row_setCell (row_setCell HO.out HG.out (by decide) _ _) q1 (by decide) _ _⟩, (hI.setCell (p := ⟨g, 0, none⟩) (fun hh => absurd hh (Nat.not_lt.2 g4)) _).setCell (p := ⟨g, 1, none⟩) (fun hh => absurd hh (Nat.not_lt.2 g4)) _, fun i x m hne hk h => absurd (by simpa using keep_fin hk (by kernel_rfl)) hne⟩
  case fin =>
    intro vals c1 w2 hC hfin
    obtain ⟨g, dv, hm9, hg, hb, ho⟩ := (hfin 10 (by kernel_rfl) (by decide) : ∃ g dv, mask .any _ 10 vals 9 = .pointer (some ⟨g, 0, none⟩) ∧ wB.heap.size ≤ g ∧ w2.heap[g]? = some (.cells #[.int .i64 128, dv] 154 (0, 0)) ∧ Own8 w2 wB.heap.size dv (be 8 u))
    rw [mask_eq (by kernel_rfl)] at hm9
    clear hfin
    obtain ⟨A7, n7, c7, hdv⟩ := ho.slice
    subst hdv
    have HBX2 := Lib.hid (hC.blkF HBX.out)
    have c0 := blk_cell (k := 0) HBX2.out rfl
    have x0 := blk_cell (k := 0) hb rfl
    have x1 := blk_cell (k := 1) hb rfl
    simp only [putAll, Act.put, List.setIfInBounds_toArray, List.set_cons_zero, List.set_cons_succ, Nat.reduceAdd]
    rw [hm9]
    have HO := Lib.hid ho; have HC2 := Lib.hid (HBC.out.reads hC)
    clear hm9 ho hb hC
    have hws : w.heap.size ≤ w2.heap.size := HC2.out.size
    go_upto_region 4 with (fail)
    refine wp_any_world (fun w' => Chg (fun _ => False) w w' ∧ w'.heap[w.heap.size]? = some (.cells #[.int .i64 5, .int .u64 (u : Int), .string tx, .slice A n c, .int .i64 o, .slice A' n' c'] 81 (0, 0)) ∧ PcsNe 1 w.heap.size w' (.slice (some ⟨w2.heap.size, 0, none⟩) 1 1) (GoodV 5 u tx.data.toList)) ⟨HC2.out.alloc _, ((Chg.refl (fun _ => False) _).alloc _).blkF HBX2.out, PcsNe.lit1 ⟨_, _, rfl, .of_own (Own8.base_le HO.out (by omega)), ⟨128, rfl, be8_enc u HU.out⟩⟩ hws⟩ ?_
    rintro wC ⟨hC2, hbx, hout⟩
    obtain ⟨gC, hgC⟩ : ∃ gC, gC = w2.heap.size := ⟨_, rfl⟩
    rw [← hgC] at hout ⊢
    clear hgC x0 x1 c0
    have c0 := blk_cell (k := 0) hbx rfl
    have HBX3 := Lib.hid hbx; have HC3 := Lib.hid hC2; have HOUT := Lib.hid hout
    have HB1 : w.heap.size ≤ wC.heap.size := hC2.size
    clear hbx hC2 hout
    go_wp2_with fail
    rotate_left
    · go_ret
      exact ⟨_, rfl, HOUT.out.more (by decide), HC3.out⟩
    have hu256 : u < 256 := by omega
    have HG1 : Hid (GoodV 5 u tx.data.toList (tbl numKv 5) (be 1 u)) := Lib.hid ⟨83, rfl, be1_ulong u hu256⟩
    refine wp_region_rel (RN8 numKv wC.heap.size w.heap.size w.heap.size 5 u (.slice (some ⟨gC, 0, none⟩) 1 1) (GoodV 5 u tx.data.toList)) (fun w' => Chg (fun _ => False) wC w') [13] (by kernel_rfl) (by kernel_rfl) (by kernel_rfl) (by kernel_rfl) ((Chg.refl _ wC).drewN 1) ?steps8 ?fin8
    case steps8 =>
      refine ⟨⟨rfl, ?_⟩, ⟨rfl, ?_⟩, ⟨rfl, ?_⟩, ⟨rfl, ?_⟩, ⟨rfl, ?_⟩, ⟨rfl, ?_⟩, ⟨rfl, ?_⟩, ⟨rfl, ?_⟩, ⟨rfl, ?_⟩, ⟨rfl, ?_⟩, ⟨rfl, ?_⟩, ⟨rfl, ?_⟩, ⟨rfl, ?_⟩, ⟨rfl, ?_⟩, trivial⟩
      all_goals (intro vals ev c w1 hc hI hR hv h0 hcst hfn hgl)
      · clear hR hv h0 hc
        refine OpDoes.mono (p := fun v w2 => v = .map (some w1.heap.size) ∧ w2 = w1.alloc (.map #[] 0)) ?_ ?_
        · have hmm := @run_makeMap Tryz.prog
          unfold OpDoes
          go_simp
        · rintro v w2 ⟨rfl, rfl⟩
          exact ⟨MR0.made w1 hI.size, hI.alloc _, fun i x m _ _ h => RN8_ext numKv wC.heap.size w.heap.size w.heap.size 5 u (.slice (some ⟨gC, 0, none⟩) 1 1) (GoodV 5 u tx.data.toList) h ((Chg.refl _ _).alloc _)⟩
      · have e30 : ev (.tmp 30) = vals 0 := hv 0 30 (by kernel_rfl) (by kernel_rfl) (Nat.le_of_ble_eq_true (by kernel_rfl))
        obtain ⟨w', hrun, hi, hC, hk0, hki, B, n, D, hm, hg⟩ := MR0.ins (kv := (4, 82)) (hR 0 (by kernel_rfl)) (by have : c < 14 := hc; omega) rfl rfl (by decide)
        refine does_skip (w' := w') (by simp only [execOp, e30, hcst, Sem.run_bind, hrun, Result.andThen_ok, Sem.run_pure]) ⟨?_, hI.trans hC (fun i hi h => absurd hi (Nat.not_lt.2 h)), fun i x m hne hk h => ?_⟩
        · show MRi (4, 82) (mask _ _ _ _ 0) w'
          rw [mask_eq]
          · exact hi
          · kernel_rfl
        · refine RN8_ins (j := 1) hk0 (fun hj v' hh => absurd rfl hj) (fun hj v' hh => hki _ v' (by decide) hh) hm hg hne (fun e => ?_) h
          subst e
          exact Bool.noConfusion (hk.symm.trans (by kernel_rfl : keepB _ _ _ _ _ = false))
      · have e30 : ev (.tmp 30) = vals 0 := hv 0 30 (by kernel_rfl) (by kernel_rfl) (Nat.le_of_ble_eq_true (by kernel_rfl))
        obtain ⟨w', hrun, hi, hC, hk0, hki, B, n, D, hm, hg⟩ := MR0.ins (kv := (5, 83)) (hR 0 (by kernel_rfl)) (by have : c < 14 := hc; omega) rfl rfl (by decide)
        refine does_skip (w' := w') (by simp only [execOp, e30, hcst, Sem.run_bind, hrun, Result.andThen_ok, Sem.run_pure]) ⟨?_, hI.trans hC (fun i hi h => absurd hi (Nat.not_lt.2 h)), fun i x m hne hk h => ?_⟩
        · show MRi (5, 83) (mask _ _ _ _ 0) w'
          rw [mask_eq]
          · exact hi
          · kernel_rfl
        · refine RN8_ins (j := 2) hk0 (fun hj v' hh => hki _ v' (by decide) hh) (fun hj v' hh => absurd rfl hj) hm hg hne (fun e => ?_) h
          subst e
          exact Bool.noConfusion (hk.symm.trans (by kernel_rfl : keepB _ _ _ _ _ = false))
      · have e30 : ev (.tmp 30) = vals 0 := hv 0 30 (by kernel_rfl) (by kernel_rfl) (Nat.le_of_ble_eq_true (by kernel_rfl))
        refine does_value rfl ⟨?_, hI, fun i x m _ _ h => RN8_ext numKv wC.heap.size w.heap.size w.heap.size 5 u (.slice (some ⟨gC, 0, none⟩) 1 1) (GoodV 5 u tx.data.toList) h (Chg.refl _ _)⟩
        rw [e30]
        refine MRt.mk (hR 0 (by kernel_rfl)) (fun kv hkv => ?_)
        have g1 : MRi ((4, 82)) (mask .any _ 1 vals 0) w1 := hR 1 (by kernel_rfl)
        have g2 : MRi ((5, 83)) (mask .any _ 2 vals 0) w1 := hR 2 (by kernel_rfl)
        rw [mask_eq (by kernel_rfl)] at g1 g2
        simp only [numKv, List.mem_cons, List.not_mem_nil, or_false] at hkv
        rcases hkv with rfl | rfl
        · exact g1
        · exact g2
      · have e1 : ev (.tmp 1) = .pointer (some ⟨w.heap.size, 0, none⟩) := h0 1 (by kernel_rfl)
        have l_c0 := Chg.cell hI c0 (fun h => h)
        clear hR hv h0 hc
        refine Step.fixed (x := .pointer (some ⟨w.heap.size, 0, none⟩)) ?_ ⟨rfl, hI, fun i_ x_ m_ _ _ h_ => RN8_ext numKv wC.heap.size w.heap.size w.heap.size 5 u (.slice (some ⟨gC, 0, none⟩) 1 1) (GoodV 5 u tx.data.toList) h_ (Chg.refl _ _)⟩
        unfold OpDoes
        go_simp
      · have e32 : ev (.tmp 32) = .pointer (some ⟨w.heap.size, 0, none⟩) := (hv 4 32 (by kernel_rfl) (by kernel_rfl) (Nat.le_of_ble_eq_true (by kernel_rfl))).trans (hR 4 (by kernel_rfl))
        have l_c0 := Chg.cell hI c0 (fun h => h)
        clear hR hv h0 hc
        refine Step.fixed (x := .int .i64 5) ?_ ⟨rfl, hI, fun i_ x_ m_ _ _ h_ => RN8_ext numKv wC.heap.size w.heap.size w.heap.size 5 u (.slice (some ⟨gC, 0, none⟩) 1 1) (GoodV 5 u tx.data.toList) h_ (Chg.refl _ _)⟩
        unfold OpDoes
        go_simp
      · have e31 : ev (.tmp 31) = vals 3 := hv 3 31 (by kernel_rfl) (by kernel_rfl) (Nat.le_of_ble_eq_true (by kernel_rfl))
        have e33 : ev (.tmp 33) = .int .i64 5 := (hv 5 33 (by kernel_rfl) (by kernel_rfl) (Nat.le_of_ble_eq_true (by kernel_rfl))).trans (hR 5 (by kernel_rfl))
        have l_c0 := Chg.cell hI c0 (fun h => h)
        have hl := MRt.look (show MRt numKv 5 (vals 3) w1 from hR 3 (by kernel_rfl)) HK.out
        clear hR hv h0 hc
        refine Step.fixed (x := .int .i64 (tbl numKv 5)) ?_ ⟨rfl, hI, fun i_ x_ m_ _ _ h_ => RN8_ext numKv wC.heap.size w.heap.size w.heap.size 5 u (.slice (some ⟨gC, 0, none⟩) 1 1) (GoodV 5 u tx.data.toList) h_ (Chg.refl _ _)⟩
        unfold OpDoes
        go_simp
      · have e3 : ev (.tmp 3) = .int .u64 (u : Int) := h0 3 (by kernel_rfl)
        have l_c0 := Chg.cell hI c0 (fun h => h)
        clear hR hv h0 hc
        refine Step.fixed (x := .int .u64 (u : Int)) ?_ ⟨rfl, hI, fun i_ x_ m_ _ _ h_ => RN8_ext numKv wC.heap.size w.heap.size w.heap.size 5 u (.slice (some ⟨gC, 0, none⟩) 1 1) (GoodV 5 u tx.data.toList) h_ (Chg.refl _ _)⟩
        unfold OpDoes
        go_simp
      · have e35 : ev (.tmp 35) = .int .u64 (u : Int) := (hv 7 35 (by kernel_rfl) (by kernel_rfl) (Nat.le_of_ble_eq_true (by kernel_rfl))).trans (hR 7 (by kernel_rfl))
        clear hR
        have hf := hfn 174
        clear hv h0 hc
        unfold OpDoes
        go_simp
        refine (big_calls u 1 (by decide) w1).mono ?_
        rintro _ w2 ⟨v7, rfl, ho, hC⟩
        exact ⟨_, rfl, Own8.base_le ho (Nat.le_trans HB1 hI.size), hI.reads hC, fun i x m _ _ h => RN8_ext numKv wC.heap.size w.heap.size w.heap.size 5 u (.slice (some ⟨gC, 0, none⟩) 1 1) (GoodV 5 u tx.data.toList) h hC⟩
      · have e34 : ev (.tmp 34) = .int .i64 (tbl numKv 5) := (hv 6 34 (by kernel_rfl) (by kernel_rfl) (Nat.le_of_ble_eq_true (by kernel_rfl))).trans (hR 6 (by kernel_rfl))
        have e36 : ev (.tmp 36) = vals 8 := hv 8 36 (by kernel_rfl) (by kernel_rfl) (Nat.le_of_ble_eq_true (by kernel_rfl))
        have h2 : vals 6 = .int .i64 (tbl numKv 5) := hR 6 (by kernel_rfl)
        have h7 : Own8 w1 w.heap.size (vals 8) (be 1 u) := hR 8 (by kernel_rfl)
        obtain ⟨A7, n7, c7, h7e⟩ := h7.slice
        rw [h7e] at e36 h7
        have H7 := Lib.hid h7; clear h7 h2 h7e
        clear hR hv h0 hc
        refine Step.fixed (x := .agg #[.int .i64 (tbl numKv 5), .slice A7 n7 c7]) ?_ ⟨⟨_, _, _, rfl, H7.out⟩, hI, fun i x m _ _ h => RN8_ext numKv wC.heap.size w.heap.size w.heap.size 5 u (.slice (some ⟨gC, 0, none⟩) 1 1) (GoodV 5 u tx.data.toList) h (Chg.refl _ _)⟩
        unfold OpDoes
        go_simp
      · have e37 : ev (.tmp 37) = vals 9 := hv 9 37 (by kernel_rfl) (by kernel_rfl) (Nat.le_of_ble_eq_true (by kernel_rfl))
        obtain ⟨A7, n7, c7, g1, g2⟩ := (hR 9 (by kernel_rfl) : ∃ A7 n7 c7, vals 9 = .agg #[.int .i64 (tbl numKv 5), .slice A7 n7 c7] ∧ Own8 w1 w.heap.size (.slice A7 n7 c7) (be 1 u))
        rw [g1] at e37
        have H7 := Lib.hid g2; clear g1 g2
        clear hR hv h0 hc
        refine OpDoes.mono (p := fun v w2 => v = .slice (some ⟨w1.heap.size, 0, none⟩) 1 1 ∧ w2 = w1.alloc (.cells #[.int .i64 (tbl numKv 5), .slice A7 n7 c7] 154)) ?_ ?_
        · unfold OpDoes
          go_simp
        · rintro v w2 ⟨rfl, rfl⟩
          have hok : PcOk w.heap.size w1 (GoodV 5 u tx.data.toList) (.int .i64 (tbl numKv 5), .slice A7 n7 c7) := ⟨_, _, rfl, .of_own H7.out, HG1.out⟩
          exact ⟨⟨_, rfl, hI.size, PcsNe.lit1 hok (Nat.le_trans HB1 hI.size)⟩, hI.alloc _, fun i x m _ _ h => RN8_ext numKv wC.heap.size w.heap.size w.heap.size 5 u (.slice (some ⟨gC, 0, none⟩) 1 1) (GoodV 5 u tx.data.toList) h ((Chg.refl _ _).alloc _)⟩
      · have e6 : ev (.tmp 6) = (.slice (some ⟨gC, 0, none⟩) 1 1) := h0 6 (by kernel_rfl)
        have l_c0 := Chg.cell hI c0 (fun h => h)
        clear hR hv h0 hc
        refine Step.fixed (x := (.slice (some ⟨gC, 0, none⟩) 1 1)) ?_ ⟨rfl, hI, fun i_ x_ m_ _ _ h_ => RN8_ext numKv wC.heap.size w.heap.size w.heap.size 5 u (.slice (some ⟨gC, 0, none⟩) 1 1) (GoodV 5 u tx.data.toList) h_ (Chg.refl _ _)⟩
        unfold OpDoes
        go_simp
      · have e38 : ev (.tmp 38) = vals 10 := hv 10 38 (by kernel_rfl) (by kernel_rfl) (Nat.le_of_ble_eq_true (by kernel_rfl))
        have e39 : ev (.tmp 39) = (.slice (some ⟨gC, 0, none⟩) 1 1) := (hv 11 39 (by kernel_rfl) (by kernel_rfl) (Nat.le_of_ble_eq_true (by kernel_rfl))).trans (hR 11 (by kernel_rfl))
        obtain ⟨g, g1, g2, g3⟩ := (hR 10 (by kernel_rfl) : ∃ g, vals 10 = .slice (some ⟨g, 0, none⟩) 1 1 ∧ wC.heap.size ≤ g ∧ PcsNe 1 w.heap.size w1 (vals 10) (GoodV 5 u tx.data.toList))
        rw [g1] at e38 g3
        obtain ⟨v1, w', hrun, hp, hC, _⟩ := run_appP g3.pcs (HOUT.out.chg hI (fun _ h => h.elim)) (by decide) (Nat.le_trans HB1 hI.size)
        have hC' := hC wC.heap.size (fun k hk => by simp only [Value.ownBlock, Option.some.injEq] at hk; omega)
        have hb := hcst (.int .i64 0)
        clear hb
        refine does_value' (w' := w') (v := v1) (by simp only [execOp, e38, e39, resolve, invoke, builtin, List.map_toArray, List.map_cons, List.map_nil, Sem.run_bind, Sem.run_pure, Result.andThen_ok, hrun]) ⟨hp, hI.trans hC' (fun i hi h => absurd hi (Nat.not_lt.2 h)), fun i x m hne hk h => ?_⟩
        have := keep_in [12] (by kernel_rfl) (by kernel_rfl) (by kernel_rfl) hk
        simp only [List.mem_cons, List.not_mem_nil, or_false] at this
        exact absurd this hne
      · have e40 : ev (.tmp 40) = vals 12 := hv 12 40 (by kernel_rfl) (by kernel_rfl) (Nat.le_of_ble_eq_true (by kernel_rfl))
        have h12 : PcsNe 2 w.heap.size w1 (vals 12) (GoodV 5 u tx.data.toList) := hR 12 (by kernel_rfl)
        refine does_value rfl ⟨?_, hI, fun i x m _ _ h => RN8_ext numKv wC.heap.size w.heap.size w.heap.size 5 u (.slice (some ⟨gC, 0, none⟩) 1 1) (GoodV 5 u tx.data.toList) h (Chg.refl _ _)⟩
        rw [e40]
        exact h12
    case fin8 =>
      intro vals8 c8 w4 hC4 hfin
      have h13 : PcsNe 2 w.heap.size w4 (vals8 13) (GoodV 5 u tx.data.toList) := hfin 13 (by kernel_rfl) (by decide)
      clear hfin
      obtain ⟨g4, len4, c4, e13, _⟩ := h13.at
      rw [e13] at h13
      have HBX4 := Lib.hid (hC4.blkF HBX3.out)
      have c04 := blk_cell (k := 0) HBX4.out rfl
      have HP4 := Lib.hid h13; have HC4 := Lib.hid (HC3.out.reads hC4)
      have hw4 : w.heap.size ≤ w4.heap.size := HC4.out.size
      clear h13 hC4 c0
      simp only [putAll, Act.put, List.setIfInBounds_toArray, List.set_cons_zero, List.set_cons_succ, Nat.reduceAdd]
      rw [e13]
      clear e13
      have hmm := @run_makeMap Tryz.prog
      have hown := mapI_made w4
      have hCm : Chg (fun _ => False) w (w4.alloc (.map #[] 0)) := HC4.out.alloc _
      have hP : PcsNe 2 w.heap.size (w4.alloc (.map #[] 0)) (.slice (some ⟨g4, 0, none⟩) len4 c4) (GoodV 5 u tx.data.toList) := HP4.out.chg ((Chg.refl (fun _ => False) _).alloc _) (fun _ h => h.elim)
      have HBM : Hid ((w4.alloc (.map #[] 0)).heap[w.heap.size]? = some (.cells #[.int .i64 5, .int .u64 (u : Int), .string tx, .slice A n c, .int .i64 o, .slice A' n' c'] 81 (0, 0))) := Lib.hid (((Chg.refl (fun _ => False) w4).alloc _).blkF HBX4.out)
      go_upto_region 15 with (first
        | (refine wpList_ins _ _ _ rfl rfl (by decide) (by decide) _ _ _ (by omega) rfl hown ?_; have HP := Lib.hid (fun wN hg => hP.map hown (w1 := wN) hg); have HF := Lib.hid hCm; have HB0 := Lib.hid hown; clear hown hP hCm; intro wI hown hgr; have hP := HP.out wI hgr; have hCm := HF.out.grown hgr (fun k hk h => by injection hk with hk; omega); have HBM := Lib.hid ((hgr.block _ (Array.getElem?_eq_some_iff.1 HBM.out).1 (fun e => by injection e with e; have := World.block_lt_of_cell? w4 ⟨w.heap.size, 0, none⟩ c04; simp at this; omega)).trans HBM.out); have cI := blk_cell (k := 0) HBM.out rfl; clear hgr HP HF)
        | (refine wpList_look _ _ _ rfl rfl rfl (by decide) _ _ _ rfl hown ?_; intro cc hat; have HAT := Lib.hid hat; clear hat)
        | (at_builtin; have hz : u = 0 := u0_of (by assumption)
           have h67 : (((DataW.map [] : DataW Unit).put (.int .i64 4) (.lit (.int .i64 67))).put (.int .i64 5) (.lit (.int .i64 68))).atKey (.int .i64 5) (.lit (.int .i64 0)) = .lit (.int .i64 68) := by kernel_rfl
           obtain rfl : cc = 68 := (Lit.int.inj (DataW.lit.inj (HAT.out.symm.trans h67))).2
           have hok : PcOk w.heap.size wI (GoodV 5 u tx.data.toList) (.int .i64 68, .slice none 0 0) := ⟨_, [], rfl, .of_own (own8_nil _ _), ⟨68, rfl, (show EncUlong u [0x44] from hz ▸ EncUlong.zero)⟩⟩
           obtain ⟨v1, w', hrun, hp, hC, _⟩ := run_appP (PcsNe.lit1 hok hCm.size).pcs (hP.chg ((Chg.refl (fun _ => False) wI).alloc _) (fun _ h => h.elim)) (by decide) (by have := hCm.size; simp; omega)
           have hC' := hC w.heap.size (fun k hk => by simp only [Value.ownBlock, Option.some.injEq] at hk; have := hCm.size; omega)
           have hCF := (hCm.alloc (.cells #[.int .i64 68, .slice none 0 0] 154)).trans hC' (fun i hi h => absurd hi (Nat.not_lt.2 h))
           have HPF := Lib.hid hp; have HCF := Lib.hid hCF
           clear hp hC hC' hCF hP hok
           refine wpList_app hrun rfl rfl rfl rfl rfl ?_; clear hrun))
      · go_wp2
        go_ret
        exact ⟨_, rfl, HPF.out, HCF.out⟩
      · go_wp2
        go_ret
        exact ⟨_, rfl, HP4.out.more (by decide), HC4.out⟩
set_option maxHeartbeats 8000000 in
set_option maxRecDepth 1000000 in
theorem numbered_16 {u : Nat} (hu : u < U64) (tx : ByteArray) (A : Option Addr) (n c : Nat) (o : Int) (A' : Option Addr) (n' c' : Nat) (w : World) :
    Calls Tryz.prog 124 #[.agg #[.int .i64 16, .int .u64 (u : Int), .string tx, .slice A n c, .int .i64 o, .slice A' n' c']] w fun e w' => ∃ v, e = .returned v ∧ PcsNe 3 w.heap.size w' v (GoodV 16 u tx.data.toList) ∧ Chg (fun _ => False) w w' := by
  have HK : Hid ((Lit.int .i64 16).wf = true) := Lib.hid (by decide)
  have HCD : Hid (codedD.atKey (.int .i64 16) (.lit (.int .i64 0)) = .lit (.int .i64 131)) := Lib.hid (by kernel_rfl)
  have HSZ : Hid (IntKind.i64.wrap (tbl fixedKv 16 - if (16 : Int) = 0 ∨ (16 : Int) = 1 ∨ (18 : Int) ≤ 16 then 1 else 0) = ((8 : Nat) : Int)) := Lib.hid (by decide)
  have HS8 : Hid ((8 : Nat) ≤ 8) := Lib.hid (by decide)
  have HU := Lib.hid hu
  go_enter Tryz.func124, Tryz.ntmps124
  go_wp2_with fail
  go_quiet (fail)
  go_wp2_with fail
  refine wp_any_world (fun w' => Chg (fun _ => False) w w' ∧ w'.heap[w.heap.size]? = some (.cells #[.int .i64 16, .int .u64 (u : Int), .string tx, .slice A n c, .int .i64 o, .slice A' n' c'] 81 (0, 0)) ∧ w.heap.size + 1 ≤ w'.heap.size) ⟨((Chg.refl _ w).alloc _).drewN nq, heap_alloc_new _ _, by simp [World.drewN]⟩ ?_
  rintro wB ⟨hB, hbx, hBs⟩
  have c0 := blk_cell (k := 0) hbx rfl
  have HBX := Lib.hid hbx; clear hbx
  have HBC := Lib.hid hB; clear hB
  refine wp_region_rel (RN2 wB.heap.size w.heap.size 16 131 8 u) (fun w' => Chg (fun _ => False) wB w') [10] (by kernel_rfl) (by kernel_rfl) (by kernel_rfl) (by kernel_rfl) ((Chg.refl _ wB).drewN 1) ?steps ?fin
  case steps =>
    refine ⟨⟨rfl, ?_⟩, ⟨rfl, ?_⟩, ⟨rfl, ?_⟩, ⟨rfl, ?_⟩, ⟨rfl, ?_⟩, ⟨rfl, ?_⟩, ⟨rfl, ?_⟩, ⟨rfl, ?_⟩, ⟨rfl, ?_⟩, ⟨rfl, ?_⟩, ⟨rfl, ?_⟩, trivial⟩
    all_goals (intro vals ev c w1 hc hI hR hv h0 hcst hfn hgl)
    · have e1 : ev (.tmp 1) = .pointer (some ⟨w.heap.size, 0, none⟩) := h0 1 (by kernel_rfl)
      have l_c0 := Chg.cell hI c0 (fun h => h)
      clear hR hv h0 hc
      refine Step.fixed (x := .pointer (some ⟨w.heap.size, 0, none⟩)) ?_ ⟨rfl, hI, fun i_ x_ m_ _ _ h_ => RN2_ext wB.heap.size w.heap.size 16 131 8 u h_ (Chg.refl _ _)⟩
      unfold OpDoes
      go_simp
    · have e12 : ev (.tmp 12) = .pointer (some ⟨w.heap.size, 0, none⟩) := (hv 0 12 (by kernel_rfl) (by kernel_rfl) (Nat.le_of_ble_eq_true (by kernel_rfl))).trans (hR 0 (by kernel_rfl))
      have l_c0 := Chg.cell hI c0 (fun h => h)
      clear hR hv h0 hc
      refine Step.fixed (x := .int .i64 16) ?_ ⟨rfl, hI, fun i_ x_ m_ _ _ h_ => RN2_ext wB.heap.size w.heap.size 16 131 8 u h_ (Chg.refl _ _)⟩
      unfold OpDoes
      go_simp
    · have e13 : ev (.tmp 13) = .int .i64 16 := (hv 1 13 (by kernel_rfl) (by kernel_rfl) (Nat.le_of_ble_eq_true (by kernel_rfl))).trans (hR 1 (by kernel_rfl))
      clear hR
      have hf := hfn 121
      clear hv h0 hc
      unfold OpDoes
      go_simp
      refine (coded_at 16 131 HK.out HCD.out w1).mono ?_
      rintro _ w2 ⟨rfl, hC⟩
      exact ⟨_, rfl, rfl, hI.reads hC, fun i x m _ _ h => RN2_ext wB.heap.size w.heap.size 16 131 8 u h hC⟩
    · have e3 : ev (.tmp 3) = .int .u64 (u : Int) := h0 3 (by kernel_rfl)
      have l_c0 := Chg.cell hI c0 (fun h => h)
      clear hR hv h0 hc
      refine Step.fixed (x := .int .u64 (u : Int)) ?_ ⟨rfl, hI, fun i_ x_ m_ _ _ h_ => RN2_ext wB.heap.size w.heap.size 16 131 8 u h_ (Chg.refl _ _)⟩
      unfold OpDoes
      go_simp
    · have e1 : ev (.tmp 1) = .pointer (some ⟨w.heap.size, 0, none⟩) := h0 1 (by kernel_rfl)
      have l_c0 := Chg.cell hI c0 (fun h => h)
      clear hR hv h0 hc
      refine Step.fixed (x := .pointer (some ⟨w.heap.size, 0, none⟩)) ?_ ⟨rfl, hI, fun i_ x_ m_ _ _ h_ => RN2_ext wB.heap.size w.heap.size 16 131 8 u h_ (Chg.refl _ _)⟩
      unfold OpDoes
      go_simp
    · have e16 : ev (.tmp 16) = .pointer (some ⟨w.heap.size, 0, none⟩) := (hv 4 16 (by kernel_rfl) (by kernel_rfl) (Nat.le_of_ble_eq_true (by kernel_rfl))).trans (hR 4 (by kernel_rfl))
      have l_c0 := Chg.cell hI c0 (fun h => h)
      clear hR hv h0 hc
      refine Step.fixed (x := .int .i64 16) ?_ ⟨rfl, hI, fun i_ x_ m_ _ _ h_ => RN2_ext wB.heap.size w.heap.size 16 131 8 u h_ (Chg.refl _ _)⟩
      unfold OpDoes
      go_simp
    · have e17 : ev (.tmp 17) = .int .i64 16 := (hv 5 17 (by kernel_rfl) (by kernel_rfl) (Nat.le_of_ble_eq_true (by kernel_rfl))).trans (hR 5 (by kernel_rfl))
      clear hR
      have hf := hfn 176
      clear hv h0 hc
      unfold OpDoes
      go_simp
      refine (fixed_at 16 8 HK.out HSZ.out w1).mono ?_
      rintro _ w2 ⟨rfl, hC⟩
      exact ⟨_, rfl, rfl, hI.reads hC, fun i x m _ _ h => RN2_ext wB.heap.size w.heap.size 16 131 8 u h hC⟩
    · have e15 : ev (.tmp 15) = .int .u64 (u : Int) := (hv 3 15 (by kernel_rfl) (by kernel_rfl) (Nat.le_of_ble_eq_true (by kernel_rfl))).trans (hR 3 (by kernel_rfl))
      have e18 : ev (.tmp 18) = vals 6 := hv 6 18 (by kernel_rfl) (by kernel_rfl) (Nat.le_of_ble_eq_true (by kernel_rfl))
      have hsz : vals 6 = .int .i64 (8 : Int) := hR 6 (by kernel_rfl)
      rw [hsz] at e18
      clear hR
      have hf := hfn 174
      clear hv h0 hc
      unfold OpDoes
      go_simp
      refine (big_calls u 8 HS8.out w1).mono ?_
      rintro _ w2 ⟨v7, rfl, ho, hC⟩
      exact ⟨_, rfl, Own8.base_le ho hI.size, hI.reads hC, fun i x m _ _ h => RN2_ext wB.heap.size w.heap.size 16 131 8 u h hC⟩
    · have e14 : ev (.tmp 14) = vals 2 := hv 2 14 (by kernel_rfl) (by kernel_rfl) (Nat.le_of_ble_eq_true (by kernel_rfl))
      have e19 : ev (.tmp 19) = vals 7 := hv 7 19 (by kernel_rfl) (by kernel_rfl) (Nat.le_of_ble_eq_true (by kernel_rfl))
      have h2 : vals 2 = .int .i64 131 := hR 2 (by kernel_rfl)
      have h7 : Own8 w1 wB.heap.size (vals 7) (be 8 u) := hR 7 (by kernel_rfl)
      rw [h2] at e14
      obtain ⟨A7, n7, c7, h7e⟩ := h7.slice
      rw [h7e] at e19
      have H7 := Lib.hid h7; clear h7 h2
      have HE := Lib.hid h7e; clear h7e
      clear hR hv h0 hc
      refine Step.fixed (x := .agg #[.int .i64 131, .slice A7 n7 c7]) ?_ ⟨⟨_, rfl, HE.out ▸ H7.out⟩, hI, fun i x m _ _ h => RN2_ext wB.heap.size w.heap.size 16 131 8 u h (Chg.refl _ _)⟩
      unfold OpDoes
      go_simp
    · clear hR hv h0 hc
      refine OpDoes.mono (p := fun v w2 => v = .pointer (some ⟨w1.heap.size, 0, none⟩) ∧ w2 = w1.alloc (.cells #[.int .i64 0, .slice none 0 0] 154)) ?_ ?_
      · unfold OpDoes
        go_simp
      · rintro v w2 ⟨rfl, rfl⟩
        exact ⟨⟨_, rfl, hI.size, heap_alloc_new _ _⟩, hI.alloc _, fun i x m _ _ h => RN2_ext wB.heap.size w.heap.size 16 131 8 u h ((Chg.refl _ _).alloc _)⟩
    · have e5 : ev (.tmp 5) = vals 9 := hv 9 5 (by kernel_rfl) (by kernel_rfl) (Nat.le_of_ble_eq_true (by kernel_rfl))
      have e20 : ev (.tmp 20) = vals 8 := hv 8 20 (by kernel_rfl) (by kernel_rfl) (Nat.le_of_ble_eq_true (by kernel_rfl))
      obtain ⟨dv, g1, g2⟩ := (hR 8 (by kernel_rfl) : ∃ dv, vals 8 = .agg #[.int .i64 131, dv] ∧ Own8 w1 wB.heap.size dv (be 8 u))
      obtain ⟨g, g3, g4, g5⟩ := (hR 9 (by kernel_rfl) : ∃ g, vals 9 = .pointer (some ⟨g, 0, none⟩) ∧ wB.heap.size ≤ g ∧ w1.heap[g]? = some (.cells #[.int .i64 0, .slice none 0 0] 154 (0, 0)))
      obtain ⟨A7, n7, c7, g2e⟩ := g2.slice
      subst g2e
      rw [g1] at e20
      rw [g3] at e5
      have k0 := blk_cell (k := 0) g5 rfl
      have k1 := blk_cell (k := 1) g5 rfl
      have f0 := blk_free (k := 0) g5
      have f1 := blk_free (k := 1) g5
      have HG := Lib.hid g5; have HM := Lib.hid g3; have HO := Lib.hid g2; clear g5 g2 g1 g3
      clear hR hv h0 hc
      refine OpDoes.mono (p := fun v w2 => v = undef ∧ w2 = (w1.setCell ⟨g, 0, none⟩ (.int .i64 131)).setCell ⟨g, 1, none⟩ (.slice A7 n7 c7)) ?_ ?_
      · unfold OpDoes
        go_simp
      · rintro v w2 ⟨rfl, rfl⟩
        have q1 := setCell_blk (k := 0) HG.out (.int .i64 131)
        have q2 := setCell_blk (k := 1) q1 (.slice A7 n7 c7)
        refine ⟨⟨g, _, (mask_eq (by kernel_rfl)).trans HM.out, g4, q2, row_setCell (row_setCell HO.out HG.out (by decide) _ _) q1 (by decide) _ _⟩, (hI.setCell (p := ⟨g, 0, none⟩) (fun hh => absurd hh (Nat.not_lt.2 g4)) _).setCell (p := ⟨g, 1, none⟩) (fun hh => absurd hh (Nat.not_lt.2 g4)) _, fun i x m hne hk h => absurd (by simpa using keep_fin hk (by kernel_rfl)) hne⟩
  case fin =>
    intro vals c1 w2 hC hfin
    obtain ⟨g, dv, hm9, hg, hb, ho⟩ := (hfin 10 (by kernel_rfl) (by decide) : ∃ g dv, mask .any _ 10 vals 9 = .pointer (some ⟨g, 0, none⟩) ∧ wB.heap.size ≤ g ∧ w2.heap[g]? = some (.cells #[.int .i64 131, dv] 154 (0, 0)) ∧ Own8 w2 wB.heap.size dv (be 8 u))
    rw [mask_eq (by kernel_rfl)] at hm9
    clear hfin
    obtain ⟨A7, n7, c7, hdv⟩ := ho.slice
    subst hdv
    have HBX2 := Lib.hid (hC.blkF HBX.out)
    have c0 := blk_cell (k := 0) HBX2.out rfl
    have x0 := blk_cell (k := 0) hb rfl
    have x1 := blk_cell (k := 1) hb rfl
    simp only [putAll, Act.put, List.setIfInBounds_toArray, List.set_cons_zero, List.set_cons_succ, Nat.reduceAdd]
    rw [hm9]
    have HO := Lib.hid ho; have HC2 := Lib.hid (HBC.out.reads hC)
    clear hm9 ho hb hC
    have hws : w.heap.size ≤ w2.heap.size := HC2.out.size
    go_upto_region 4 with (fail)
    refine wp_any_world (fun w' => Chg (fun _ => False) w w' ∧ w'.heap[w.heap.size]? = some (.cells #[.int .i64 16, .int .u64 (u : Int), .string tx, .slice A n c, .int .i64 o, .slice A' n' c'] 81 (0, 0)) ∧ PcsNe 1 w.heap.size w' (.slice (some ⟨w2.heap.size, 0, none⟩) 1 1) (GoodV 16 u tx.data.toList)) ⟨HC2.out.alloc _, ((Chg.refl (fun _ => False) _).alloc _).blkF HBX2.out, PcsNe.lit1 ⟨_, _, rfl, .of_own (Own8.base_le HO.out (by omega)), ⟨131, rfl, time_enc u HU.out⟩⟩ hws⟩ ?_
    rintro wC ⟨hC2, hbx, hout⟩
    obtain ⟨gC, hgC⟩ : ∃ gC, gC = w2.heap.size := ⟨_, rfl⟩
    rw [← hgC] at hout ⊢
    clear hgC x0 x1 c0
    have c0 := blk_cell (k := 0) hbx rfl
    have HBX3 := Lib.hid hbx; have HC3 := Lib.hid hC2; have HOUT := Lib.hid hout
    have HB1 : w.heap.size ≤ wC.heap.size := hC2.size
    clear hbx hC2 hout
    go_wp2_with fail
    go_ret
    exact ⟨_, rfl, HOUT.out.more (by decide), HC3.out⟩
end Go.Proofs.S
