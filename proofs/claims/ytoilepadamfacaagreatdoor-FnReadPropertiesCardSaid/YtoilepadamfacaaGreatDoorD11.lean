/- The writer puts the length and the count ahead of its bytes: for lengths within the machine. -/
import Derived.Test.YtoilepadamfacaaGreatDoorD10
set_option linter.unusedVariables false
set_option linter.unusedSimpArgs false
namespace Go.Proofs.S
open Go.RowKit Go.Maps
set_option maxHeartbeats 8000000 in
set_option maxRecDepth 1000000 in
theorem lengthed_cnt {sh lo : Int} {dA : Option Addr} {dC : Nat} {data : List UInt8} {cnt : Nat} {G : Int → List UInt8 → Prop} {w : World} (hs : Bs w (.slice dA data.length dC) data) (hlen : data.length ≤ 2000000000) (hcnt : cnt ≤ 65535) (hg1 : cnt ≤ 255 → data.length + 1 ≤ 255 → G sh (be 1 (data.length + 1) ++ be 1 cnt ++ data)) (hg2 : G lo (be 4 (data.length + 4) ++ be 4 cnt ++ data))
    : Calls Tryz.prog 122 #[.int .i64 sh, .int .i64 lo, .slice dA data.length dC, .int .i64 (cnt : Int)] w fun e w' => ∃ v, e = .returned v ∧ PcsNe 2 w.heap.size w' v G ∧ Chg (fun _ => False) w w' := by
  have HS := Lib.hid hs; have HL := Lib.hid hlen; have HG1 := Lib.hid hg1; have HG2 := Lib.hid hg2
  clear hs hg1 hg2
  go_enter Tryz.func122, Tryz.ntmps122
  go_wp2_with fail
  go_loopw [9, 20] (fun out i wr => ∃ k : Nat, (k = 0 ∧ i = .int .i64 0 ∨ k = 1 ∧ i = .int .i64 1 ∨ k = 2 ∧ i = .int .i64 2) ∧ (∃ A n c, out = .slice A n c) ∧ Pcs k w.heap.size wr out G ∧ (k = 2 → PcsNe 2 w.heap.size wr out G) ∧ Chg (fun _ => False) w wr ∧ wr.heap[w.heap.size]? = some (.cells #[.int .i64 sh, .int .i64 1, .int .i64 lo, .int .i64 4] 361 (0, 0))) (fun _ i _ => 2 - (intOf i).toNat)
  case atStart => exact ⟨0, .inl ⟨rfl, rfl⟩, ⟨_, _, _, rfl⟩, Pcs.nil _ _ _ _, fun h => absurd h (by decide), (Chg.refl _ w).alloc _, heap_alloc_new _ _⟩
  case round =>
    obtain ⟨k, hk, ⟨A9, n9, c9, rfl⟩, hpcs, hne, hC, hlit⟩ := hrel
    have HPCS := Lib.hid hpcs; have HNE := Lib.hid hne; have HC := Lib.hid hC; have HLIT := Lib.hid hlit
    have hwr : w.heap.size < wr.heap.size := (Array.getElem?_eq_some_iff.1 hlit).1
    clear hpcs hne hC hlit
    rcases hk with ⟨rfl, rfl⟩ | ⟨rfl, rfl⟩ | ⟨rfl, rfl⟩
    · have z0 := blk_cell (k := 0) HLIT.out rfl
      have z1 := blk_cell (k := 1) HLIT.out rfl
      have hc0 : (0 : Int) ≤ (cnt : Int) := by omega
      rcases Nat.lt_or_ge 255 cnt with hsm | hsm
      · have hgt : decide ((cnt : Int) > 255) = true := by simp; omega
        go_wp2_with fail
        go_roundw
        case rel => exact ⟨1, .inr (.inl ⟨rfl, rfl⟩), ⟨_, _, _, rfl⟩, (HPCS.out.chg (((Chg.refl (fun _ => False) wr).alloc _).alloc _) (fun _ h => h.elim)).more (by decide), fun h => absurd h (by decide), ((HC.out.alloc _).alloc _), ((((Chg.refl (fun _ => False) wr).alloc _).alloc _).blkF HLIT.out)⟩
        case measure => simp [intOf]
      · have hgt : decide ((cnt : Int) > 255) = false := by simp; omega
        go_upto_region 9 with (fail)
        refine wp_any_world (fun w' => Chg (fun _ => False) wr w' ∧ w'.heap[wr.heap.size]? = some (.cells #[.int .i64 sh, .int .i64 1] 361 (0, 0))) ⟨((Chg.refl _ wr).alloc _).alloc _, ((Chg.refl (fun _ => False) _).alloc _).blkF (heap_alloc_new _ _)⟩ ?_
        rintro wN ⟨hN1, hfbN⟩
        have x1 := blk_cell (k := 1) hfbN rfl
        have HFBN := Lib.hid hfbN; have HCN := Lib.hid hN1
        have HS8 : Hid (1 ≤ 8) := Lib.hid (by decide)
        clear hfbN hN1
        refine wp_region_rel (RL9 wN.heap.size wr.heap.size data.length 1 cnt) (fun w' => Chg (fun _ => False) wN w') [9, 10] (by kernel_rfl) (by kernel_rfl) (by kernel_rfl) (by kernel_rfl) ((Chg.refl _ wN).drewN 1) ?stepsn0 ?finn0
        case stepsn0 =>
            refine ⟨⟨rfl, ?_⟩, ⟨rfl, ?_⟩, ⟨rfl, ?_⟩, ⟨rfl, ?_⟩, ⟨rfl, ?_⟩, ⟨rfl, ?_⟩, ⟨rfl, ?_⟩, ⟨rfl, ?_⟩, ⟨rfl, ?_⟩, ⟨rfl, ?_⟩, ⟨rfl, ?_⟩, trivial⟩
            all_goals (intro vals ev c w1 hc hI hR hv h0 hcst hfn hgl)
            · have e12 : ev (.tmp 12) = .int .i64 (data.length : Int) := h0 12 (by kernel_rfl)
              have l_x1 := Chg.cell hI x1 (fun h => h)
              clear hR hv h0 hc
              refine Step.fixed (x := .int .i64 (data.length : Int)) ?_ ⟨rfl, hI, fun i_ x_ m_ _ _ h_ => RL9_ext wN.heap.size wr.heap.size data.length 1 cnt h_ (Chg.refl _ _)⟩
              unfold OpDoes
              go_simp
            · have e11 : ev (.tmp 11) = .pointer (some ⟨wr.heap.size, 0, none⟩) := h0 11 (by kernel_rfl)
              have l_x1 := Chg.cell hI x1 (fun h => h)
              clear hR hv h0 hc
              refine Step.fixed (x := .pointer (some ⟨wr.heap.size, 1, none⟩)) ?_ ⟨rfl, hI, fun i_ x_ m_ _ _ h_ => RL9_ext wN.heap.size wr.heap.size data.length 1 cnt h_ (Chg.refl _ _)⟩
              unfold OpDoes
              go_simp
            · have e37 : ev (.tmp 37) = .pointer (some ⟨wr.heap.size, 1, none⟩) := (hv 1 37 (by kernel_rfl) (by kernel_rfl) (Nat.le_of_ble_eq_true (by kernel_rfl))).trans (hR 1 (by kernel_rfl))
              have l_x1 := Chg.cell hI x1 (fun h => h)
              clear hR hv h0 hc
              refine Step.fixed (x := .int .i64 (1 : Int)) ?_ ⟨rfl, hI, fun i_ x_ m_ _ _ h_ => RL9_ext wN.heap.size wr.heap.size data.length 1 cnt h_ (Chg.refl _ _)⟩
              unfold OpDoes
              go_simp
            · have e36 : ev (.tmp 36) = .int .i64 (data.length : Int) := (hv 0 36 (by kernel_rfl) (by kernel_rfl) (Nat.le_of_ble_eq_true (by kernel_rfl))).trans (hR 0 (by kernel_rfl))
              have e38 : ev (.tmp 38) = .int .i64 (1 : Int) := (hv 2 38 (by kernel_rfl) (by kernel_rfl) (Nat.le_of_ble_eq_true (by kernel_rfl))).trans (hR 2 (by kernel_rfl))
              have l_x1 := Chg.cell hI x1 (fun h => h)
              have hw_ : IntKind.i64.wrap ((data.length : Int) + (1 : Int)) = (data.length : Int) + (1 : Int) := IntWalk.i64_in _ (by omega)
              clear hR hv h0 hc
              refine Step.fixed (x := .int .i64 ((data.length : Int) + (1 : Int))) ?_ ⟨rfl, hI, fun i_ x_ m_ _ _ h_ => RL9_ext wN.heap.size wr.heap.size data.length 1 cnt h_ (Chg.refl _ _)⟩
              unfold OpDoes
              go_simp
            · have e3 : ev (.tmp 3) = .int .i64 (cnt : Int) := h0 3 (by kernel_rfl)
              have l_x1 := Chg.cell hI x1 (fun h => h)
              clear hR hv h0 hc
              refine Step.fixed (x := .int .i64 (cnt : Int)) ?_ ⟨rfl, hI, fun i_ x_ m_ _ _ h_ => RL9_ext wN.heap.size wr.heap.size data.length 1 cnt h_ (Chg.refl _ _)⟩
              unfold OpDoes
              go_simp
            · have e40 : ev (.tmp 40) = .int .i64 (cnt : Int) := (hv 4 40 (by kernel_rfl) (by kernel_rfl) (Nat.le_of_ble_eq_true (by kernel_rfl))).trans (hR 4 (by kernel_rfl))
              have l_x1 := Chg.cell hI x1 (fun h => h)
              have hwr_ := @u64_in cnt (by omega)
              clear hR hv h0 hc
              refine Step.fixed (x := .int .u64 (cnt : Int)) ?_ ⟨rfl, hI, fun i_ x_ m_ _ _ h_ => RL9_ext wN.heap.size wr.heap.size data.length 1 cnt h_ (Chg.refl _ _)⟩
              unfold OpDoes
              go_simp
            · have e11 : ev (.tmp 11) = .pointer (some ⟨wr.heap.size, 0, none⟩) := h0 11 (by kernel_rfl)
              have l_x1 := Chg.cell hI x1 (fun h => h)
              clear hR hv h0 hc
              refine Step.fixed (x := .pointer (some ⟨wr.heap.size, 1, none⟩)) ?_ ⟨rfl, hI, fun i_ x_ m_ _ _ h_ => RL9_ext wN.heap.size wr.heap.size data.length 1 cnt h_ (Chg.refl _ _)⟩
              unfold OpDoes
              go_simp
            · have e42 : ev (.tmp 42) = .pointer (some ⟨wr.heap.size, 1, none⟩) := (hv 6 42 (by kernel_rfl) (by kernel_rfl) (Nat.le_of_ble_eq_true (by kernel_rfl))).trans (hR 6 (by kernel_rfl))
              have l_x1 := Chg.cell hI x1 (fun h => h)
              clear hR hv h0 hc
              refine Step.fixed (x := .int .i64 (1 : Int)) ?_ ⟨rfl, hI, fun i_ x_ m_ _ _ h_ => RL9_ext wN.heap.size wr.heap.size data.length 1 cnt h_ (Chg.refl _ _)⟩
              unfold OpDoes
              go_simp
            · have e41 : ev (.tmp 41) = .int .u64 (cnt : Int) := (hv 5 41 (by kernel_rfl) (by kernel_rfl) (Nat.le_of_ble_eq_true (by kernel_rfl))).trans (hR 5 (by kernel_rfl))
              have e43 : ev (.tmp 43) = .int .i64 (1 : Int) := (hv 7 43 (by kernel_rfl) (by kernel_rfl) (Nat.le_of_ble_eq_true (by kernel_rfl))).trans (hR 7 (by kernel_rfl))
              have hf := hfn 174
              clear hR hv h0 hc
              unfold OpDoes
              go_simp
              refine (big_calls cnt 1 HS8.out w1).mono ?_
              rintro _ w2 ⟨v7, rfl, ho, hC⟩
              exact ⟨_, rfl, Own8.base_le ho hI.size, hI.reads hC, fun i_ x_ m_ _ _ h_ => RL9_ext wN.heap.size wr.heap.size data.length 1 cnt h_ hC⟩
            · have e39 : ev (.tmp 39) = .int .i64 ((data.length : Int) + (1 : Int)) := (hv 3 39 (by kernel_rfl) (by kernel_rfl) (Nat.le_of_ble_eq_true (by kernel_rfl))).trans (hR 3 (by kernel_rfl))
              have l_x1 := Chg.cell hI x1 (fun h => h)
              clear hR hv h0 hc
              refine Step.fixed (x := .int .i64 ((data.length : Int) + (1 : Int))) ?_ ⟨rfl, hI, fun i_ x_ m_ _ _ h_ => RL9_ext wN.heap.size wr.heap.size data.length 1 cnt h_ (Chg.refl _ _)⟩
              unfold OpDoes
              go_simp
            · have e44 : ev (.tmp 44) = vals 8 := hv 8 44 (by kernel_rfl) (by kernel_rfl) (Nat.le_of_ble_eq_true (by kernel_rfl))
              have h8 : Own8 w1 wN.heap.size (vals 8) (be 1 cnt) := hR 8 (by kernel_rfl)
              exact does_value rfl ⟨e44 ▸ h8, hI, fun i_ x_ m_ _ _ h_ => RL9_ext wN.heap.size wr.heap.size data.length 1 cnt h_ (Chg.refl _ _)⟩
        case finn0 =>
          intro vals9 c wR hR9 hfin
          have h9 : vals9 9 = .int .i64 ((data.length : Int) + (1 : Nat)) := hfin 9 (by kernel_rfl) (by decide)
          have h10 : Own8 wR wN.heap.size (vals9 10) (be 1 cnt) := hfin 10 (by kernel_rfl) (by decide)
          clear hfin
          obtain ⟨hA, hN, hC_, h10e⟩ := h10.slice
          rw [h10e] at h10
          have hbs := Bs.of_own h10
          have hfb := hR9.blkF HFBN.out
          have hR1 := HCN.out.reads hR9
          simp only [putAll, Act.put, List.setIfInBounds_toArray, List.set_cons_zero, List.set_cons_succ, Nat.reduceAdd]
          rw [h9, h10e]
          clear h9 h10 h10e hR9 x1
          have x0 := blk_cell (k := 0) hfb rfl
          have x1 := blk_cell (k := 1) hfb rfl
          rcases Nat.lt_or_ge 255 (data.length + 1) with hsm2 | hsm2
          · have hgt2 : decide ((data.length : Int) + 1 > 255) = true := by simp; omega
            have HCZ := Lib.hid (HC.out.reads hR1); have HLZ := Lib.hid (hR1.blkF HLIT.out); have HPZ := Lib.hid ((HPCS.out.chg hR1 (fun _ h => h.elim)).more (show 0 ≤ 1 by decide))
            clear hbs hfb hR1
            go_wp2_with fail
            go_roundw
            case rel => exact ⟨1, .inr (.inl ⟨rfl, rfl⟩), ⟨_, _, _, rfl⟩, HPZ.out, fun h => absurd h (by decide), HCZ.out, HLZ.out⟩
            case measure => simp [intOf]
          · have hgt2 : decide ((data.length : Int) + 1 > 255) = false := by simp; omega
            go_upto_region 11 with (fail)
            clear x0 x1
            have x0 := blk_cell (k := 0) hfb rfl
            have x1 := blk_cell (k := 1) hfb rfl
            have HPCS := Lib.hid (HPCS.out.chg hR1 (fun _ h => h.elim))
            have HLITR := Lib.hid (hR1.blkF HLIT.out)
            have HHEAD := Lib.hid hbs
            have HDATA := Lib.hid (HS.out.chg (HC.out.reads hR1))
            have HGD : Hid (G sh (be 1 (data.length + 1 : Nat) ++ (be 1 cnt) ++ data)) := Lib.hid (HG1.out (by omega) (by omega))
            have HKQ : Hid (0 + 1 ≤ 1000) := Lib.hid (by decide)
            have HS8 : Hid (1 ≤ 8) := Lib.hid (by decide)
            have HB1 : w.heap.size ≤ wR.heap.size := (HC.out.reads hR1).size
            have HHL : Hid (1 + ((be 1 cnt) : List UInt8).length + data.length ≤ 140737488355328) := Lib.hid (by rw [be_length]; omega)
            have HCR := Lib.hid (HC.out.reads hR1)
            clear hbs hfb hR1
            refine wp_region_relZ (RL11 wR w.heap.size wr.heap.size (data.length + 1 : Nat) 1 0 sh (.slice A9 n9 c9) (.slice dA data.length dC) (.slice hA hN hC_) (be 1 cnt) data G) 14 (fun b w' => Chg (fun k => b = true ∧ ((.slice A9 n9 c9) : Value).ownBlock = some k) wR w') [15] (by kernel_rfl) (by kernel_rfl) (by kernel_rfl) (by kernel_rfl) ((Chg.refl _ wR).drewN 1) ?steps0 ?fin0
            case steps0 =>
                refine ⟨⟨rfl, ?_⟩, ⟨rfl, ?_⟩, ⟨rfl, ?_⟩, ⟨rfl, ?_⟩, ⟨rfl, ?_⟩, ⟨rfl, ?_⟩, ⟨rfl, ?_⟩, ⟨rfl, ?_⟩, ⟨rfl, ?_⟩, ⟨rfl, ?_⟩, ⟨rfl, ?_⟩, ⟨rfl, ?_⟩, ⟨rfl, ?_⟩, ⟨rfl, ?_⟩, ⟨rfl, ?_⟩, ⟨rfl, ?_⟩, trivial⟩
                all_goals (intro vals ev c w1 b hz1 hz2 hz3 hc hI hR hv h0 hcst hfn hgl)
                · obtain rfl := hz1 (by kernel_rfl)
                  have HF : Chg (fun _ => False) wR w1 := hI.mono (fun k h => Bool.noConfusion h.1)
                  have e9 : ev (.tmp 9) = (.slice A9 n9 c9) := h0 9 (by kernel_rfl)
                  exact does_value rfl ⟨⟨e9, HF⟩, HF.any, fun i_ x_ m_ _ _ h_ => RL11_ext wR w.heap.size wr.heap.size (data.length + 1 : Nat) 1 0 sh (.slice A9 n9 c9) (.slice dA data.length dC) (.slice hA hN hC_) (be 1 cnt) data G h_ (Chg.refl _ _)⟩
                · obtain rfl := hz1 (by kernel_rfl)
                  have HF : Chg (fun _ => False) wR w1 := hI.mono (fun k h => Bool.noConfusion h.1)
                  have e11 : ev (.tmp 11) = .pointer (some ⟨wr.heap.size, 0, none⟩) := h0 11 (by kernel_rfl)
                  have l_x0 := Chg.cell HF x0 (fun h => h)
                  have l_x1 := Chg.cell HF x1 (fun h => h)
                  clear hR hv h0 hc
                  refine Step.fixed (x := .pointer (some ⟨wr.heap.size, 0, none⟩)) ?_ ⟨rfl, HF.any, fun i_ x_ m_ _ _ h_ => RL11_ext wR w.heap.size wr.heap.size (data.length + 1 : Nat) 1 0 sh (.slice A9 n9 c9) (.slice dA data.length dC) (.slice hA hN hC_) (be 1 cnt) data G h_ (Chg.refl _ _)⟩
                  unfold OpDoes
                  go_simp
                · obtain rfl := hz1 (by kernel_rfl)
                  have HF : Chg (fun _ => False) wR w1 := hI.mono (fun k h => Bool.noConfusion h.1)
                  have e53 : ev (.tmp 53) = .pointer (some ⟨wr.heap.size, 0, none⟩) := (hv 1 53 (by kernel_rfl) (by kernel_rfl) (Nat.le_of_ble_eq_true (by kernel_rfl))).trans (hR 1 (by kernel_rfl))
                  have l_x0 := Chg.cell HF x0 (fun h => h)
                  have l_x1 := Chg.cell HF x1 (fun h => h)
                  clear hR hv h0 hc
                  refine Step.fixed (x := .int .i64 sh) ?_ ⟨rfl, HF.any, fun i_ x_ m_ _ _ h_ => RL11_ext wR w.heap.size wr.heap.size (data.length + 1 : Nat) 1 0 sh (.slice A9 n9 c9) (.slice dA data.length dC) (.slice hA hN hC_) (be 1 cnt) data G h_ (Chg.refl _ _)⟩
                  unfold OpDoes
                  go_simp
                · obtain rfl := hz1 (by kernel_rfl)
                  have HF : Chg (fun _ => False) wR w1 := hI.mono (fun k h => Bool.noConfusion h.1)
                  have e12 : ev (.tmp 12) = .int .i64 ((data.length + 1 : Nat) : Int) := h0 12 (by kernel_rfl)
                  have l_x0 := Chg.cell HF x0 (fun h => h)
                  have l_x1 := Chg.cell HF x1 (fun h => h)
                  clear hR hv h0 hc
                  refine Step.fixed (x := .int .i64 ((data.length + 1 : Nat) : Int)) ?_ ⟨rfl, HF.any, fun i_ x_ m_ _ _ h_ => RL11_ext wR w.heap.size wr.heap.size (data.length + 1 : Nat) 1 0 sh (.slice A9 n9 c9) (.slice dA data.length dC) (.slice hA hN hC_) (be 1 cnt) data G h_ (Chg.refl _ _)⟩
                  unfold OpDoes
                  go_simp
                · obtain rfl := hz1 (by kernel_rfl)
                  have HF : Chg (fun _ => False) wR w1 := hI.mono (fun k h => Bool.noConfusion h.1)
                  have e55 : ev (.tmp 55) = .int .i64 ((data.length + 1 : Nat) : Int) := (hv 3 55 (by kernel_rfl) (by kernel_rfl) (Nat.le_of_ble_eq_true (by kernel_rfl))).trans (hR 3 (by kernel_rfl))
                  have l_x0 := Chg.cell HF x0 (fun h => h)
                  have l_x1 := Chg.cell HF x1 (fun h => h)
                  have hwr_ : IntKind.u64.wrap (((data.length : Int) + 1)) = ((data.length : Int) + 1) := u64_inI (by omega) (by omega)
                  clear hR hv h0 hc
                  refine Step.fixed (x := .int .u64 ((data.length + 1 : Nat) : Int)) ?_ ⟨rfl, HF.any, fun i_ x_ m_ _ _ h_ => RL11_ext wR w.heap.size wr.heap.size (data.length + 1 : Nat) 1 0 sh (.slice A9 n9 c9) (.slice dA data.length dC) (.slice hA hN hC_) (be 1 cnt) data G h_ (Chg.refl _ _)⟩
                  unfold OpDoes
                  go_simp
                · obtain rfl := hz1 (by kernel_rfl)
                  have HF : Chg (fun _ => False) wR w1 := hI.mono (fun k h => Bool.noConfusion h.1)
                  have e11 : ev (.tmp 11) = .pointer (some ⟨wr.heap.size, 0, none⟩) := h0 11 (by kernel_rfl)
                  have l_x0 := Chg.cell HF x0 (fun h => h)
                  have l_x1 := Chg.cell HF x1 (fun h => h)
                  clear hR hv h0 hc
                  refine Step.fixed (x := .pointer (some ⟨wr.heap.size, 1, none⟩)) ?_ ⟨rfl, HF.any, fun i_ x_ m_ _ _ h_ => RL11_ext wR w.heap.size wr.heap.size (data.length + 1 : Nat) 1 0 sh (.slice A9 n9 c9) (.slice dA data.length dC) (.slice hA hN hC_) (be 1 cnt) data G h_ (Chg.refl _ _)⟩
                  unfold OpDoes
                  go_simp
                · obtain rfl := hz1 (by kernel_rfl)
                  have HF : Chg (fun _ => False) wR w1 := hI.mono (fun k h => Bool.noConfusion h.1)
                  have e57 : ev (.tmp 57) = .pointer (some ⟨wr.heap.size, 1, none⟩) := (hv 5 57 (by kernel_rfl) (by kernel_rfl) (Nat.le_of_ble_eq_true (by kernel_rfl))).trans (hR 5 (by kernel_rfl))
                  have l_x0 := Chg.cell HF x0 (fun h => h)
                  have l_x1 := Chg.cell HF x1 (fun h => h)
                  clear hR hv h0 hc
                  refine Step.fixed (x := .int .i64 (1 : Int)) ?_ ⟨rfl, HF.any, fun i_ x_ m_ _ _ h_ => RL11_ext wR w.heap.size wr.heap.size (data.length + 1 : Nat) 1 0 sh (.slice A9 n9 c9) (.slice dA data.length dC) (.slice hA hN hC_) (be 1 cnt) data G h_ (Chg.refl _ _)⟩
                  unfold OpDoes
                  go_simp
                · obtain rfl := hz1 (by kernel_rfl)
                  have HF : Chg (fun _ => False) wR w1 := hI.mono (fun k h => Bool.noConfusion h.1)
                  have e56 : ev (.tmp 56) = .int .u64 ((data.length + 1 : Nat) : Int) := (hv 4 56 (by kernel_rfl) (by kernel_rfl) (Nat.le_of_ble_eq_true (by kernel_rfl))).trans (hR 4 (by kernel_rfl))
                  have e58 : ev (.tmp 58) = .int .i64 (1 : Int) := (hv 6 58 (by kernel_rfl) (by kernel_rfl) (Nat.le_of_ble_eq_true (by kernel_rfl))).trans (hR 6 (by kernel_rfl))
                  have hf := hfn 174
                  clear hR hv h0 hc
                  unfold OpDoes
                  go_simp
                  refine (big_calls (data.length + 1 : Nat) 1 HS8.out w1).mono ?_
                  rintro _ w2 ⟨v7, rfl, ho, hC⟩
                  exact ⟨_, rfl, Own8.base_le ho HF.size, (HF.reads hC).any, fun i_ x_ m_ _ _ h_ => RL11_ext wR w.heap.size wr.heap.size (data.length + 1 : Nat) 1 0 sh (.slice A9 n9 c9) (.slice dA data.length dC) (.slice hA hN hC_) (be 1 cnt) data G h_ hC⟩
                · obtain rfl := hz1 (by kernel_rfl)
                  have HF : Chg (fun _ => False) wR w1 := hI.mono (fun k h => Bool.noConfusion h.1)
                  have e13 : ev (.tmp 13) = (.slice hA hN hC_) := h0 13 (by kernel_rfl)
                  have l_x0 := Chg.cell HF x0 (fun h => h)
                  have l_x1 := Chg.cell HF x1 (fun h => h)
                  clear hR hv h0 hc
                  refine Step.fixed (x := (.slice hA hN hC_)) ?_ ⟨rfl, HF.any, fun i_ x_ m_ _ _ h_ => RL11_ext wR w.heap.size wr.heap.size (data.length + 1 : Nat) 1 0 sh (.slice A9 n9 c9) (.slice dA data.length dC) (.slice hA hN hC_) (be 1 cnt) data G h_ (Chg.refl _ _)⟩
                  unfold OpDoes
                  go_simp
                · obtain rfl := hz1 (by kernel_rfl)
                  have HF : Chg (fun _ => False) wR w1 := hI.mono (fun k h => Bool.noConfusion h.1)
                  have e59 : ev (.tmp 59) = vals 7 := hv 7 59 (by kernel_rfl) (by kernel_rfl) (Nat.le_of_ble_eq_true (by kernel_rfl))
                  have e60 : ev (.tmp 60) = (.slice hA hN hC_) := (hv 8 60 (by kernel_rfl) (by kernel_rfl) (Nat.le_of_ble_eq_true (by kernel_rfl))).trans (hR 8 (by kernel_rfl))
                  have h7 : Own8 w1 wR.heap.size (vals 7) (be 1 (data.length + 1 : Nat)) := hR 7 (by kernel_rfl)
                  obtain ⟨v1, w', hrun, ho, hg, _⟩ := run_app8' h7 (HHEAD.out.chgX HF (fun _ _ h => h)) (by rw [be_length]; have := HHL.out; omega) HF.size
                  have hC : Chg (fun k => wR.heap.size ≤ k) w1 w' := (Chg.refl _ w1).grown hg (fun k hk _ => (World.ownsRow.lt h7 k hk).1)
                  refine does_value' (w' := w') (v := v1) (by simp only [execOp, e59, e60, resolve, invoke, builtin, List.map_toArray, List.map_cons, List.map_nil, Sem.run_bind, Sem.run_pure, Result.andThen_ok, hrun]) ⟨ho, (HF.widen hC (Nat.le_refl _)).any, fun i_ x_ m_ hne hk h_ => ?_⟩
                  have hmem := keep_in [0, 1, 2, 10, 9] (by kernel_rfl) (by kernel_rfl) (by kernel_rfl) hk
                  exact RL11_wide wR w.heap.size wr.heap.size (data.length + 1 : Nat) 1 0 sh (.slice A9 n9 c9) (.slice dA data.length dC) (.slice hA hN hC_) (be 1 cnt) data G (by simp only [List.mem_cons, List.not_mem_nil, or_false] at hmem ⊢; omega) h_ hC
                · obtain rfl := hz1 (by kernel_rfl)
                  have HF : Chg (fun _ => False) wR w1 := hI.mono (fun k h => Bool.noConfusion h.1)
                  have e2 : ev (.tmp 2) = (.slice dA data.length dC) := h0 2 (by kernel_rfl)
                  have l_x0 := Chg.cell HF x0 (fun h => h)
                  have l_x1 := Chg.cell HF x1 (fun h => h)
                  clear hR hv h0 hc
                  refine Step.fixed (x := (.slice dA data.length dC)) ?_ ⟨rfl, HF.any, fun i_ x_ m_ _ _ h_ => RL11_ext wR w.heap.size wr.heap.size (data.length + 1 : Nat) 1 0 sh (.slice A9 n9 c9) (.slice dA data.length dC) (.slice hA hN hC_) (be 1 cnt) data G h_ (Chg.refl _ _)⟩
                  unfold OpDoes
                  go_simp
                · obtain rfl := hz1 (by kernel_rfl)
                  have HF : Chg (fun _ => False) wR w1 := hI.mono (fun k h => Bool.noConfusion h.1)
                  have e61 : ev (.tmp 61) = vals 9 := hv 9 61 (by kernel_rfl) (by kernel_rfl) (Nat.le_of_ble_eq_true (by kernel_rfl))
                  have e62 : ev (.tmp 62) = (.slice dA data.length dC) := (hv 10 62 (by kernel_rfl) (by kernel_rfl) (Nat.le_of_ble_eq_true (by kernel_rfl))).trans (hR 10 (by kernel_rfl))
                  have h9 : Own8 w1 wR.heap.size (vals 9) (be 1 (data.length + 1 : Nat) ++ (be 1 cnt)) := hR 9 (by kernel_rfl)
                  obtain ⟨v1, w', hrun, ho, hg, _⟩ := run_app8' h9 (HDATA.out.chgX HF (fun _ _ h => h)) (by rw [List.length_append, be_length]; have := HHL.out; omega) HF.size
                  have hC : Chg (fun k => wR.heap.size ≤ k) w1 w' := (Chg.refl _ w1).grown hg (fun k hk _ => (World.ownsRow.lt h9 k hk).1)
                  refine does_value' (w' := w') (v := v1) (by simp only [execOp, e61, e62, resolve, invoke, builtin, List.map_toArray, List.map_cons, List.map_nil, Sem.run_bind, Sem.run_pure, Result.andThen_ok, hrun]) ⟨ho, (HF.widen hC (Nat.le_refl _)).any, fun i_ x_ m_ hne hk h_ => ?_⟩
                  have hmem := keep_in [0, 1, 2, 10, 11] (by kernel_rfl) (by kernel_rfl) (by kernel_rfl) hk
                  exact RL11_wide wR w.heap.size wr.heap.size (data.length + 1 : Nat) 1 0 sh (.slice A9 n9 c9) (.slice dA data.length dC) (.slice hA hN hC_) (be 1 cnt) data G (by simp only [List.mem_cons, List.not_mem_nil, or_false] at hmem ⊢; omega) h_ hC
                · obtain rfl := hz1 (by kernel_rfl)
                  have HF : Chg (fun _ => False) wR w1 := hI.mono (fun k h => Bool.noConfusion h.1)
                  have e54 : ev (.tmp 54) = .int .i64 sh := (hv 2 54 (by kernel_rfl) (by kernel_rfl) (Nat.le_of_ble_eq_true (by kernel_rfl))).trans (hR 2 (by kernel_rfl))
                  have e63 : ev (.tmp 63) = vals 11 := hv 11 63 (by kernel_rfl) (by kernel_rfl) (Nat.le_of_ble_eq_true (by kernel_rfl))
                  have h7 : Own8 w1 wR.heap.size (vals 11) ((be 1 (data.length + 1 : Nat) ++ (be 1 cnt)) ++ data) := hR 11 (by kernel_rfl)
                  obtain ⟨A7, n7, c7, h7e⟩ := h7.slice
                  rw [h7e] at e63 h7
                  have H7 := Lib.hid h7; clear h7 h7e
                  clear hR hv h0 hc
                  refine Step.fixed (x := .agg #[.int .i64 sh, .slice A7 n7 c7]) ?_ ⟨⟨_, _, _, rfl, H7.out⟩, HF.any, fun i_ x_ m_ _ _ h_ => RL11_ext wR w.heap.size wr.heap.size (data.length + 1 : Nat) 1 0 sh (.slice A9 n9 c9) (.slice dA data.length dC) (.slice hA hN hC_) (be 1 cnt) data G h_ (Chg.refl _ _)⟩
                  unfold OpDoes
                  go_simp
                · obtain rfl := hz1 (by kernel_rfl)
                  have HF : Chg (fun _ => False) wR w1 := hI.mono (fun k h => Bool.noConfusion h.1)
                  have e64 : ev (.tmp 64) = vals 12 := hv 12 64 (by kernel_rfl) (by kernel_rfl) (Nat.le_of_ble_eq_true (by kernel_rfl))
                  obtain ⟨A7, n7, c7, g1, g2⟩ := (hR 12 (by kernel_rfl) : ∃ A7 n7 c7, vals 12 = .agg #[.int .i64 sh, .slice A7 n7 c7] ∧ Own8 w1 wR.heap.size (.slice A7 n7 c7) ((be 1 (data.length + 1 : Nat) ++ (be 1 cnt)) ++ data))
                  rw [g1] at e64
                  have H7 := Lib.hid g2; clear g1 g2
                  clear hR hv h0 hc
                  refine OpDoes.mono (p := fun v w2 => v = .slice (some ⟨w1.heap.size, 0, none⟩) 1 1 ∧ w2 = w1.alloc (.cells #[.int .i64 sh, .slice A7 n7 c7] 154)) ?_ ?_
                  · unfold OpDoes
                    go_simp
                  · rintro v w2 ⟨rfl, rfl⟩
                    have hok : PcOk w.heap.size w1 G (.int .i64 sh, .slice A7 n7 c7) := ⟨_, _, rfl, .of_own (Own8.base_le H7.out HB1), HGD.out⟩
                    exact ⟨⟨_, rfl, PcsNe.lit1 hok (Nat.le_trans HB1 HF.size)⟩, (HF.reads ((Chg.refl _ _).alloc _)).any, fun i_ x_ m_ _ _ h_ => RL11_ext wR w.heap.size wr.heap.size (data.length + 1 : Nat) 1 0 sh (.slice A9 n9 c9) (.slice dA data.length dC) (.slice hA hN hC_) (be 1 cnt) data G h_ ((Chg.refl _ _).alloc _)⟩
                · obtain rfl := hz2 rfl
                  have HF : Chg (fun _ => False) wR w1 := hI.mono (fun k h => Bool.noConfusion h.1)
                  have e52 : ev (.tmp 52) = vals 0 := hv 0 52 (by kernel_rfl) (by kernel_rfl) (Nat.le_of_ble_eq_true (by kernel_rfl))
                  have e65 : ev (.tmp 65) = vals 13 := hv 13 65 (by kernel_rfl) (by kernel_rfl) (Nat.le_of_ble_eq_true (by kernel_rfl))
                  obtain ⟨g, g1, g3⟩ := (hR 13 (by kernel_rfl) : ∃ g, vals 13 = .slice (some ⟨g, 0, none⟩) 1 1 ∧ PcsNe 1 w.heap.size w1 (vals 13) G)
                  obtain ⟨o1, o2⟩ := (hR 0 (by kernel_rfl) : vals 0 = (.slice A9 n9 c9) ∧ Chg (fun _ => False) wR w1)
                  rw [o1] at e52
                  rw [g1] at e65 g3
                  obtain ⟨v1, w', hrun, hp, _, hgr⟩ := run_appP (HPCS.out.chg o2 (fun _ h => h.elim)) g3 HKQ.out (Nat.le_trans HB1 o2.size)
                  refine does_value' (w' := w') (v := v1) (by simp only [execOp, e52, e65, resolve, invoke, builtin, List.map_toArray, List.map_cons, List.map_nil, Sem.run_bind, Sem.run_pure, Result.andThen_ok, hrun]) ⟨hp, HF.any.grown hgr (fun k hk _ => ⟨rfl, hk⟩), fun i_ x_ m_ hne hk h_ => ?_⟩
                  have hmem := keep_in [14] (by kernel_rfl) (by kernel_rfl) (by kernel_rfl) hk
                  simp only [List.mem_cons, List.not_mem_nil, or_false] at hmem
                  exact absurd hmem hne
                · have e66 : ev (.tmp 66) = vals 14 := hv 14 66 (by kernel_rfl) (by kernel_rfl) (Nat.le_of_ble_eq_true (by kernel_rfl))
                  have h14 : PcsNe (0 + 1) w.heap.size w1 (vals 14) G := hR 14 (by kernel_rfl)
                  exact does_value rfl ⟨e66 ▸ h14, hI.mono (fun k h => ⟨by rw [h.1]; rfl, h.2⟩), fun i_ x_ m_ _ _ h_ => RL11_ext wR w.heap.size wr.heap.size (data.length + 1 : Nat) 1 0 sh (.slice A9 n9 c9) (.slice dA data.length dC) (.slice hA hN hC_) (be 1 cnt) data G h_ (Chg.refl _ _)⟩
            case fin0 =>
              intro vals c wZ hb hfin
              obtain ⟨b, hZ⟩ := hb
              have h15 : PcsNe (0 + 1) w.heap.size wZ (vals 15) G := hfin 15 (by kernel_rfl) (by decide)
              clear hfin
              obtain ⟨gZ, lenZ, cZ, e15, _⟩ := h15.at
              rw [e15] at h15
              have HP := Lib.hid h15
              have HCZ := Lib.hid (HCR.out.trans hZ (fun i hi h => absurd hi (Nat.not_lt.2 (HPCS.out.own h.2))))
              have HLZ := Lib.hid ((hZ.block _ (Array.getElem?_eq_some_iff.1 HLITR.out).1 (fun h => HPCS.out.apart HLITR.out (by decide) h.2)).trans HLITR.out)
              clear h15 hZ x0 x1
              simp only [putAll, Act.put, List.setIfInBounds_toArray, List.set_cons_zero, List.set_cons_succ, Nat.reduceAdd]
              rw [e15]
              clear e15
              go_wp2_with fail
              go_roundw
              case rel => exact ⟨1, .inr (.inl ⟨rfl, rfl⟩), ⟨_, _, _, rfl⟩, HP.out.pcs, fun h => absurd h (by decide), HCZ.out, HLZ.out⟩
              case measure => simp [intOf]
    · have z0 := blk_cell (k := 2) HLIT.out rfl
      have z1 := blk_cell (k := 3) HLIT.out rfl
      have hc0 : (0 : Int) ≤ (cnt : Int) := by omega
      go_upto_region 9 with (fail)
      refine wp_any_world (fun w' => Chg (fun _ => False) wr w' ∧ w'.heap[wr.heap.size]? = some (.cells #[.int .i64 lo, .int .i64 4] 361 (0, 0))) ⟨((Chg.refl _ wr).alloc _).alloc _, ((Chg.refl (fun _ => False) _).alloc _).blkF (heap_alloc_new _ _)⟩ ?_
      rintro wN ⟨hN1, hfbN⟩
      have x1 := blk_cell (k := 1) hfbN rfl
      have HFBN := Lib.hid hfbN; have HCN := Lib.hid hN1
      have HS8 : Hid (4 ≤ 8) := Lib.hid (by decide)
      clear hfbN hN1
      refine wp_region_rel (RL9 wN.heap.size wr.heap.size data.length 4 cnt) (fun w' => Chg (fun _ => False) wN w') [9, 10] (by kernel_rfl) (by kernel_rfl) (by kernel_rfl) (by kernel_rfl) ((Chg.refl _ wN).drewN 1) ?stepsn1 ?finn1
      case stepsn1 =>
          refine ⟨⟨rfl, ?_⟩, ⟨rfl, ?_⟩, ⟨rfl, ?_⟩, ⟨rfl, ?_⟩, ⟨rfl, ?_⟩, ⟨rfl, ?_⟩, ⟨rfl, ?_⟩, ⟨rfl, ?_⟩, ⟨rfl, ?_⟩, ⟨rfl, ?_⟩, ⟨rfl, ?_⟩, trivial⟩
          all_goals (intro vals ev c w1 hc hI hR hv h0 hcst hfn hgl)
          · have e12 : ev (.tmp 12) = .int .i64 (data.length : Int) := h0 12 (by kernel_rfl)
            have l_x1 := Chg.cell hI x1 (fun h => h)
            clear hR hv h0 hc
            refine Step.fixed (x := .int .i64 (data.length : Int)) ?_ ⟨rfl, hI, fun i_ x_ m_ _ _ h_ => RL9_ext wN.heap.size wr.heap.size data.length 4 cnt h_ (Chg.refl _ _)⟩
            unfold OpDoes
            go_simp
          · have e11 : ev (.tmp 11) = .pointer (some ⟨wr.heap.size, 0, none⟩) := h0 11 (by kernel_rfl)
            have l_x1 := Chg.cell hI x1 (fun h => h)
            clear hR hv h0 hc
            refine Step.fixed (x := .pointer (some ⟨wr.heap.size, 1, none⟩)) ?_ ⟨rfl, hI, fun i_ x_ m_ _ _ h_ => RL9_ext wN.heap.size wr.heap.size data.length 4 cnt h_ (Chg.refl _ _)⟩
            unfold OpDoes
            go_simp
          · have e37 : ev (.tmp 37) = .pointer (some ⟨wr.heap.size, 1, none⟩) := (hv 1 37 (by kernel_rfl) (by kernel_rfl) (Nat.le_of_ble_eq_true (by kernel_rfl))).trans (hR 1 (by kernel_rfl))
            have l_x1 := Chg.cell hI x1 (fun h => h)
            clear hR hv h0 hc
            refine Step.fixed (x := .int .i64 (4 : Int)) ?_ ⟨rfl, hI, fun i_ x_ m_ _ _ h_ => RL9_ext wN.heap.size wr.heap.size data.length 4 cnt h_ (Chg.refl _ _)⟩
            unfold OpDoes
            go_simp
          · have e36 : ev (.tmp 36) = .int .i64 (data.length : Int) := (hv 0 36 (by kernel_rfl) (by kernel_rfl) (Nat.le_of_ble_eq_true (by kernel_rfl))).trans (hR 0 (by kernel_rfl))
            have e38 : ev (.tmp 38) = .int .i64 (4 : Int) := (hv 2 38 (by kernel_rfl) (by kernel_rfl) (Nat.le_of_ble_eq_true (by kernel_rfl))).trans (hR 2 (by kernel_rfl))
            have l_x1 := Chg.cell hI x1 (fun h => h)
            have hw_ : IntKind.i64.wrap ((data.length : Int) + (4 : Int)) = (data.length : Int) + (4 : Int) := IntWalk.i64_in _ (by omega)
            clear hR hv h0 hc
            refine Step.fixed (x := .int .i64 ((data.length : Int) + (4 : Int))) ?_ ⟨rfl, hI, fun i_ x_ m_ _ _ h_ => RL9_ext wN.heap.size wr.heap.size data.length 4 cnt h_ (Chg.refl _ _)⟩
            unfold OpDoes
            go_simp
          · have e3 : ev (.tmp 3) = .int .i64 (cnt : Int) := h0 3 (by kernel_rfl)
            have l_x1 := Chg.cell hI x1 (fun h => h)
            clear hR hv h0 hc
            refine Step.fixed (x := .int .i64 (cnt : Int)) ?_ ⟨rfl, hI, fun i_ x_ m_ _ _ h_ => RL9_ext wN.heap.size wr.heap.size data.length 4 cnt h_ (Chg.refl _ _)⟩
            unfold OpDoes
            go_simp
          · have e40 : ev (.tmp 40) = .int .i64 (cnt : Int) := (hv 4 40 (by kernel_rfl) (by kernel_rfl) (Nat.le_of_ble_eq_true (by kernel_rfl))).trans (hR 4 (by kernel_rfl))
            have l_x1 := Chg.cell hI x1 (fun h => h)
            have hwr_ := @u64_in cnt (by omega)
            clear hR hv h0 hc
            refine Step.fixed (x := .int .u64 (cnt : Int)) ?_ ⟨rfl, hI, fun i_ x_ m_ _ _ h_ => RL9_ext wN.heap.size wr.heap.size data.length 4 cnt h_ (Chg.refl _ _)⟩
            unfold OpDoes
            go_simp
          · have e11 : ev (.tmp 11) = .pointer (some ⟨wr.heap.size, 0, none⟩) := h0 11 (by kernel_rfl)
            have l_x1 := Chg.cell hI x1 (fun h => h)
            clear hR hv h0 hc
            refine Step.fixed (x := .pointer (some ⟨wr.heap.size, 1, none⟩)) ?_ ⟨rfl, hI, fun i_ x_ m_ _ _ h_ => RL9_ext wN.heap.size wr.heap.size data.length 4 cnt h_ (Chg.refl _ _)⟩
            unfold OpDoes
            go_simp
          · have e42 : ev (.tmp 42) = .pointer (some ⟨wr.heap.size, 1, none⟩) := (hv 6 42 (by kernel_rfl) (by kernel_rfl) (Nat.le_of_ble_eq_true (by kernel_rfl))).trans (hR 6 (by kernel_rfl))
            have l_x1 := Chg.cell hI x1 (fun h => h)
            clear hR hv h0 hc
            refine Step.fixed (x := .int .i64 (4 : Int)) ?_ ⟨rfl, hI, fun i_ x_ m_ _ _ h_ => RL9_ext wN.heap.size wr.heap.size data.length 4 cnt h_ (Chg.refl _ _)⟩
            unfold OpDoes
            go_simp
          · have e41 : ev (.tmp 41) = .int .u64 (cnt : Int) := (hv 5 41 (by kernel_rfl) (by kernel_rfl) (Nat.le_of_ble_eq_true (by kernel_rfl))).trans (hR 5 (by kernel_rfl))
            have e43 : ev (.tmp 43) = .int .i64 (4 : Int) := (hv 7 43 (by kernel_rfl) (by kernel_rfl) (Nat.le_of_ble_eq_true (by kernel_rfl))).trans (hR 7 (by kernel_rfl))
            have hf := hfn 174
            clear hR hv h0 hc
            unfold OpDoes
            go_simp
            refine (big_calls cnt 4 HS8.out w1).mono ?_
            rintro _ w2 ⟨v7, rfl, ho, hC⟩
            exact ⟨_, rfl, Own8.base_le ho hI.size, hI.reads hC, fun i_ x_ m_ _ _ h_ => RL9_ext wN.heap.size wr.heap.size data.length 4 cnt h_ hC⟩
          · have e39 : ev (.tmp 39) = .int .i64 ((data.length : Int) + (4 : Int)) := (hv 3 39 (by kernel_rfl) (by kernel_rfl) (Nat.le_of_ble_eq_true (by kernel_rfl))).trans (hR 3 (by kernel_rfl))
            have l_x1 := Chg.cell hI x1 (fun h => h)
            clear hR hv h0 hc
            refine Step.fixed (x := .int .i64 ((data.length : Int) + (4 : Int))) ?_ ⟨rfl, hI, fun i_ x_ m_ _ _ h_ => RL9_ext wN.heap.size wr.heap.size data.length 4 cnt h_ (Chg.refl _ _)⟩
            unfold OpDoes
            go_simp
          · have e44 : ev (.tmp 44) = vals 8 := hv 8 44 (by kernel_rfl) (by kernel_rfl) (Nat.le_of_ble_eq_true (by kernel_rfl))
            have h8 : Own8 w1 wN.heap.size (vals 8) (be 4 cnt) := hR 8 (by kernel_rfl)
            exact does_value rfl ⟨e44 ▸ h8, hI, fun i_ x_ m_ _ _ h_ => RL9_ext wN.heap.size wr.heap.size data.length 4 cnt h_ (Chg.refl _ _)⟩
      case finn1 =>
        intro vals9 c wR hR9 hfin
        have h9 : vals9 9 = .int .i64 ((data.length : Int) + (4 : Nat)) := hfin 9 (by kernel_rfl) (by decide)
        have h10 : Own8 wR wN.heap.size (vals9 10) (be 4 cnt) := hfin 10 (by kernel_rfl) (by decide)
        clear hfin
        obtain ⟨hA, hN, hC_, h10e⟩ := h10.slice
        rw [h10e] at h10
        have hbs := Bs.of_own h10
        have hfb := hR9.blkF HFBN.out
        have hR1 := HCN.out.reads hR9
        simp only [putAll, Act.put, List.setIfInBounds_toArray, List.set_cons_zero, List.set_cons_succ, Nat.reduceAdd]
        rw [h9, h10e]
        clear h9 h10 h10e hR9 x1
        have x0 := blk_cell (k := 0) hfb rfl
        have x1 := blk_cell (k := 1) hfb rfl
        go_upto_region 11 with (fail)
        clear x0 x1
        have x0 := blk_cell (k := 0) hfb rfl
        have x1 := blk_cell (k := 1) hfb rfl
        have HPCS := Lib.hid (HPCS.out.chg hR1 (fun _ h => h.elim))
        have HLITR := Lib.hid (hR1.blkF HLIT.out)
        have HHEAD := Lib.hid hbs
        have HDATA := Lib.hid (HS.out.chg (HC.out.reads hR1))
        have HGD : Hid (G lo (be 4 (data.length + 4 : Nat) ++ (be 4 cnt) ++ data)) := Lib.hid (HG2.out)
        have HKQ : Hid (1 + 1 ≤ 1000) := Lib.hid (by decide)
        have HS8 : Hid (4 ≤ 8) := Lib.hid (by decide)
        have HB1 : w.heap.size ≤ wR.heap.size := (HC.out.reads hR1).size
        have HHL : Hid (4 + ((be 4 cnt) : List UInt8).length + data.length ≤ 140737488355328) := Lib.hid (by rw [be_length]; omega)
        have HCR := Lib.hid (HC.out.reads hR1)
        clear hbs hfb hR1
        refine wp_region_relZ (RL11 wR w.heap.size wr.heap.size (data.length + 4 : Nat) 4 1 lo (.slice A9 n9 c9) (.slice dA data.length dC) (.slice hA hN hC_) (be 4 cnt) data G) 14 (fun b w' => Chg (fun k => b = true ∧ ((.slice A9 n9 c9) : Value).ownBlock = some k) wR w') [15] (by kernel_rfl) (by kernel_rfl) (by kernel_rfl) (by kernel_rfl) ((Chg.refl _ wR).drewN 1) ?steps1 ?fin1
        case steps1 =>
            refine ⟨⟨rfl, ?_⟩, ⟨rfl, ?_⟩, ⟨rfl, ?_⟩, ⟨rfl, ?_⟩, ⟨rfl, ?_⟩, ⟨rfl, ?_⟩, ⟨rfl, ?_⟩, ⟨rfl, ?_⟩, ⟨rfl, ?_⟩, ⟨rfl, ?_⟩, ⟨rfl, ?_⟩, ⟨rfl, ?_⟩, ⟨rfl, ?_⟩, ⟨rfl, ?_⟩, ⟨rfl, ?_⟩, ⟨rfl, ?_⟩, trivial⟩
            all_goals (intro vals ev c w1 b hz1 hz2 hz3 hc hI hR hv h0 hcst hfn hgl)
            · obtain rfl := hz1 (by kernel_rfl)
              have HF : Chg (fun _ => False) wR w1 := hI.mono (fun k h => Bool.noConfusion h.1)
              have e9 : ev (.tmp 9) = (.slice A9 n9 c9) := h0 9 (by kernel_rfl)
              exact does_value rfl ⟨⟨e9, HF⟩, HF.any, fun i_ x_ m_ _ _ h_ => RL11_ext wR w.heap.size wr.heap.size (data.length + 4 : Nat) 4 1 lo (.slice A9 n9 c9) (.slice dA data.length dC) (.slice hA hN hC_) (be 4 cnt) data G h_ (Chg.refl _ _)⟩
            · obtain rfl := hz1 (by kernel_rfl)
              have HF : Chg (fun _ => False) wR w1 := hI.mono (fun k h => Bool.noConfusion h.1)
              have e11 : ev (.tmp 11) = .pointer (some ⟨wr.heap.size, 0, none⟩) := h0 11 (by kernel_rfl)
              have l_x0 := Chg.cell HF x0 (fun h => h)
              have l_x1 := Chg.cell HF x1 (fun h => h)
              clear hR hv h0 hc
              refine Step.fixed (x := .pointer (some ⟨wr.heap.size, 0, none⟩)) ?_ ⟨rfl, HF.any, fun i_ x_ m_ _ _ h_ => RL11_ext wR w.heap.size wr.heap.size (data.length + 4 : Nat) 4 1 lo (.slice A9 n9 c9) (.slice dA data.length dC) (.slice hA hN hC_) (be 4 cnt) data G h_ (Chg.refl _ _)⟩
              unfold OpDoes
              go_simp
            · obtain rfl := hz1 (by kernel_rfl)
              have HF : Chg (fun _ => False) wR w1 := hI.mono (fun k h => Bool.noConfusion h.1)
              have e53 : ev (.tmp 53) = .pointer (some ⟨wr.heap.size, 0, none⟩) := (hv 1 53 (by kernel_rfl) (by kernel_rfl) (Nat.le_of_ble_eq_true (by kernel_rfl))).trans (hR 1 (by kernel_rfl))
              have l_x0 := Chg.cell HF x0 (fun h => h)
              have l_x1 := Chg.cell HF x1 (fun h => h)
              clear hR hv h0 hc
              refine Step.fixed (x := .int .i64 lo) ?_ ⟨rfl, HF.any, fun i_ x_ m_ _ _ h_ => RL11_ext wR w.heap.size wr.heap.size (data.length + 4 : Nat) 4 1 lo (.slice A9 n9 c9) (.slice dA data.length dC) (.slice hA hN hC_) (be 4 cnt) data G h_ (Chg.refl _ _)⟩
              unfold OpDoes
              go_simp
            · obtain rfl := hz1 (by kernel_rfl)
              have HF : Chg (fun _ => False) wR w1 := hI.mono (fun k h => Bool.noConfusion h.1)
              have e12 : ev (.tmp 12) = .int .i64 ((data.length + 4 : Nat) : Int) := h0 12 (by kernel_rfl)
              have l_x0 := Chg.cell HF x0 (fun h => h)
              have l_x1 := Chg.cell HF x1 (fun h => h)
              clear hR hv h0 hc
              refine Step.fixed (x := .int .i64 ((data.length + 4 : Nat) : Int)) ?_ ⟨rfl, HF.any, fun i_ x_ m_ _ _ h_ => RL11_ext wR w.heap.size wr.heap.size (data.length + 4 : Nat) 4 1 lo (.slice A9 n9 c9) (.slice dA data.length dC) (.slice hA hN hC_) (be 4 cnt) data G h_ (Chg.refl _ _)⟩
              unfold OpDoes
              go_simp
            · obtain rfl := hz1 (by kernel_rfl)
              have HF : Chg (fun _ => False) wR w1 := hI.mono (fun k h => Bool.noConfusion h.1)
              have e55 : ev (.tmp 55) = .int .i64 ((data.length + 4 : Nat) : Int) := (hv 3 55 (by kernel_rfl) (by kernel_rfl) (Nat.le_of_ble_eq_true (by kernel_rfl))).trans (hR 3 (by kernel_rfl))
              have l_x0 := Chg.cell HF x0 (fun h => h)
              have l_x1 := Chg.cell HF x1 (fun h => h)
              have hwr_ : IntKind.u64.wrap (((data.length : Int) + 4)) = ((data.length : Int) + 4) := u64_inI (by omega) (by omega)
              clear hR hv h0 hc
              refine Step.fixed (x := .int .u64 ((data.length + 4 : Nat) : Int)) ?_ ⟨rfl, HF.any, fun i_ x_ m_ _ _ h_ => RL11_ext wR w.heap.size wr.heap.size (data.length + 4 : Nat) 4 1 lo (.slice A9 n9 c9) (.slice dA data.length dC) (.slice hA hN hC_) (be 4 cnt) data G h_ (Chg.refl _ _)⟩
              unfold OpDoes
              go_simp
            · obtain rfl := hz1 (by kernel_rfl)
              have HF : Chg (fun _ => False) wR w1 := hI.mono (fun k h => Bool.noConfusion h.1)
              have e11 : ev (.tmp 11) = .pointer (some ⟨wr.heap.size, 0, none⟩) := h0 11 (by kernel_rfl)
              have l_x0 := Chg.cell HF x0 (fun h => h)
              have l_x1 := Chg.cell HF x1 (fun h => h)
              clear hR hv h0 hc
              refine Step.fixed (x := .pointer (some ⟨wr.heap.size, 1, none⟩)) ?_ ⟨rfl, HF.any, fun i_ x_ m_ _ _ h_ => RL11_ext wR w.heap.size wr.heap.size (data.length + 4 : Nat) 4 1 lo (.slice A9 n9 c9) (.slice dA data.length dC) (.slice hA hN hC_) (be 4 cnt) data G h_ (Chg.refl _ _)⟩
              unfold OpDoes
              go_simp
            · obtain rfl := hz1 (by kernel_rfl)
              have HF : Chg (fun _ => False) wR w1 := hI.mono (fun k h => Bool.noConfusion h.1)
              have e57 : ev (.tmp 57) = .pointer (some ⟨wr.heap.size, 1, none⟩) := (hv 5 57 (by kernel_rfl) (by kernel_rfl) (Nat.le_of_ble_eq_true (by kernel_rfl))).trans (hR 5 (by kernel_rfl))
              have l_x0 := Chg.cell HF x0 (fun h => h)
              have l_x1 := Chg.cell HF x1 (fun h => h)
              clear hR hv h0 hc
              refine Step.fixed (x := .int .i64 (4 : Int)) ?_ ⟨rfl, HF.any, fun i_ x_ m_ _ _ h_ => RL11_ext wR w.heap.size wr.heap.size (data.length + 4 : Nat) 4 1 lo (.slice A9 n9 c9) (.slice dA data.length dC) (.slice hA hN hC_) (be 4 cnt) data G h_ (Chg.refl _ _)⟩
              unfold OpDoes
              go_simp
            · obtain rfl := hz1 (by kernel_rfl)
              have HF : Chg (fun _ => False) wR w1 := hI.mono (fun k h => Bool.noConfusion h.1)
              have e56 : ev (.tmp 56) = .int .u64 ((data.length + 4 : Nat) : Int) := (hv 4 56 (by kernel_rfl) (by kernel_rfl) (Nat.le_of_ble_eq_true (by kernel_rfl))).trans (hR 4 (by kernel_rfl))
              have e58 : ev (.tmp 58) = .int .i64 (4 : Int) := (hv 6 58 (by kernel_rfl) (by kernel_rfl) (Nat.le_of_ble_eq_true (by kernel_rfl))).trans (hR 6 (by kernel_rfl))
              have hf := hfn 174
              clear hR hv h0 hc
              unfold OpDoes
              go_simp
              refine (big_calls (data.length + 4 : Nat) 4 HS8.out w1).mono ?_
              rintro _ w2 ⟨v7, rfl, ho, hC⟩
              exact ⟨_, rfl, Own8.base_le ho HF.size, (HF.reads hC).any, fun i_ x_ m_ _ _ h_ => RL11_ext wR w.heap.size wr.heap.size (data.length + 4 : Nat) 4 1 lo (.slice A9 n9 c9) (.slice dA data.length dC) (.slice hA hN hC_) (be 4 cnt) data G h_ hC⟩
            · obtain rfl := hz1 (by kernel_rfl)
              have HF : Chg (fun _ => False) wR w1 := hI.mono (fun k h => Bool.noConfusion h.1)
              have e13 : ev (.tmp 13) = (.slice hA hN hC_) := h0 13 (by kernel_rfl)
              have l_x0 := Chg.cell HF x0 (fun h => h)
              have l_x1 := Chg.cell HF x1 (fun h => h)
              clear hR hv h0 hc
              refine Step.fixed (x := (.slice hA hN hC_)) ?_ ⟨rfl, HF.any, fun i_ x_ m_ _ _ h_ => RL11_ext wR w.heap.size wr.heap.size (data.length + 4 : Nat) 4 1 lo (.slice A9 n9 c9) (.slice dA data.length dC) (.slice hA hN hC_) (be 4 cnt) data G h_ (Chg.refl _ _)⟩
              unfold OpDoes
              go_simp
            · obtain rfl := hz1 (by kernel_rfl)
              have HF : Chg (fun _ => False) wR w1 := hI.mono (fun k h => Bool.noConfusion h.1)
              have e59 : ev (.tmp 59) = vals 7 := hv 7 59 (by kernel_rfl) (by kernel_rfl) (Nat.le_of_ble_eq_true (by kernel_rfl))
              have e60 : ev (.tmp 60) = (.slice hA hN hC_) := (hv 8 60 (by kernel_rfl) (by kernel_rfl) (Nat.le_of_ble_eq_true (by kernel_rfl))).trans (hR 8 (by kernel_rfl))
              have h7 : Own8 w1 wR.heap.size (vals 7) (be 4 (data.length + 4 : Nat)) := hR 7 (by kernel_rfl)
              obtain ⟨v1, w', hrun, ho, hg, _⟩ := run_app8' h7 (HHEAD.out.chgX HF (fun _ _ h => h)) (by rw [be_length]; have := HHL.out; omega) HF.size
              have hC : Chg (fun k => wR.heap.size ≤ k) w1 w' := (Chg.refl _ w1).grown hg (fun k hk _ => (World.ownsRow.lt h7 k hk).1)
              refine does_value' (w' := w') (v := v1) (by simp only [execOp, e59, e60, resolve, invoke, builtin, List.map_toArray, List.map_cons, List.map_nil, Sem.run_bind, Sem.run_pure, Result.andThen_ok, hrun]) ⟨ho, (HF.widen hC (Nat.le_refl _)).any, fun i_ x_ m_ hne hk h_ => ?_⟩
              have hmem := keep_in [0, 1, 2, 10, 9] (by kernel_rfl) (by kernel_rfl) (by kernel_rfl) hk
              exact RL11_wide wR w.heap.size wr.heap.size (data.length + 4 : Nat) 4 1 lo (.slice A9 n9 c9) (.slice dA data.length dC) (.slice hA hN hC_) (be 4 cnt) data G (by simp only [List.mem_cons, List.not_mem_nil, or_false] at hmem ⊢; omega) h_ hC
            · obtain rfl := hz1 (by kernel_rfl)
              have HF : Chg (fun _ => False) wR w1 := hI.mono (fun k h => Bool.noConfusion h.1)
              have e2 : ev (.tmp 2) = (.slice dA data.length dC) := h0 2 (by kernel_rfl)
              have l_x0 := Chg.cell HF x0 (fun h => h)
              have l_x1 := Chg.cell HF x1 (fun h => h)
              clear hR hv h0 hc
              refine Step.fixed (x := (.slice dA data.length dC)) ?_ ⟨rfl, HF.any, fun i_ x_ m_ _ _ h_ => RL11_ext wR w.heap.size wr.heap.size (data.length + 4 : Nat) 4 1 lo (.slice A9 n9 c9) (.slice dA data.length dC) (.slice hA hN hC_) (be 4 cnt) data G h_ (Chg.refl _ _)⟩
              unfold OpDoes
              go_simp
            · obtain rfl := hz1 (by kernel_rfl)
              have HF : Chg (fun _ => False) wR w1 := hI.mono (fun k h => Bool.noConfusion h.1)
              have e61 : ev (.tmp 61) = vals 9 := hv 9 61 (by kernel_rfl) (by kernel_rfl) (Nat.le_of_ble_eq_true (by kernel_rfl))
              have e62 : ev (.tmp 62) = (.slice dA data.length dC) := (hv 10 62 (by kernel_rfl) (by kernel_rfl) (Nat.le_of_ble_eq_true (by kernel_rfl))).trans (hR 10 (by kernel_rfl))
              have h9 : Own8 w1 wR.heap.size (vals 9) (be 4 (data.length + 4 : Nat) ++ (be 4 cnt)) := hR 9 (by kernel_rfl)
              obtain ⟨v1, w', hrun, ho, hg, _⟩ := run_app8' h9 (HDATA.out.chgX HF (fun _ _ h => h)) (by rw [List.length_append, be_length]; have := HHL.out; omega) HF.size
              have hC : Chg (fun k => wR.heap.size ≤ k) w1 w' := (Chg.refl _ w1).grown hg (fun k hk _ => (World.ownsRow.lt h9 k hk).1)
              refine does_value' (w' := w') (v := v1) (by simp only [execOp, e61, e62, resolve, invoke, builtin, List.map_toArray, List.map_cons, List.map_nil, Sem.run_bind, Sem.run_pure, Result.andThen_ok, hrun]) ⟨ho, (HF.widen hC (Nat.le_refl _)).any, fun i_ x_ m_ hne hk h_ => ?_⟩
              have hmem := keep_in [0, 1, 2, 10, 11] (by kernel_rfl) (by kernel_rfl) (by kernel_rfl) hk
              exact RL11_wide wR w.heap.size wr.heap.size (data.length + 4 : Nat) 4 1 lo (.slice A9 n9 c9) (.slice dA data.length dC) (.slice hA hN hC_) (be 4 cnt) data G (by simp only [List.mem_cons, List.not_mem_nil, or_false] at hmem ⊢; omega) h_ hC
            · obtain rfl := hz1 (by kernel_rfl)
              have HF : Chg (fun _ => False) wR w1 := hI.mono (fun k h => Bool.noConfusion h.1)
              have e54 : ev (.tmp 54) = .int .i64 lo := (hv 2 54 (by kernel_rfl) (by kernel_rfl) (Nat.le_of_ble_eq_true (by kernel_rfl))).trans (hR 2 (by kernel_rfl))
              have e63 : ev (.tmp 63) = vals 11 := hv 11 63 (by kernel_rfl) (by kernel_rfl) (Nat.le_of_ble_eq_true (by kernel_rfl))
              have h7 : Own8 w1 wR.heap.size (vals 11) ((be 4 (data.length + 4 : Nat) ++ (be 4 cnt)) ++ data) := hR 11 (by kernel_rfl)
              obtain ⟨A7, n7, c7, h7e⟩ := h7.slice
              rw [h7e] at e63 h7
              have H7 := Lib.hid h7; clear h7 h7e
              clear hR hv h0 hc
              refine Step.fixed (x := .agg #[.int .i64 lo, .slice A7 n7 c7]) ?_ ⟨⟨_, _, _, rfl, H7.out⟩, HF.any, fun i_ x_ m_ _ _ h_ => RL11_ext wR w.heap.size wr.heap.size (data.length + 4 : Nat) 4 1 lo (.slice A9 n9 c9) (.slice dA data.length dC) (.slice hA hN hC_) (be 4 cnt) data G h_ (Chg.refl _ _)⟩
              unfold OpDoes
              go_simp
            · obtain rfl := hz1 (by kernel_rfl)
              have HF : Chg (fun _ => False) wR w1 := hI.mono (fun k h => Bool.noConfusion h.1)
              have e64 : ev (.tmp 64) = vals 12 := hv 12 64 (by kernel_rfl) (by kernel_rfl) (Nat.le_of_ble_eq_true (by kernel_rfl))
              obtain ⟨A7, n7, c7, g1, g2⟩ := (hR 12 (by kernel_rfl) : ∃ A7 n7 c7, vals 12 = .agg #[.int .i64 lo, .slice A7 n7 c7] ∧ Own8 w1 wR.heap.size (.slice A7 n7 c7) ((be 4 (data.length + 4 : Nat) ++ (be 4 cnt)) ++ data))
              rw [g1] at e64
              have H7 := Lib.hid g2; clear g1 g2
              clear hR hv h0 hc
              refine OpDoes.mono (p := fun v w2 => v = .slice (some ⟨w1.heap.size, 0, none⟩) 1 1 ∧ w2 = w1.alloc (.cells #[.int .i64 lo, .slice A7 n7 c7] 154)) ?_ ?_
              · unfold OpDoes
                go_simp
              · rintro v w2 ⟨rfl, rfl⟩
                have hok : PcOk w.heap.size w1 G (.int .i64 lo, .slice A7 n7 c7) := ⟨_, _, rfl, .of_own (Own8.base_le H7.out HB1), HGD.out⟩
                exact ⟨⟨_, rfl, PcsNe.lit1 hok (Nat.le_trans HB1 HF.size)⟩, (HF.reads ((Chg.refl _ _).alloc _)).any, fun i_ x_ m_ _ _ h_ => RL11_ext wR w.heap.size wr.heap.size (data.length + 4 : Nat) 4 1 lo (.slice A9 n9 c9) (.slice dA data.length dC) (.slice hA hN hC_) (be 4 cnt) data G h_ ((Chg.refl _ _).alloc _)⟩
            · obtain rfl := hz2 rfl
              have HF : Chg (fun _ => False) wR w1 := hI.mono (fun k h => Bool.noConfusion h.1)
              have e52 : ev (.tmp 52) = vals 0 := hv 0 52 (by kernel_rfl) (by kernel_rfl) (Nat.le_of_ble_eq_true (by kernel_rfl))
              have e65 : ev (.tmp 65) = vals 13 := hv 13 65 (by kernel_rfl) (by kernel_rfl) (Nat.le_of_ble_eq_true (by kernel_rfl))
              obtain ⟨g, g1, g3⟩ := (hR 13 (by kernel_rfl) : ∃ g, vals 13 = .slice (some ⟨g, 0, none⟩) 1 1 ∧ PcsNe 1 w.heap.size w1 (vals 13) G)
              obtain ⟨o1, o2⟩ := (hR 0 (by kernel_rfl) : vals 0 = (.slice A9 n9 c9) ∧ Chg (fun _ => False) wR w1)
              rw [o1] at e52
              rw [g1] at e65 g3
              obtain ⟨v1, w', hrun, hp, _, hgr⟩ := run_appP (HPCS.out.chg o2 (fun _ h => h.elim)) g3 HKQ.out (Nat.le_trans HB1 o2.size)
              refine does_value' (w' := w') (v := v1) (by simp only [execOp, e52, e65, resolve, invoke, builtin, List.map_toArray, List.map_cons, List.map_nil, Sem.run_bind, Sem.run_pure, Result.andThen_ok, hrun]) ⟨hp, HF.any.grown hgr (fun k hk _ => ⟨rfl, hk⟩), fun i_ x_ m_ hne hk h_ => ?_⟩
              have hmem := keep_in [14] (by kernel_rfl) (by kernel_rfl) (by kernel_rfl) hk
              simp only [List.mem_cons, List.not_mem_nil, or_false] at hmem
              exact absurd hmem hne
            · have e66 : ev (.tmp 66) = vals 14 := hv 14 66 (by kernel_rfl) (by kernel_rfl) (Nat.le_of_ble_eq_true (by kernel_rfl))
              have h14 : PcsNe (1 + 1) w.heap.size w1 (vals 14) G := hR 14 (by kernel_rfl)
              exact does_value rfl ⟨e66 ▸ h14, hI.mono (fun k h => ⟨by rw [h.1]; rfl, h.2⟩), fun i_ x_ m_ _ _ h_ => RL11_ext wR w.heap.size wr.heap.size (data.length + 4 : Nat) 4 1 lo (.slice A9 n9 c9) (.slice dA data.length dC) (.slice hA hN hC_) (be 4 cnt) data G h_ (Chg.refl _ _)⟩
        case fin1 =>
          intro vals c wZ hb hfin
          obtain ⟨b, hZ⟩ := hb
          have h15 : PcsNe (1 + 1) w.heap.size wZ (vals 15) G := hfin 15 (by kernel_rfl) (by decide)
          clear hfin
          obtain ⟨gZ, lenZ, cZ, e15, _⟩ := h15.at
          rw [e15] at h15
          have HP := Lib.hid h15
          have HCZ := Lib.hid (HCR.out.trans hZ (fun i hi h => absurd hi (Nat.not_lt.2 (HPCS.out.own h.2))))
          have HLZ := Lib.hid ((hZ.block _ (Array.getElem?_eq_some_iff.1 HLITR.out).1 (fun h => HPCS.out.apart HLITR.out (by decide) h.2)).trans HLITR.out)
          clear h15 hZ x0 x1
          simp only [putAll, Act.put, List.setIfInBounds_toArray, List.set_cons_zero, List.set_cons_succ, Nat.reduceAdd]
          rw [e15]
          clear e15
          go_wp2_with fail
          go_roundw
          case rel => exact ⟨2, .inr (.inr ⟨rfl, rfl⟩), ⟨_, _, _, rfl⟩, HP.out.pcs, fun _ => HP.out, HCZ.out, HLZ.out⟩
          case measure => simp [intOf]
    · go_wp2
      go_ret
      exact ⟨_, rfl, HNE.out trivial, HC.out⟩
end Go.Proofs.S
