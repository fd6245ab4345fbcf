/- What values a tree holds, and whether each fits: for trees of plain values. -/
import Derived.Test.YtoilepadamfacaaGreatDoorD27
set_option linter.unusedVariables false
set_option linter.unusedSimpArgs false
namespace Go.Proofs.S
open Go.RowKit Go.Maps
theorem OwnV.ext {w w' : World} {base : Nat} {v : Value} {xs : List FV} (h : OwnV w base v xs) (hc : Chg (fun _ => False) w w') : OwnV w' base v xs := row_chg h hc (fun _ h => h.elim)
theorem OwnV.lit0 {base : Nat} {w : World} (hb : base ≤ w.heap.size) : OwnV (w.alloc (.cells #[] 81)) base (.slice (some ⟨w.heap.size, 0, none⟩) 0 0) [] :=
  World.ownsRow_lit (base := base) (e := 81) (size := 6) w #[] 0 hb (by simp [maxLen]) rfl
theorem OwnV.shape {w : World} {base : Nat} {v : Value} {xs : List FV} (h : OwnV w base v xs) : ∃ A c, v = .slice A xs.length c := by
  rcases h.2 with ⟨rfl, h0⟩ | ⟨g, cap, cur, rfl, _⟩
  · exact ⟨none, 0, by rw [h0]⟩
  · exact ⟨_, cap, rfl⟩
/-- A slice that reads as these values. -/
def RdV (w : World) (A : Option Addr) (n : Nat) (ys : List FV) : Prop := n = ys.length ∧ (ys ≠ [] → ∃ g o, A = some ⟨g, o, none⟩ ∧ ∀ j x, ys[j]? = some x → FVAt w g (o + j * 6) x)
theorem RdV.chg {w w' : World} {A : Option Addr} {n : Nat} {ys : List FV} (h : RdV w A n ys) (hc : Chg (fun _ => False) w w') : RdV w' A n ys := by
  refine ⟨h.1, fun hne => ?_⟩
  obtain ⟨g, o, e, hx⟩ := h.2 hne
  exact ⟨g, o, e, fun j x hj => (hx j x hj).chg hc (fun h => h)⟩
theorem fv_one {ys : List FV} : ∀ x ∈ fvl ys, x.oneCell' = true := fun x hx => by
  simp only [fvl, List.mem_flatMap] at hx
  obtain ⟨p, hp', hx⟩ := hx
  simp only [cFV, List.mem_cons, List.not_mem_nil, or_false] at hx
  rcases hx with rfl | rfl | rfl | rfl | rfl | rfl <;> rfl
theorem run_appVr {base : Nat} {w : World} {v : Value} {xs ys : List FV} {A : Option Addr} {n c : Nat} (h : OwnV w base v xs) (hr : RdV w A n ys) (hn : xs.length + ys.length ≤ 1000) (hb : base ≤ w.heap.size) :
    ∃ v1 w1, (Builtin.append_ #[22, 22] 22 #[v, .slice A n c]).run Tryz.prog w = .ok v1 w1 ∧ OwnV w1 base v1 (xs ++ ys) ∧ w.grownBy w1 v.ownBlock ∧ (v1.ownBlock = v.ownBlock ∨ v1.ownBlock = some w.heap.size) := by
  obtain ⟨rfl, hA⟩ := hr
  obtain ⟨i0, hi, hzz⟩ := Option.map_eq_some_iff.1 Tryz_info81
  simp only [Prod.mk.injEq] at hzz
  obtain ⟨hz0, hz1, hz2⟩ := hzz
  rcases Classical.em (ys = []) with h0 | h0
  · subst h0
    rcases A with _ | ⟨b, o, s⟩
    · refine ⟨v, w, ?_, by simpa using h, World.grownBy.refl w _, .inl rfl⟩
      rcases h.2 with ⟨rfl, hn⟩ | ⟨g, cap, cur, rfl, _, _, hnc, _⟩
      · simp [Builtin.append_, run_underlying Tryz.underlying22, sizeOf, typeInfo, hi, Builtin.lenOf, Builtin.firstCells]
      · simp [Builtin.append_, run_underlying Tryz.underlying22, sizeOf, typeInfo, hi, Builtin.lenOf, Builtin.firstCells, hnc, storeCells]
    · have hl : (loadCells ⟨b, o, s⟩ 0).run Tryz.prog w = .ok #[] w := by simpa using run_loadCells_list (P := Tryz.prog) w ⟨b, o, s⟩ [] (by simp)
      refine ⟨v, w, ?_, by simpa using h, World.grownBy.refl w _, .inl rfl⟩
      rcases h.2 with ⟨rfl, hn⟩ | ⟨g, cap, cur, rfl, _, _, hnc, _⟩
      · simp [Builtin.append_, run_underlying Tryz.underlying22, sizeOf, typeInfo, hi, Builtin.lenOf, Builtin.firstCells, hl, Result.andThen]
      · simp [Builtin.append_, run_underlying Tryz.underlying22, sizeOf, typeInfo, hi, Builtin.lenOf, Builtin.firstCells, hnc, storeCells, hl, Result.andThen]
  · obtain ⟨g, o, rfl, hx⟩ := hA h0
    obtain ⟨v1, w1, q1, q2, q3, _, q5⟩ := run_append_own_at (P := Tryz.prog) w base 22 22 81 i0 _ 6 88 Tryz.underlying22 hi hz0 hz1 hz2 rfl (by decide) v xs.length (fvl xs) h ⟨g, o, none⟩ ys.length c (fvl ys) (fvl_length ys)
      (fun j u hu => by
        have hj : j < (fvl ys).length := (List.getElem?_eq_some_iff.1 hu).1
        rw [fvl_length] at hj
        have hq : j / 6 < ys.length := by omega
        have hy := List.getElem?_eq_getElem hq
        have hjj : j = j / 6 * 6 + j % 6 := by omega
        have hm : j % 6 < 6 := Nat.mod_lt _ (by decide)
        have h1 := fvl_get ys (j / 6) (j % 6) _ hy hm
        rw [← hjj, hu] at h1
        rw [add_off]
        have hF := hx _ _ hy
        generalize hk : j % 6 = k at h1 hm hjj
        have hcase : k = 0 ∨ k = 1 ∨ k = 2 ∨ k = 3 ∨ k = 4 ∨ k = 5 := by omega
        have e : o + j = o + j / 6 * 6 + k := by omega
        rw [e]
        rcases hcase with rfl | rfl | rfl | rfl | rfl | rfl <;> (simp only [cFV, List.getElem?_cons_zero, List.getElem?_cons_succ, Option.some.injEq] at h1; subst h1)
        · exact hF.c0
        · exact hF.c1
        · exact hF.c2
        · exact hF.c3
        · exact hF.c4
        · exact hF.c5) fv_one (by simp only [maxLen]; omega) (by omega) hb
    refine ⟨v1, w1, q1, ?_, q3, q5⟩
    show w1.ownsRow base 81 6 v1 _ _
    rw [fvl_append, List.length_append]
    exact q2
/-- An int is handed back; nothing that was there has turned. -/
def AnyI (w : World) (e : Ending) (w' : World) : Prop := ∃ z, e = .returned (.int .i64 z) ∧ Chg (fun _ => False) w w'
def RVA (base b1 : Nat) (kA dA : Option Addr) (kN kC dN dC : Nat) (ys1 ys2 : List FV) (i : Nat) (v : Value) (m : Nat → Value) (c : Nat) (w : World) : Prop :=
  match i with
  | 0 => OwnV w base v []
  | 1 => v = .pointer (some ⟨b1, 3, none⟩)
  | 2 => v = .slice kA kN kC
  | 3 => OwnV w base v ys1
  | 4 => v = .pointer (some ⟨b1, 5, none⟩)
  | 5 => v = .slice dA dN dC
  | 6 => OwnV w base v (ys1 ++ ys2)
  | 7 => v = .int .i64 ((ys1 ++ ys2).length : Int)
  | 8 => v = .int .i64 0
  | _ => True
theorem RVA_ext (base b1 : Nat) (kA dA : Option Addr) (kN kC dN dC : Nat) (ys1 ys2 : List FV) {i : Nat} {v : Value} {m : Nat → Value} {c : Nat} {w w1 : World} (h : RVA base b1 kA dA kN kC dN dC ys1 ys2 i v m c w) (hc : Chg (fun _ => False) w w1) : RVA base b1 kA dA kN kC dN dC ys1 ys2 i v m (c + 1) w1 := by
  unfold RVA at h ⊢
  split
  · exact OwnV.ext h hc
  · exact h
  · exact h
  · exact OwnV.ext h hc
  · exact h
  · exact h
  · exact OwnV.ext h hc
  · exact h
  · exact h
  · trivial
set_option maxHeartbeats 8000000 in
set_option maxRecDepth 1000000 in
/-- Values, by the contracts of what is in it. -/
theorem vals_body {kd : Int} {u : Nat} {tx : ByteArray} {kA dA : Option Addr} {kN kC dN dC : Nat} {o : Int} {ys1 ys2 : List FV} {w : World} (h1 : RdV w kA kN ys1) (h2 : RdV w dA dN ys2) (hlen : ys1.length + ys2.length ≤ 1000) (HE : ∀ x, x ∈ ys1 ++ ys2 → ∀ w, Calls Tryz.prog 43 #[.agg #[.int .i64 x.kd, .int .u64 (x.nm : Int), .string x.tx, .slice x.kA x.kN x.kC, .int .i64 x.of_, .slice x.dA 0 x.dC]] w (AnyI w)) :
    Calls Tryz.prog 43 #[.agg #[.int .i64 kd, .int .u64 (u : Int), .string tx, .slice kA kN kC, .int .i64 o, .slice dA dN dC]] w (AnyI w) := by
  have HHE := Lib.hid HE; have HLEN := Lib.hid hlen
  have hc0 : Chg (fun _ => False) w (w.alloc (.cells #[.int .i64 kd, .int .u64 (u : Int), .string tx, .slice kA kN kC, .int .i64 o, .slice dA dN dC] 81)) := (Chg.refl _ w).alloc _
  have hb0 := heap_alloc_new w (.cells #[.int .i64 kd, .int .u64 (u : Int), .string tx, .slice kA kN kC, .int .i64 o, .slice dA dN dC] 81)
  have H1b := Lib.hid h1; have H2b := Lib.hid h2
  clear HE hlen h1 h2
  go_enter Tryz.func43, Tryz.ntmps43
  go_upto_region 2 with (fail)
  refine wp_any_world (fun w' => Chg (fun _ => False) w w' ∧ w'.heap[w.heap.size]? = some (.cells #[.int .i64 kd, .int .u64 (u : Int), .string tx, .slice kA kN kC, .int .i64 o, .slice dA dN dC] 81 (0, 0))) ⟨hc0, hb0⟩ ?_
  clear hc0 hb0
  rintro w0 ⟨hC, hb⟩
  have HC := Lib.hid hC
  have C3 := Lib.hid (blk_cell (k := 3) hb rfl); have C5 := Lib.hid (blk_cell (k := 5) hb rfl)
  have H1 := Lib.hid (H1b.out.chg hC); have H2 := Lib.hid (H2b.out.chg hC)
  clear hC hb H1b H2b
  refine wp_region_rel (RVA w0.heap.size w.heap.size kA dA kN kC dN dC ys1 ys2) (fun w' => Chg (fun _ => False) w0 w') [6, 7, 8] (by kernel_rfl) (by kernel_rfl) (by kernel_rfl) (by kernel_rfl) ((Chg.refl _ w0).drewN 1) ?steps ?fin
  case steps =>
    refine ⟨⟨rfl, ?_⟩, ⟨rfl, ?_⟩, ⟨rfl, ?_⟩, ⟨rfl, ?_⟩, ⟨rfl, ?_⟩, ⟨rfl, ?_⟩, ⟨rfl, ?_⟩, ⟨rfl, ?_⟩, ⟨rfl, ?_⟩, trivial⟩
    all_goals (intro vals ev c w1 hc hI hR hv h0 hcst hfn hgl)
    · clear hR hv h0 hc
      refine OpDoes.mono (p := fun v w2 => v = .slice (some ⟨w1.heap.size, 0, none⟩) 0 0 ∧ w2 = w1.alloc (.cells #[] 81)) ?_ ?_
      · clear hI
        unfold OpDoes
        go_simp
      · rintro v w2 ⟨rfl, rfl⟩
        exact ⟨OwnV.lit0 hI.size, hI.alloc _, fun i_ x_ m_ _ _ h_ => RVA_ext w0.heap.size w.heap.size kA dA kN kC dN dC ys1 ys2 h_ ((Chg.refl _ _).alloc _)⟩
    · have e1 : ev (.tmp 1) = .pointer (some ⟨w.heap.size, 0, none⟩) := h0 1 (by kernel_rfl)
      clear hR hv h0 hc
      refine Step.fixed (x := .pointer (some ⟨w.heap.size, 3, none⟩)) ?_ ⟨rfl, hI, fun i_ x_ m_ _ _ h_ => RVA_ext w0.heap.size w.heap.size kA dA kN kC dN dC ys1 ys2 h_ (Chg.refl _ _)⟩
      unfold OpDoes
      go_simp
    · have e7 : ev (.tmp 7) = .pointer (some ⟨w.heap.size, 3, none⟩) := (hv 1 7 (by kernel_rfl) (by kernel_rfl) (Nat.le_of_ble_eq_true (by kernel_rfl))).trans (hR 1 (by kernel_rfl))
      have l_c3 := hI.cell C3.out (fun h => h)
      clear hR hv h0 hc
      refine Step.fixed (x := .slice kA kN kC) ?_ ⟨rfl, hI, fun i_ x_ m_ _ _ h_ => RVA_ext w0.heap.size w.heap.size kA dA kN kC dN dC ys1 ys2 h_ (Chg.refl _ _)⟩
      unfold OpDoes
      go_simp
    · have e6 : ev (.tmp 6) = vals 0 := hv 0 6 (by kernel_rfl) (by kernel_rfl) (Nat.le_of_ble_eq_true (by kernel_rfl))
      have e8 : ev (.tmp 8) = .slice kA kN kC := (hv 2 8 (by kernel_rfl) (by kernel_rfl) (Nat.le_of_ble_eq_true (by kernel_rfl))).trans (hR 2 (by kernel_rfl))
      have g0 : OwnV w1 w0.heap.size (vals 0) [] := hR 0 (by kernel_rfl)
      obtain ⟨v1, w', hrun, ho, hg, hat⟩ := run_appVr (c := kC) g0 (H1.out.chg hI) (by have := HLEN.out; simp only [List.length_nil]; omega) hI.size
      rw [List.nil_append] at ho
      refine does_value' (w' := w') (v := v1) (by simp only [execOp, e6, e8, resolve, invoke, builtin, List.map_toArray, List.map_cons, List.map_nil, Sem.run_bind, Sem.run_pure, Result.andThen_ok, hrun]) ⟨ho, hI.grown hg (fun k hk hlt => absurd (OwnV.ge g0 hk).1 (by omega)), fun i_ x_ m_ hne hk h_ => ?_⟩
      have hmem := keep_in [3, 4, 5, 8] (by kernel_rfl) (by kernel_rfl) (by kernel_rfl) hk
      simp only [List.mem_cons, List.not_mem_nil, or_false] at hmem
      rcases hmem with rfl | rfl | rfl | rfl
      · exact absurd rfl hne
      all_goals exact h_
    · have e1 : ev (.tmp 1) = .pointer (some ⟨w.heap.size, 0, none⟩) := h0 1 (by kernel_rfl)
      clear hR hv h0 hc
      refine Step.fixed (x := .pointer (some ⟨w.heap.size, 5, none⟩)) ?_ ⟨rfl, hI, fun i_ x_ m_ _ _ h_ => RVA_ext w0.heap.size w.heap.size kA dA kN kC dN dC ys1 ys2 h_ (Chg.refl _ _)⟩
      unfold OpDoes
      go_simp
    · have e10 : ev (.tmp 10) = .pointer (some ⟨w.heap.size, 5, none⟩) := (hv 4 10 (by kernel_rfl) (by kernel_rfl) (Nat.le_of_ble_eq_true (by kernel_rfl))).trans (hR 4 (by kernel_rfl))
      have l_c5 := hI.cell C5.out (fun h => h)
      clear hR hv h0 hc
      refine Step.fixed (x := .slice dA dN dC) ?_ ⟨rfl, hI, fun i_ x_ m_ _ _ h_ => RVA_ext w0.heap.size w.heap.size kA dA kN kC dN dC ys1 ys2 h_ (Chg.refl _ _)⟩
      unfold OpDoes
      go_simp
    · have e9 : ev (.tmp 9) = vals 3 := hv 3 9 (by kernel_rfl) (by kernel_rfl) (Nat.le_of_ble_eq_true (by kernel_rfl))
      have e11 : ev (.tmp 11) = .slice dA dN dC := (hv 5 11 (by kernel_rfl) (by kernel_rfl) (Nat.le_of_ble_eq_true (by kernel_rfl))).trans (hR 5 (by kernel_rfl))
      have g0 : OwnV w1 w0.heap.size (vals 3) ys1 := hR 3 (by kernel_rfl)
      obtain ⟨v1, w', hrun, ho, hg, hat⟩ := run_appVr (c := dC) g0 (H2.out.chg hI) HLEN.out hI.size
      refine does_value' (w' := w') (v := v1) (by simp only [execOp, e9, e11, resolve, invoke, builtin, List.map_toArray, List.map_cons, List.map_nil, Sem.run_bind, Sem.run_pure, Result.andThen_ok, hrun]) ⟨ho, hI.grown hg (fun k hk hlt => absurd (OwnV.ge g0 hk).1 (by omega)), fun i_ x_ m_ hne hk h_ => ?_⟩
      have hmem := keep_in [6, 8] (by kernel_rfl) (by kernel_rfl) (by kernel_rfl) hk
      simp only [List.mem_cons, List.not_mem_nil, or_false] at hmem
      rcases hmem with rfl | rfl
      · exact absurd rfl hne
      · exact h_
    · have e12 : ev (.tmp 12) = vals 6 := hv 6 12 (by kernel_rfl) (by kernel_rfl) (Nat.le_of_ble_eq_true (by kernel_rfl))
      obtain ⟨A6, c6, g6⟩ := OwnV.shape (hR 6 (by kernel_rfl) : OwnV w1 w0.heap.size (vals 6) (ys1 ++ ys2))
      rw [g6] at e12
      clear hR hv h0 hc g6
      refine Step.fixed (x := .int .i64 ((ys1 ++ ys2).length : Int)) ?_ ⟨rfl, hI, fun i_ x_ m_ _ _ h_ => RVA_ext w0.heap.size w.heap.size kA dA kN kC dN dC ys1 ys2 h_ (Chg.refl _ _)⟩
      generalize (ys1 ++ ys2).length = L at e12 ⊢
      unfold OpDoes
      go_simp
    · clear hR hv h0 hc
      refine Step.fixed (x := .int .i64 0) ?_ ⟨rfl, hI, fun i_ x_ m_ _ _ h_ => RVA_ext w0.heap.size w.heap.size kA dA kN kC dN dC ys1 ys2 h_ (Chg.refl _ _)⟩
      unfold OpDoes
      go_simp
  case fin =>
    intro vals c w3 hI hfin
    have h6 : OwnV w3 w0.heap.size (vals 6) (ys1 ++ ys2) := hfin 6 (by kernel_rfl) (by decide)
    have h7 : vals 7 = .int .i64 ((ys1 ++ ys2).length : Int) := hfin 7 (by kernel_rfl) (by decide)
    have h8 : vals 8 = .int .i64 0 := hfin 8 (by kernel_rfl) (by decide)
    obtain ⟨A6, c6, h66⟩ := OwnV.shape h6
    rw [h66] at h6
    have HCI := Lib.hid (HC.out.reads hI)
    have HO := Lib.hid h6
    clear hfin hI h6 C3 C5 H1 H2
    simp only [putAll, Act.put, List.setIfInBounds_toArray, List.set_cons_zero, List.set_cons_succ, Nat.reduceAdd]
    rw [h66, h7, h8]
    clear h66 h7 h8
    have HL : Hid ((ys1 ++ ys2).length ≤ 1000) := Lib.hid (by rw [List.length_append]; exact HLEN.out)
    obtain ⟨ys, hys⟩ : ∃ ys, ys1 ++ ys2 = ys := ⟨_, rfl⟩
    obtain ⟨L, hL⟩ : ∃ L, ys.length = L := ⟨_, rfl⟩
    rw [hys] at HO HL HHE ⊢
    rw [hL] at HO HL ⊢
    have HLL := Lib.hid hL
    have hl1000 := HL.out
    clear hys hL HLEN
    go_wp2_with fail
    go_loopw [3, 14] (fun nv i wr => (∃ z, nv = .int .i64 z) ∧ (∃ k : Nat, k ≤ L ∧ i = .int .i64 (k : Int)) ∧ Chg (fun _ => False) w3 wr) (fun _ i _ => L - (intOf i).toNat)
    case atStart => exact ⟨⟨1, rfl⟩, ⟨0, Nat.zero_le _, rfl⟩, Chg.refl _ _⟩
    case round =>
      obtain ⟨⟨z, rfl⟩, ⟨k, hk, rfl⟩, hCr⟩ := hrel
      have HCR := Lib.hid hCr
      clear hCr
      rcases Nat.lt_or_ge k L with hlt | hge
      · have hys0 : ys ≠ [] := fun h => by have := HLL.out; rw [h] at this; simp at this; omega
        obtain ⟨g, cc, hv, hg1, hg2, hcl⟩ := OwnV.at (v := .slice A6 L c6) HO.out hys0
        injection hv with e1 e2 e3
        have hkx : k < ys.length := by rw [HLL.out]; exact hlt
        obtain ⟨q0, q1, q2, q3, q4, q5⟩ := (hcl k _ (List.getElem?_eq_getElem hkx)).chg HCR.out (fun h => h)
        have HX := Lib.hid (HHE.out _ (List.getElem_mem hkx))
        generalize ys[k] = x at q0 q1 q2 q3 q4 q5 HX
        have d1 : decide ((k : Int) < (L : Int)) = true := by simp; omega
        have k0 : (0 : Int) ≤ (k : Int) := by omega
        have kl : (k : Int) < (L : Int) := by omega
        clear hcl hys0 hkx e2 e3 hg1 hg2
        subst e1
        go_upto_region 5 with (fail)
        clear q0 q1 q2 q3 q4 q5
        refine wp_any_world (fun w' => Chg (fun _ => False) wr w' ∧ w'.heap[wr.heap.size]? = some (.cells #[.int .i64 x.kd, .int .u64 (x.nm : Int), .string x.tx, .slice x.kA x.kN x.kC, .int .i64 x.of_, .slice x.dA 0 x.dC] 81 (0, 0))) ⟨(Chg.refl _ wr).alloc _, heap_alloc_new _ _⟩ ?_
        rintro w5 ⟨hC5, hb5⟩
        have HC5 := Lib.hid (HCR.out.reads hC5)
        have y0 := blk_cell (k := 0) hb5 rfl
        have y1 := blk_cell (k := 1) hb5 rfl
        have y2 := blk_cell (k := 2) hb5 rfl
        have y3 := blk_cell (k := 3) hb5 rfl
        have y4 := blk_cell (k := 4) hb5 rfl
        have y5 := blk_cell (k := 5) hb5 rfl
        clear hC5 hb5
        go_wp2_with fail
        refine (HX.out _).mono ?_
        rintro _ w6 ⟨z6, rfl, hC6⟩
        have HC6 := Lib.hid (HC5.out.reads hC6)
        clear hC6 y0 y1 y2 y3 y4 y5
        go_wp2_with fail
        go_roundw
        case rel => exact ⟨⟨_, rfl⟩, ⟨k + 1, hlt, by go_num⟩, HC6.out⟩
        case measure => simp [intOf]; omega
      · obtain rfl : k = L := by omega
        have d1 : decide ((k : Int) < (k : Int)) = false := by simp
        go_wp2_with fail
        go_ret
        exact ⟨z, rfl, HCI.out.reads HCR.out⟩
/-- Values of a flat value. -/
theorem vals_flat (x : FV) (hk : x.kN = 0) (w : World) : Calls Tryz.prog 43 #[.agg #[.int .i64 x.kd, .int .u64 (x.nm : Int), .string x.tx, .slice x.kA x.kN x.kC, .int .i64 x.of_, .slice x.dA 0 x.dC]] w (AnyI w) :=
  vals_body (ys1 := []) (ys2 := []) ⟨hk, fun h => absurd rfl h⟩ ⟨rfl, fun h => absurd rfl h⟩ (by decide) (fun x hx => by cases hx)
end Go.Proofs.S
namespace Go.Proofs.S
open Go.RowKit Go.Maps
/-- What the checks are asked of a field. -/
structure FVOk (x : FV) : Prop where
  kind : x.kd = 0 ∨ x.kd = 4 ∨ x.kd = 5 ∨ x.kd = 16 ∨ x.kd = 17 ∨ x.kd = 18 ∨ x.kd = 19 ∨ x.kd = 20
  num : x.nm < U64
  len : x.tx.size ≤ 9223372036854775807
  kids : x.kN ≤ 9223372036854775807
theorem vf_any {x : FV} (h : FVOk x) {w : World} (hV : ValidOk w) : Calls Tryz.prog 69 #[.agg #[.int .i64 x.kd, .int .u64 (x.nm : Int), .string x.tx, .slice x.kA x.kN x.kC, .int .i64 x.of_, .slice x.dA 0 x.dC], .int .i64 7] w (FitB x.kd x.nm x.tx x.kN w) := by
  obtain ⟨kd, nm, tx, kA, kN, kC, of_, dA, dC⟩ := x
  obtain ⟨hk, hn, hl, hK⟩ := h
  simp only at hk hn hl hK
  rcases hk with rfl | rfl | rfl | rfl | rfl | rfl | rfl | rfl
  · exact vf_0 nm tx kA dA kN kC dC of_ w hn hl hK
  · exact vf_4 nm tx kA dA kN kC dC of_ w hn hl hK
  · exact vf_5 nm tx kA dA kN kC dC of_ w hn hl hK
  · exact vf_16 nm tx kA dA kN kC dC of_ w hn hl hK
  · exact vf_17 nm tx kA dA kN kC dC of_ w hn hl hK
  · exact vf_18 nm tx kA dA kN kC dC of_ w hn hl hK
  · exact vf_19 nm tx kA dA kN kC dC of_ w hn hl hK hV
  · exact vf_20 nm tx kA dA kN kC dC of_ w hn hl hK
def ListB (F : Nat → FV) (n : Nat) (w : World) (e : Ending) (w' : World) : Prop := ∃ b, e = .returned (.bool b) ∧ Chg (fun _ => False) w w' ∧ (b = true → ∀ j, j < n → FitOk (F j).kd (F j).nm (F j).tx (F j).kN)
set_option maxHeartbeats 8000000 in
set_option maxRecDepth 1000000 in
/-- valueFits of the list. -/
theorem vlist_calls {F : Nat → FV} {n : Nat} (hn : n ≤ 13) {kg kC dg : Nat} {w : World} (hk : ∀ j, j < n → FVAt w kg (j * 6) (F j)) (hd : FVAt w dg 0 FD) (hX : ∀ j, j < n → FVOk (F j)) (hV : ValidOk w) :
    Calls Tryz.prog 69 #[.agg #[.int .i64 21, .int .u64 0, .string ⟨#[]⟩, .slice (some ⟨kg, 0, none⟩) n kC, .int .i64 0, .slice (some ⟨dg, 0, none⟩) 1 1], .int .i64 8] w (ListB F n w) := by
  have HK := Lib.hid hk; have HD := Lib.hid hd; have HX := Lib.hid hX; have HV := Lib.hid hV
  have hc0 : Chg (fun _ => False) w (w.alloc (.cells #[.int .i64 21, .int .u64 0, .string ⟨#[]⟩, .slice (some ⟨kg, 0, none⟩) n kC, .int .i64 0, .slice (some ⟨dg, 0, none⟩) 1 1] 81)) := (Chg.refl _ w).alloc _
  have hb0 := heap_alloc_new w (.cells #[.int .i64 21, .int .u64 0, .string ⟨#[]⟩, .slice (some ⟨kg, 0, none⟩) n kC, .int .i64 0, .slice (some ⟨dg, 0, none⟩) 1 1] 81)
  have hq : decide ((n : Int) > 1000) = false := by simp; omega
  clear hk hd hX hV
  go_enter Tryz.func69, Tryz.ntmps69
  go_upto_region 1 with (fail)
  refine wp_any_world (fun w' => Chg (fun _ => False) w w' ∧ w'.heap[w.heap.size]? = some (.cells #[.int .i64 21, .int .u64 0, .string ⟨#[]⟩, .slice (some ⟨kg, 0, none⟩) n kC, .int .i64 0, .slice (some ⟨dg, 0, none⟩) 1 1] 81 (0, 0))) ⟨hc0, hb0⟩ ?_
  clear hc0 hb0
  rintro w1 ⟨hC, hb⟩
  have HC := Lib.hid hC; have HB := Lib.hid hb
  have z0 := blk_cell (k := 0) hb rfl
  have z1 := blk_cell (k := 1) hb rfl
  have z2 := blk_cell (k := 2) hb rfl
  have z3 := blk_cell (k := 3) hb rfl
  have z4 := blk_cell (k := 4) hb rfl
  have z5 := blk_cell (k := 5) hb rfl
  obtain ⟨d0, d1, d2, d3, d4, d5⟩ := HD.out.chg hC (fun h => h)
  simp only [FD, Nat.zero_add] at d0 d1 d2 d3 d4 d5
  clear hC hb
  go_wp2_with fail
  refine (vf_5 115 ⟨#[]⟩ none none 0 0 0 0 _ (by decide) (by decide) (by decide)).mono ?_
  rintro _ w2 ⟨b, rfl, hC2, _⟩
  have HC2 := Lib.hid (HC.out.reads hC2)
  have HB2 := Lib.hid (hC2.blkF HB.out)
  clear d0 d1 d2 d3 d4 d5 hC2 z0 z1 z2 z3 z4 z5
  cases b with
  | false =>
    go_wp2_with fail
    go_ret
    exact ⟨false, rfl, HC2.out, fun h => (Bool.noConfusion h)⟩
  | true =>
  have z0 := blk_cell (k := 0) HB2.out rfl
  have z1 := blk_cell (k := 1) HB2.out rfl
  have z2 := blk_cell (k := 2) HB2.out rfl
  have z3 := blk_cell (k := 3) HB2.out rfl
  have z4 := blk_cell (k := 4) HB2.out rfl
  have z5 := blk_cell (k := 5) HB2.out rfl
  obtain ⟨d0, d1, d2, d3, d4, d5⟩ := HD.out.chg HC2.out (fun h => h)
  simp only [FD, Nat.zero_add] at d0 d1 d2 d3 d4 d5
  go_wp2_with fail
  clear d0 d1 d2 d3 d4 d5 z0 z1 z2 z3 z4 z5
  go_loopw [149] (fun i wr => (∃ k : Nat, k ≤ n ∧ i = .int .i64 (k : Int) ∧ ∀ j, j < k → FitOk (F j).kd (F j).nm (F j).tx (F j).kN) ∧ Chg (fun _ => False) w2 wr) (fun i _ => n - (intOf i).toNat)
  case atStart => exact ⟨⟨0, Nat.zero_le _, rfl, fun j hj => absurd hj (Nat.not_lt_zero _)⟩, Chg.refl _ _⟩
  case round =>
    obtain ⟨⟨k, hkn, rfl, hfit⟩, hCr⟩ := hrel
    have HFIT := Lib.hid hfit; have HCR := Lib.hid hCr
    clear hfit hCr
    rcases Nat.lt_or_ge k n with hlt | hge
    · have hd1 : decide ((k : Int) < (n : Int)) = true := by simp; omega
      obtain ⟨q0, q1, q2, q3, q4, q5⟩ := (HK.out k hlt).chg (HC2.out.reads HCR.out) (fun h => h)
      have hk0 : (0 : Int) ≤ (k : Int) := by omega
      have hkl : (k : Int) < (n : Int) := by omega
      go_upto_region 11 with (fail)
      clear q0 q1 q2 q3 q4 q5
      refine wp_any_world (fun w' => Chg (fun _ => False) wr w' ∧ w'.heap[wr.heap.size]? = some (.cells #[.int .i64 (F k).kd, .int .u64 ((F k).nm : Int), .string (F k).tx, .slice (F k).kA (F k).kN (F k).kC, .int .i64 (F k).of_, .slice (F k).dA 0 (F k).dC] 81 (0, 0))) ⟨(Chg.refl _ wr).alloc _, heap_alloc_new _ _⟩ ?_
      rintro w3 ⟨hC3, hb3⟩
      have HC3 := Lib.hid ((HC2.out.reads HCR.out).reads hC3)
      have HCR3 := Lib.hid (HCR.out.reads hC3)
      have y0 := blk_cell (k := 0) hb3 rfl
      have y1 := blk_cell (k := 1) hb3 rfl
      have y2 := blk_cell (k := 2) hb3 rfl
      have y3 := blk_cell (k := 3) hb3 rfl
      have y4 := blk_cell (k := 4) hb3 rfl
      have y5 := blk_cell (k := 5) hb3 rfl
      clear hC3 hb3
      go_wp2_with fail
      refine (vf_any (HX.out k hlt) (HV.out.ext HC3.out)).mono ?_
      rintro _ w4 ⟨b, rfl, hC4, hfk⟩
      have HC4 := Lib.hid (HC3.out.reads hC4); have HCR4 := Lib.hid (HCR3.out.reads hC4); have HFK := Lib.hid hfk
      clear hC4 hfk y0 y1 y2 y3 y4 y5
      cases b with
      | false =>
        go_wp2_with fail
        go_ret
        exact ⟨false, rfl, HC4.out, fun h => (Bool.noConfusion h)⟩
      | true =>
        go_wp2_with fail
        go_roundw
        case rel =>
          refine ⟨⟨k + 1, hlt, by go_num, fun j hj => ?_⟩, HCR4.out⟩
          rcases Nat.lt_or_ge j k with h1 | h1
          · exact HFIT.out j h1
          · obtain rfl : j = k := by omega
            exact HFK.out (by trivial)
        case measure => simp [intOf]; omega
    · obtain rfl : k = n := by omega
      have hd1 : decide ((k : Int) < (k : Int)) = false := by simp
      have hbr := HCR.out.blkF HB2.out
      have z0 := blk_cell (k := 0) hbr rfl
      have z1 := blk_cell (k := 1) hbr rfl
      have z2 := blk_cell (k := 2) hbr rfl
      have z3 := blk_cell (k := 3) hbr rfl
      have z4 := blk_cell (k := 4) hbr rfl
      have z5 := blk_cell (k := 5) hbr rfl
      clear hbr
      go_wp2_with fail
      refine (cf_21 0 ⟨#[]⟩ (some ⟨kg, 0, none⟩) (some ⟨dg, 0, none⟩) k kC 1 1 _).mono ?_
      rintro _ w5 ⟨rfl, hC5⟩
      have HC5 := Lib.hid ((HC2.out.reads HCR.out).reads hC5)
      clear hC5 z0 z1 z2 z3 z4 z5
      go_wp2_with fail
      go_ret
      exact ⟨true, rfl, HC5.out, fun _ => HFIT.out⟩
set_option maxHeartbeats 8000000 in
set_option maxRecDepth 1000000 in
/-- ValueFits of the list. -/
theorem valueFits_calls {F : Nat → FV} {n : Nat} (hn : n ≤ 13) {kg kC dg : Nat} {w : World} (hk : ∀ j, j < n → FVAt w kg (j * 6) (F j)) (hd : FVAt w dg 0 FD) (hX : ∀ j, j < n → FVOk (F j)) (hT : ∀ j, j < n → ∃ d, Tree w d (F j).kA (F j).kN) (hV : ValidOk w) :
    Calls Tryz.prog 42 #[.agg #[.int .i64 21, .int .u64 0, .string ⟨#[]⟩, .slice (some ⟨kg, 0, none⟩) n kC, .int .i64 0, .slice (some ⟨dg, 0, none⟩) 1 1], .int .i64 8] w (ListB F n w) := by
  have HK := Lib.hid hk; have HD := Lib.hid hd; have HX := Lib.hid hX; have HT := Lib.hid hT; have HV := Lib.hid hV
  have h2 := new2 w (.cells #[.int .i64 21, .int .u64 0, .string ⟨#[]⟩, .slice (some ⟨kg, 0, none⟩) n kC, .int .i64 0, .slice (some ⟨dg, 0, none⟩) 1 1] 81) (.cells #[.int .i64 2000] 3)
  clear hk hd hX hT hV
  go_enter Tryz.func42, Tryz.ntmps42
  go_upto_region 2 with (fail)
  refine wp_any_world (fun w' => Chg (fun _ => False) w w' ∧ w'.heap[w.heap.size]? = some (.cells #[.int .i64 21, .int .u64 0, .string ⟨#[]⟩, .slice (some ⟨kg, 0, none⟩) n kC, .int .i64 0, .slice (some ⟨dg, 0, none⟩) 1 1] 81 (0, 0)) ∧ LeftAt w' (w.heap.size + 1) 2000) h2 ?_
  clear h2
  rintro w1 ⟨hC, hb, hL⟩
  have HC := Lib.hid hC; have HB := Lib.hid hb; have HL := Lib.hid hL
  have z0 := blk_cell (k := 0) hb rfl
  have z1 := blk_cell (k := 1) hb rfl
  have z2 := blk_cell (k := 2) hb rfl
  have z3 := blk_cell (k := 3) hb rfl
  have z4 := blk_cell (k := 4) hb rfl
  have z5 := blk_cell (k := 5) hb rfl
  clear hC hb hL
  have HEK : Hid (Elem w (some ⟨kg, 0, none⟩) n) := Lib.hid (fun i hi => by
    have hx := HK.out i hi
    obtain ⟨d, ht⟩ := HT.out i hi
    refine ⟨kg, 0, rfl, (F i).kd, (F i).nm, (F i).tx, (F i).kA, (F i).kN, (F i).kC, (F i).of_, (F i).dA, 0, (F i).dC, by rw [Nat.zero_add]; exact hx.c0, by rw [Nat.zero_add]; exact hx.c1, by rw [Nat.zero_add]; exact hx.c2, by rw [Nat.zero_add]; exact hx.c3, by rw [Nat.zero_add]; exact hx.c4, by rw [Nat.zero_add]; exact hx.c5, fun w2 l z hC hl hL h0 h1 => ?_⟩
    exact few_body ht.le (by decide) (elem_of_tree d _ _ ht) (fun j hj => absurd hj (Nat.not_lt_zero _)) w2 l z hC hl hL h0 h1)
  have HED : Hid (Elem w (some ⟨dg, 0, none⟩) 1) := Lib.hid (fun i hi => by
    obtain rfl : i = 0 := by omega
    have hx := HD.out
    refine ⟨dg, 0, rfl, 5, 115, ⟨#[]⟩, none, 0, 0, 0, none, 0, 0, hx.c0, hx.c1, hx.c2, hx.c3, hx.c4, hx.c5, fun w2 l z hC hl hL h0 h1 => ?_⟩
    exact few_body (by decide) (by decide) (fun j hj => absurd hj (Nat.not_lt_zero _)) (fun j hj => absurd hj (Nat.not_lt_zero _)) w2 l z hC hl hL h0 h1)
  go_wp2_with fail
  refine (few_body (u := 0) (by omega) (by decide) HEK.out HED.out _ (w.heap.size + 1) 2000 HC.out (by omega) HL.out (by decide) (by decide)).mono ?_
  rintro _ w2 ⟨b, z', rfl, _, _, hC2, hC02⟩
  have HC2 := Lib.hid hC02
  have HB2 := Lib.hid (hC2.blk HB.out (fun h => absurd (show w.heap.size = w.heap.size + 1 from h) (by omega)))
  clear hC2 hC02 z0 z1 z2 z3 z4 z5
  cases b with
  | false =>
    go_wp2_with fail
    go_ret
    exact ⟨false, rfl, HC2.out, fun h => (Bool.noConfusion h)⟩
  | true =>
  have z0 := blk_cell (k := 0) HB2.out rfl
  have z1 := blk_cell (k := 1) HB2.out rfl
  have z2 := blk_cell (k := 2) HB2.out rfl
  have z3 := blk_cell (k := 3) HB2.out rfl
  have z4 := blk_cell (k := 4) HB2.out rfl
  have z5 := blk_cell (k := 5) HB2.out rfl
  go_wp2_with fail
  refine (vlist_calls hn (fun j hj => (HK.out j hj).chg HC2.out (fun h => h)) (HD.out.chg HC2.out (fun h => h)) HX.out (HV.out.ext HC2.out)).mono ?_
  rintro _ w3 ⟨b, rfl, hC3, hf⟩
  have HC3 := Lib.hid (HC2.out.reads hC3); have HF := Lib.hid hf
  clear hC3 hf z0 z1 z2 z3 z4 z5
  go_wp2_with fail
  go_ret
  exact ⟨b, rfl, HC3.out, HF.out⟩
set_option maxHeartbeats 8000000 in
set_option maxRecDepth 1000000 in
/-- (Composite).Fits. -/
theorem fits_calls {F : Nat → FV} {n : Nat} (hn1 : 1 ≤ n) (hn : n ≤ 13) {g cC : Nat} {w : World} (hk : ∀ j, j < n → FVAt w g (j * 12) (F j) ∧ FVAt w g (j * 12 + 6) FV0) (hX : ∀ j, j < n → FVOk (F j)) (hT : ∀ j, j < n → ∃ d, Tree w d (F j).kA (F j).kN) (hV : ValidOk w) :
    Calls Tryz.prog 12 #[.agg #[.int .u64 115, .slice (some ⟨g, 0, none⟩) n cC]] w (ListB F n w) := by
  have HX := Lib.hid hX; have HT := Lib.hid hT; have HV := Lib.hid hV
  have hA : Chg (fun _ => False) w (w.alloc (.cells #[.int .u64 115, .slice (some ⟨g, 0, none⟩) n cC] 35)) := (Chg.refl _ w).alloc _
  have HK : Hid (∀ j, j < n → FVAt (w.alloc (.cells #[.int .u64 115, .slice (some ⟨g, 0, none⟩) n cC] 35)) g (j * 12) (F j) ∧ FVAt (w.alloc (.cells #[.int .u64 115, .slice (some ⟨g, 0, none⟩) n cC] 35)) g (j * 12 + 6) FV0) := Lib.hid (fun j hj => ⟨(hk j hj).1.chg hA (fun h => h), (hk j hj).2.chg hA (fun h => h)⟩)
  have HA := Lib.hid hA
  clear hk hX hT hV hA
  go_enter Tryz.func12, Tryz.ntmps12
  go_wp2_with fail
  refine (whole_calls hn1 hn HK.out).mono ?_
  rintro _ w1 ⟨kg, kC, dg, xs, rfl, hO, hxl, hxs, hdg, hdk, hFD, hC⟩
  have HC1 := Lib.hid (HA.out.reads hC)
  have HKI := Lib.hid (whole_kids hO hxl hxs hn1); have HXL := Lib.hid hxl; have HXS := Lib.hid hxs; have HFD := Lib.hid hFD
  clear hO hxl hxs hdg hdk hFD hC
  go_upto_region 2 with (fail)
  refine wp_any_world (fun w' => Chg (fun _ => False) w1 w' ∧ w'.heap[w1.heap.size]? = some (.cells #[.int .i64 21, .int .u64 0, .string ⟨#[]⟩, .slice (some ⟨kg, 0, none⟩) n kC, .int .i64 0, .slice (some ⟨dg, 0, none⟩) 1 1] 81 (0, 0))) ⟨(Chg.refl _ w1).alloc _, heap_alloc_new _ _⟩ ?_
  rintro w2 ⟨hC2, hb⟩
  have HC2 := Lib.hid (HC1.out.reads hC2); have HC12 := Lib.hid hC2; have HB := Lib.hid hb
  have z0 := blk_cell (k := 0) hb rfl
  have z1 := blk_cell (k := 1) hb rfl
  have z2 := blk_cell (k := 2) hb rfl
  have z3 := blk_cell (k := 3) hb rfl
  have z4 := blk_cell (k := 4) hb rfl
  have z5 := blk_cell (k := 5) hb rfl
  clear hC2 hb
  go_wp2_with fail
  refine (valueFits_calls hn (fun j hj => (HKI.out j hj).chg HC12.out (fun h => h)) (HFD.out.chg HC12.out (fun h => h)) HX.out (fun j hj => (HT.out j hj).elim fun d h => ⟨d, Tree.ext HC2.out _ _ _ h⟩) (HV.out.ext HC2.out)).mono ?_
  rintro _ w3 ⟨b, rfl, hC3, hf⟩
  have HC3 := Lib.hid (HC2.out.reads hC3); have HC13 := Lib.hid (HC12.out.reads hC3); have HF := Lib.hid hf
  have HB3 := Lib.hid (hC3.blkF HB.out)
  clear hC3 hf z0 z1 z2 z3 z4 z5
  cases b with
  | false =>
    go_wp2_with fail
    go_ret
    exact ⟨false, rfl, HC3.out, fun h => (Bool.noConfusion h)⟩
  | true =>
  have z0 := blk_cell (k := 0) HB3.out rfl
  have z1 := blk_cell (k := 1) HB3.out rfl
  have z2 := blk_cell (k := 2) HB3.out rfl
  have z3 := blk_cell (k := 3) HB3.out rfl
  have z4 := blk_cell (k := 4) HB3.out rfl
  have z5 := blk_cell (k := 5) HB3.out rfl
  have HFT := Lib.hid (HF.out rfl)
  have HR1 : Hid (RdV w3 (some ⟨kg, 0, none⟩) n xs) := Lib.hid ⟨HXL.out.symm, fun _ => ⟨kg, 0, rfl, fun j x hj => by
    have hjn : j < n := by have h1 := (List.getElem?_eq_some_iff.1 hj).1; have := HXL.out; omega
    have h2 := HXS.out j hjn
    rw [hj] at h2
    injection h2 with h2
    rw [h2, Nat.zero_add]
    exact (HKI.out j hjn).chg HC13.out (fun h => h)⟩⟩
  have HR2 : Hid (RdV w3 (some ⟨dg, 0, none⟩) 1 [FD]) := Lib.hid ⟨rfl, fun _ => ⟨dg, 0, rfl, fun j x hj => by
    have hj0 : j = 0 := by have h1 := (List.getElem?_eq_some_iff.1 hj).1; simp at h1; exact h1
    subst hj0
    simp at hj
    subst hj
    exact HFD.out.chg HC13.out (fun h => h)⟩⟩
  have HKN : Hid (∀ x, x ∈ xs ++ [FD] → x.kN = 0) := Lib.hid (fun x hx => by
    rcases List.mem_append.1 hx with h | h
    · obtain ⟨j, hj⟩ := List.getElem?_of_mem h
      have hjn : j < n := by have h1 := (List.getElem?_eq_some_iff.1 hj).1; have := HXL.out; omega
      have h2 := HXS.out j hjn
      rw [hj] at h2
      injection h2 with h2
      rw [h2]
      exact (HFT.out j hjn).1
    · rw [List.mem_singleton.1 h]; rfl)
  clear HF
  go_wp2_with fail
  refine (vals_body (u := 0) HR1.out HR2.out (by have := HXL.out; simp only [List.length_cons, List.length_nil]; omega) (fun x hx w' => vals_flat x (HKN.out x hx) w')).mono ?_
  rintro _ w4 ⟨z, rfl, hC4⟩
  have HC4 := Lib.hid (HC3.out.reads hC4)
  clear hC4 z0 z1 z2 z3 z4 z5
  go_wp2_with fail
  go_ret
  exact ⟨_, rfl, HC4.out, fun _ => HFT.out⟩
end Go.Proofs.S
