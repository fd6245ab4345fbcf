/- The writer writes a list with its descriptor: for lists of plain values. -/
import Derived.Test.YtoilepadamfacaaGreatDoorD14
set_option linter.unusedVariables false
set_option linter.unusedSimpArgs false
namespace Go.Proofs.S
open Go.RowKit Go.Maps
theorem own8_lt {w : World} {base k : Nat} {v : Value} {l : List UInt8} (h : Own8 w base v l) (hk : v.ownBlock = some k) : k < w.heap.size := by
  rcases h.2 with ⟨rfl, _⟩ | ⟨g, cap, cur, rfl, hg, hh, _⟩
  · cases hk
  · simp only [Value.ownBlock, Option.some.injEq] at hk
    subst hk
    exact (Array.getElem?_eq_some_iff.1 hh).1
theorem flat_len {b : Nat} : ∀ (encs : List (List UInt8)), (∀ j, j < encs.length → (encs.getD j []).length ≤ b) → encs.flatten.length ≤ encs.length * b
  | [], _ => by simp
  | e :: es, h => by
    have h0 := h 0 (by simp)
    have := flat_len es (fun j hj => by have := h (j + 1) (by simpa using hj); simpa using this)
    simp only [List.getD_cons_zero] at h0
    rw [List.flatten_cons, List.length_append, List.length_cons, Nat.add_one_mul]
    omega
theorem EncL_len {encs : List (List UInt8)} {enc : List UInt8} (h : EncL encs enc) : enc.length ≤ encs.flatten.length + 9 := by
  rcases h with ⟨rfl, rfl⟩ | ⟨s, k, _, _, rfl⟩ | ⟨s0, s1, s2, s3, k0, k1, k2, k3, _, _, rfl⟩
  · simp
  · simp only [List.length_cons]; omega
  · simp only [List.length_cons]; omega
set_option maxHeartbeats 4000000 in
set_option maxRecDepth 1000000 in
theorem put_list {F : Nat → FV} {m : Nat} (hF : ∀ j, j < m → FlatV (F j).kd (F j).nm (F j).tx) (hm : m ≤ 13) {X : FV} (hX : FlatV X.kd X.nm X.tx) {kg dg : Nat} {kC dC' : Nat} {u : Int} {tx : ByteArray} {o : Int} {f : Nat} {w : World} (hf : FormAt w f) (hkf : kg ≠ f) (hdf : dg ≠ f) (hk : ∀ j, j < m → FVAt w kg (j * 6) (F j)) (hx : FVAt w dg 0 X) :
    Calls Tryz.prog 37 #[.agg #[.int .i64 21, .int .u64 u, .string tx, .slice (some ⟨kg, 0, none⟩) m kC, .int .i64 o, .slice (some ⟨dg, 0, none⟩) 1 dC'], .pointer (some ⟨f, 0, none⟩)] w fun e w' => ∃ v dbs encs enc, e = .returned v ∧ Own8 w' w.heap.size v (0 :: (dbs ++ enc)) ∧ EncV X.kd X.nm X.tx.data.toList dbs ∧ encs.length = m ∧ (∀ j, j < m → EncV (F j).kd (F j).nm (F j).tx.data.toList (encs.getD j [])) ∧ EncL encs enc ∧ FormAt w' f ∧ Chg (· = f) w w' := by
  have HFF := Lib.hid hF; have HXX := Lib.hid hX; have HFO := Lib.hid hf; have HK := Lib.hid hk; have HX := Lib.hid hx
  have hfl := hf.lt
  clear hF hX hf hk hx
  go_enter Tryz.func37, Tryz.ntmps37
  go_upto_region 1 with (fail)
  refine wp_any_world (fun w' => Chg (fun _ => False) w w' ∧ w'.heap[w.heap.size]? = some (.cells #[.int .i64 21, .int .u64 u, .string tx, .slice (some ⟨kg, 0, none⟩) m kC, .int .i64 o, .slice (some ⟨dg, 0, none⟩) 1 dC'] 81 (0, 0))) ⟨(Chg.refl _ w).alloc _, heap_alloc_new _ _⟩ ?_
  rintro w0 ⟨hC0, hbx⟩
  have HC0 := Lib.hid hC0; have HBX := Lib.hid hbx
  have hs0 : w.heap.size < w0.heap.size := (Array.getElem?_eq_some_iff.1 hbx).1
  obtain ⟨q0, q1, q2, q3, q4, q5⟩ := HX.out.chg (hC0.alloc (.cells #[.int .u8 0] 5)) (fun h => h)
  simp only [Nat.zero_add] at q1 q2 q3 q4 q5
  have z5 := blk_cell (k := 5) hbx rfl
  clear hC0 hbx
  have HA0 : Hid (FormAt (w0.alloc (.cells #[.int .u8 0] 5)) f) := Lib.hid (HFO.out.chg (HC0.out.alloc _) (fun h => h))
  go_wp2_with fail
  refine (put_FV HXX.out HA0.out).mono ?_
  rintro _ w1 ⟨bv, dbs, rfl, hbv, hdenc, hF1, hC1⟩
  obtain ⟨bA, bn, bc, rfl⟩ := hbv.slice
  have hs1 : w0.heap.size + 1 ≤ w1.heap.size := by have := hC1.size; simp at this; omega
  have HOV0 : Hid (Own8 w1 w.heap.size (.slice (some ⟨w0.heap.size, 0, none⟩) 1 1) [0]) := Lib.hid (Own8.base_le ((own8_lit w0 (w.heap.size + 1) hs0 [0] (by simp [maxLen])).chg hC1 (fun k h => by subst h; omega)) (Nat.le_succ _))
  have HC1 := Lib.hid hC1.from_alloc
  have HDL : Hid (dbs.length ≤ 200009) := Lib.hid (by have := EncV_len HXX.out hdenc; have := HXX.out.len; omega)
  have HDE := Lib.hid hdenc; have HBV := Lib.hid hbv; have HF1 := Lib.hid hF1
  clear hC1 hdenc hbv hF1 q0 q1 q2 q3 q4 q5 z5
  obtain ⟨v1, w2, hrun, ho, hg, hat⟩ := run_app8' HOV0.out (Bs.of_own HBV.out) (by have := HDL.out; simp only [List.length_cons, List.length_nil]; omega) (by omega)
  have HC2 : Hid (Chg (fun b => w0.heap.size ≤ b) w1 w2) := Lib.hid ((Chg.refl _ w1).grown hg (fun k hk _ => by simp only [Value.ownBlock, Option.some.injEq] at hk; omega))
  have HRUN := Lib.hid hrun; have HO := Lib.hid ho
  obtain ⟨oA, oN, oC, rfl⟩ := ho.slice
  have HC02 : Hid (Chg (· = f) w w2) := Lib.hid ((HC0.out.any.reads HC1.out).trans HC2.out (fun i hi h => absurd hi (by omega)))
  have HF2 := Lib.hid (HF1.out.chg HC2.out (by omega))
  have HBX2 := Lib.hid ((HC1.out.blk HBX.out (by omega)).symm.trans ((HC1.out.blk HBX.out (by omega))))
  have HB2 := Lib.hid (HC2.out.blk (HC1.out.blk HBX.out (by omega)) (by omega))
  have HK2 : Hid (∀ j, j < m → FVAt w2 kg (j * 6) (F j)) := Lib.hid (fun j hj => (HK.out j hj).chg HC02.out hkf)
  have z0 := blk_cell (k := 0) HB2.out rfl
  have z1 := blk_cell (k := 1) HB2.out rfl
  have z2 := blk_cell (k := 2) HB2.out rfl
  have z3 := blk_cell (k := 3) HB2.out rfl
  have z4 := blk_cell (k := 4) HB2.out rfl
  have z5 := blk_cell (k := 5) HB2.out rfl
  clear hrun ho hg hat HBX2
  go_wp2_with (at_builtin; refine wpList_app HRUN.out rfl rfl rfl rfl rfl ?_)
  refine (pieces_list HFF.out hm rfl HF2.out hkf HK2.out).mono ?_
  rintro _ w3 ⟨v, encs, rfl, hel, henc, hP, hF3, hC3⟩
  obtain ⟨gv, lv, cv, rfl, hg1, hg2, hl1, hl2, hl3, hcells⟩ := hP.at
  have HF3 := Lib.hid hF3; have HC3 := Lib.hid hC3; have HCE := Lib.hid hcells; have HEL := Lib.hid hel; have HEE := Lib.hid henc
  clear hP hC3 hcells hF3 hel henc z0 z1 z2 z3 z4 z5
  go_wp2_with fail
  refine (pick_calls HF3.out lv hl1 (by omega)).mono ?_
  rintro _ w4 ⟨r, rfl, hr, hF4, hC4⟩
  obtain ⟨code, dv, data, k1, k2, hD, bc, rfl, henc⟩ := HCE.out r hr
  obtain ⟨dA, dN, dC, rfl⟩ := hD.slice
  have hs2 : w.heap.size ≤ w2.heap.size := HC02.out.size
  have hs3 := HC3.out.size
  have hs4 := hC4.size
  have hgf : gv ≠ f := by omega
  have y0 : w4.cell? ⟨gv, r * 2, none⟩ = some (.int .i64 (bc.toNat : Int)) := hC4.cell k1 hgf
  have y1 : w4.cell? ⟨gv, r * 2 + 1, none⟩ = some (.slice dA dN dC) := hC4.cell k2 hgf
  have hD4 := hD.move (w1 := w4) (fun g cs fr hg hh => hC4.block g (Array.getElem?_eq_some_iff.1 hh).1 (by omega))
  have hri : (r : Int) < (lv : Int) := by omega
  have hr0 : (0 : Int) ≤ (r : Int) := by omega
  have HC24 := Lib.hid (HC3.out.reads hC4)
  have HF4 := Lib.hid hF4; have HD4 := Lib.hid hD4; have HEN := Lib.hid henc
  have HOV4 : Hid (Own8 w4 w.heap.size (.slice oA oN oC) ([0] ++ dbs)) := Lib.hid (HO.out.chg HC24.out (fun k h => by subst h; exact hfl))
  clear k1 k2 hD hD4 hF4 hC4 henc HCE
  go_upto_region 6 with (fail)
  refine wp_any_world (fun w' => Chg (fun _ => False) w4 w' ∧ w'.heap[w4.heap.size]? = some (.cells #[.int .i64 (bc.toNat : Int), .slice dA dN dC] 154 (0, 0))) ⟨(Chg.refl _ w4).alloc _, heap_alloc_new _ _⟩ ?_
  rintro wR ⟨hR4, hpb⟩
  have x0 := blk_cell (k := 0) hpb rfl
  have x1 := blk_cell (k := 1) hpb rfl
  have HRC := Lib.hid ((HC02.out.reads HC24.out).reads hR4.any)
  have HRF := Lib.hid (HF4.out.chg hR4 (fun h => h))
  have HDATA := Lib.hid (HD4.out.move (fun g cs fr _ hh => hR4.block g (Array.getElem?_eq_some_iff.1 hh).1 (fun h => h)))
  have HOV := Lib.hid (Own8.ext HOV4.out hR4)
  have HBP : Hid (∀ g, (Value.slice oA oN oC).ownBlock = some g → g < w2.heap.size) := Lib.hid (fun g hg => own8_lt HO.out hg)
  have HPB : Hid (¬ (Value.slice oA oN oC).ownBlock = some w4.heap.size) := Lib.hid (fun h => by have := HBP.out _ h; omega)
  have HB1 : w.heap.size ≤ wR.heap.size := HRC.out.size
  have HFLN : Hid (encs.flatten.length ≤ 13 * 200009) := Lib.hid (by
    have h1 := flat_len (b := 200009) encs (fun j hj => by
      have hj' : j < m := by have := HEL.out; omega
      have := EncV_len (HFF.out j hj') (HEE.out j hj'); have := (HFF.out j hj').len; omega)
    have := HEL.out
    rw [this] at h1
    exact Nat.le_trans h1 (Nat.mul_le_mul_right _ hm))
  have HLEN : Hid (([(0 : UInt8)] ++ dbs).length + 1 + data.length ≤ 140737488355328) := Lib.hid (by have h1 := EncL_len HEN.out; have h2 := HFLN.out; have h3 := HDL.out; simp only [List.length_append, List.length_cons, List.length_nil] at h1 ⊢; omega)
  clear hR4 hpb y0 y1
  refine wp_region_relZ (RP6 wR w.heap.size w4.heap.size bc (.slice oA oN oC : Value) dA dN dC ([(0 : UInt8)] ++ dbs) data) 5 (fun b w' => Chg (fun k => b = true ∧ ((.slice oA oN oC : Value)).ownBlock = some k) wR w') [9] (by kernel_rfl) (by kernel_rfl) (by kernel_rfl) (by kernel_rfl) ((Chg.refl _ wR).drewN 1) ?steps ?fin
  case steps =>
    refine ⟨⟨rfl, ?_⟩, ⟨rfl, ?_⟩, ⟨rfl, ?_⟩, ⟨rfl, ?_⟩, ⟨rfl, ?_⟩, ⟨rfl, ?_⟩, ⟨rfl, ?_⟩, ⟨rfl, ?_⟩, ⟨rfl, ?_⟩, ⟨rfl, ?_⟩, trivial⟩
    all_goals (intro vals ev c w1 b hz1 hz2 hz3 hc hI hR hv h0 hcst hfn hgl)
    · have e5 : ev (.tmp 5) = (.slice oA oN oC : Value) := h0 5 (by kernel_rfl)
      obtain rfl := hz1 (by kernel_rfl)
      have HF : Chg (fun _ => False) wR w1 := hI.mono (fun k h => Bool.noConfusion h.1)
      exact does_value rfl ⟨⟨e5, HF⟩, HF.any, fun i_ x_ m_ _ _ h_ => RP6_ext wR w.heap.size w4.heap.size bc (.slice oA oN oC : Value) dA dN dC ([(0 : UInt8)] ++ dbs) data h_ (Chg.refl _ _)⟩
    · have e7 : ev (.tmp 7) = .pointer (some ⟨w4.heap.size, 0, none⟩) := h0 7 (by kernel_rfl)
      clear hR hv h0 hc
      refine Step.fixed (x := .pointer (some ⟨w4.heap.size, 0, none⟩)) ?_ ⟨rfl, (hI.mono (fun k h => ⟨by rw [h.1]; rfl, h.2⟩)), fun i_ x_ m_ _ _ h_ => RP6_ext wR w.heap.size w4.heap.size bc (.slice oA oN oC : Value) dA dN dC ([(0 : UInt8)] ++ dbs) data h_ (Chg.refl _ _)⟩
      unfold OpDoes
      go_simp
    · have e31 : ev (.tmp 31) = .pointer (some ⟨w4.heap.size, 0, none⟩) := (hv 1 31 (by kernel_rfl) (by kernel_rfl) (Nat.le_of_ble_eq_true (by kernel_rfl))).trans (hR 1 (by kernel_rfl))
      have l_x0 := hI.cell x0 (fun h => HPB.out h.2)
      clear hR hv h0 hc
      refine Step.fixed (x := .int .i64 (bc.toNat : Int)) ?_ ⟨rfl, (hI.mono (fun k h => ⟨by rw [h.1]; rfl, h.2⟩)), fun i_ x_ m_ _ _ h_ => RP6_ext wR w.heap.size w4.heap.size bc (.slice oA oN oC : Value) dA dN dC ([(0 : UInt8)] ++ dbs) data h_ (Chg.refl _ _)⟩
      unfold OpDoes
      go_simp
    · have e32 : ev (.tmp 32) = .int .i64 (bc.toNat : Int) := (hv 2 32 (by kernel_rfl) (by kernel_rfl) (Nat.le_of_ble_eq_true (by kernel_rfl))).trans (hR 2 (by kernel_rfl))
      have hb8 : IntKind.u8.wrap (bc.toNat : Int) = (bc.toNat : Int) := u8_in bc
      have hb9 : (bc.toNat : Int) % 256 = (bc.toNat : Int) := u8_mod bc
      clear hR hv h0 hc
      refine Step.fixed (x := .int .u8 (bc.toNat : Int)) ?_ ⟨rfl, (hI.mono (fun k h => ⟨by rw [h.1]; rfl, h.2⟩)), fun i_ x_ m_ _ _ h_ => RP6_ext wR w.heap.size w4.heap.size bc (.slice oA oN oC : Value) dA dN dC ([(0 : UInt8)] ++ dbs) data h_ (Chg.refl _ _)⟩
      unfold OpDoes
      go_simp
    · have e33 : ev (.tmp 33) = .int .u8 (bc.toNat : Int) := (hv 3 33 (by kernel_rfl) (by kernel_rfl) (Nat.le_of_ble_eq_true (by kernel_rfl))).trans (hR 3 (by kernel_rfl))
      clear hR hv h0
      refine OpDoes.mono (p := fun v w2 => v = .slice (some ⟨w1.heap.size, 0, none⟩) 1 1 ∧ w2 = w1.alloc (.cells #[.int .u8 (bc.toNat : Int)] 5)) ?_ ?_
      · clear hI
        unfold OpDoes
        go_simp
      · rintro v w2 ⟨rfl, rfl⟩
        refine ⟨⟨_, rfl, own8_lit w1 wR.heap.size hI.size [bc] (by simp [maxLen])⟩, ?_, fun i_ x_ m_ _ _ h_ => RP6_ext wR w.heap.size w4.heap.size bc (.slice oA oN oC : Value) dA dN dC ([(0 : UInt8)] ++ dbs) data h_ ((Chg.refl _ _).alloc _)⟩
        exact (hI.alloc _).mono (fun k h => ⟨by rw [h.1]; rfl, h.2⟩)
    · have e30 : ev (.tmp 30) = vals 0 := hv 0 30 (by kernel_rfl) (by kernel_rfl) (Nat.le_of_ble_eq_true (by kernel_rfl))
      have e34 : ev (.tmp 34) = vals 4 := hv 4 34 (by kernel_rfl) (by kernel_rfl) (Nat.le_of_ble_eq_true (by kernel_rfl))
      obtain rfl := hz2 rfl
      obtain ⟨o1, o2⟩ := (hR 0 (by kernel_rfl) : vals 0 = (.slice oA oN oC : Value) ∧ Chg (fun _ => False) wR w1)
      obtain ⟨g, g1, g2⟩ := (hR 4 (by kernel_rfl) : ∃ g, vals 4 = .slice (some ⟨g, 0, none⟩) 1 1 ∧ Own8 w1 wR.heap.size (vals 4) [bc])
      rw [o1] at e30
      rw [g1] at e34 g2
      obtain ⟨v1, w', hrun, ho, hg, hat⟩ := run_app8' (Own8.ext HOV.out o2) (Bs.of_own g2) (by have := HLEN.out; simp only [List.length_append, List.length_cons, List.length_nil] at this ⊢; omega) (Nat.le_trans HB1 o2.size)
      refine does_value' (w' := w') (v := v1) (by simp only [execOp, e30, e34, resolve, invoke, builtin, List.map_toArray, List.map_cons, List.map_nil, Sem.run_bind, Sem.run_pure, Result.andThen_ok, hrun]) ⟨⟨ho, fun k hk => ?_⟩, (o2.any (X := fun k => (false || 5 == 5) = true ∧ (.slice oA oN oC : Value).ownBlock = some k)).grown hg (fun k hk _ => ⟨rfl, hk⟩), fun i_ x_ m_ hne hk h_ => ?_⟩
      · rcases hat with e | e
        · exact .inl (e ▸ hk)
        · rw [e] at hk; injection hk with hk; have := o2.size; exact .inr (by omega)
      · have hmem := keep_in [5, 6, 7] (by kernel_rfl) (by kernel_rfl) (by kernel_rfl) hk
        simp only [List.mem_cons, List.not_mem_nil, or_false] at hmem
        rcases hmem with rfl | rfl | rfl
        · exact absurd rfl hne
        · exact h_
        · exact h_
    · have e7 : ev (.tmp 7) = .pointer (some ⟨w4.heap.size, 0, none⟩) := h0 7 (by kernel_rfl)
      clear hR hv h0 hc
      refine Step.fixed (x := .pointer (some ⟨w4.heap.size, 1, none⟩)) ?_ ⟨rfl, (hI.mono (fun k h => ⟨by rw [h.1]; rfl, h.2⟩)), fun i_ x_ m_ _ _ h_ => RP6_ext wR w.heap.size w4.heap.size bc (.slice oA oN oC : Value) dA dN dC ([(0 : UInt8)] ++ dbs) data h_ (Chg.refl _ _)⟩
      unfold OpDoes
      go_simp
    · have e36 : ev (.tmp 36) = .pointer (some ⟨w4.heap.size, 1, none⟩) := (hv 6 36 (by kernel_rfl) (by kernel_rfl) (Nat.le_of_ble_eq_true (by kernel_rfl))).trans (hR 6 (by kernel_rfl))
      have l_x1 := hI.cell x1 (fun h => HPB.out h.2)
      clear hR hv h0 hc
      refine Step.fixed (x := .slice dA dN dC) ?_ ⟨rfl, (hI.mono (fun k h => ⟨by rw [h.1]; rfl, h.2⟩)), fun i_ x_ m_ _ _ h_ => RP6_ext wR w.heap.size w4.heap.size bc (.slice oA oN oC : Value) dA dN dC ([(0 : UInt8)] ++ dbs) data h_ (Chg.refl _ _)⟩
      unfold OpDoes
      go_simp
    · have e35 : ev (.tmp 35) = vals 5 := hv 5 35 (by kernel_rfl) (by kernel_rfl) (Nat.le_of_ble_eq_true (by kernel_rfl))
      have e37 : ev (.tmp 37) = .slice dA dN dC := (hv 7 37 (by kernel_rfl) (by kernel_rfl) (Nat.le_of_ble_eq_true (by kernel_rfl))).trans (hR 7 (by kernel_rfl))
      obtain ⟨o1, o2⟩ := (hR 5 (by kernel_rfl) : Own8 w1 w.heap.size (vals 5) (([(0 : UInt8)] ++ dbs) ++ [bc]) ∧ (∀ k, (vals 5).ownBlock = some k → (.slice oA oN oC : Value).ownBlock = some k ∨ wR.heap.size ≤ k))
      obtain ⟨v1, w', hrun, ho, hg, _⟩ := run_app8' o1 (HDATA.out.move (fun g cs fr hg1 hh => hI.block g (Array.getElem?_eq_some_iff.1 hh).1 (fun h => absurd hg1 (Nat.not_le.2 (HBP.out g h.2))))).bs (by have := HLEN.out; simp only [List.length_append, List.length_cons, List.length_nil] at this ⊢; omega) (Nat.le_trans HB1 hI.size)
      refine does_value' (w' := w') (v := v1) (by simp only [execOp, e35, e37, resolve, invoke, builtin, List.map_toArray, List.map_cons, List.map_nil, Sem.run_bind, Sem.run_pure, Result.andThen_ok, hrun]) ⟨ho, ?_, fun i_ x_ m_ hne hk h_ => ?_⟩
      · obtain rfl : b = true := hz3 (by kernel_rfl)
        exact hI.trans (Y := fun k => (.slice oA oN oC : Value).ownBlock = some k ∨ wR.heap.size ≤ k) ((Chg.refl _ w1).grown hg (fun k hk _ => o2 k hk)) (fun i hi h => h.elim (fun h => ⟨rfl, h⟩) (fun h => absurd hi (Nat.not_lt.2 h)))
      · have hmem := keep_in [8] (by kernel_rfl) (by kernel_rfl) (by kernel_rfl) hk
        simp only [List.mem_cons, List.not_mem_nil, or_false] at hmem
        exact absurd hmem hne
    · have e38 : ev (.tmp 38) = vals 8 := hv 8 38 (by kernel_rfl) (by kernel_rfl) (Nat.le_of_ble_eq_true (by kernel_rfl))
      have h8 : Own8 w1 w.heap.size (vals 8) ((([(0 : UInt8)] ++ dbs) ++ [bc]) ++ data) := hR 8 (by kernel_rfl)
      exact does_value rfl ⟨e38 ▸ h8, hI.mono (fun k h => ⟨by rw [h.1]; rfl, h.2⟩), fun i_ x_ m_ _ _ h_ => RP6_ext wR w.heap.size w4.heap.size bc (.slice oA oN oC : Value) dA dN dC ([(0 : UInt8)] ++ dbs) data h_ (Chg.refl _ _)⟩
  case fin =>
    intro vals c9 wZ hb hfin
    obtain ⟨b, hZ⟩ := hb
    have h9 : Own8 wZ w.heap.size (vals 9) ((([(0 : UInt8)] ++ dbs) ++ [bc]) ++ data) := hfin 9 (by kernel_rfl) (by decide)
    clear hfin
    obtain ⟨zA, zN, zC, h9e⟩ := h9.slice
    rw [h9e] at h9
    have hZ' : Chg (fun b => w.heap.size ≤ b) wR wZ := hZ.mono (fun k h => own8_ge HO.out h.2)
    have HP := Lib.hid h9; have HCZ := Lib.hid hZ'
    clear h9 hZ hZ' x0 x1
    simp only [putAll, Act.put, List.setIfInBounds_toArray, List.set_cons_zero, List.set_cons_succ, Nat.reduceAdd]
    rw [h9e]
    clear h9e
    go_wp2_with fail
    go_ret
    exact ⟨_, dbs, encs, bc :: data, rfl, by simpa using HP.out, HDE.out, HEL.out, HEE.out, HEN.out, HRF.out.chg HCZ.out (by omega), HRC.out.trans HCZ.out (fun i hi h => absurd hi (by omega))⟩
end Go.Proofs.S
