/- The writer writes a whole composite, with its defaults and what is left out at the end: for fields that hold plain values. -/
import Derived.Test.YtoilepadamfacaaGreatDoorD20
import Derived.Deep.LoopGhost
import Derived.Deep.DeepCutAuto
import Derived.Deep.CutRange
set_option linter.unusedVariables false
set_option linter.unusedSimpArgs false
namespace Go.Proofs.S
open Go.RowKit Go.Maps
/-- Storing what stands there already. -/
theorem setCell_same {w : World} {g o : Nat} {v : Value} (h : w.cell? ⟨g, o, none⟩ = some v) : w.setCell ⟨g, o, none⟩ v = w := by
  have hh : (w.setCell ⟨g, o, none⟩ v).heap = w.heap := by
    refine Array.ext_getElem? fun i => ?_
    rcases Classical.em (i = g) with e | e
    · subst e
      unfold World.cell? at h
      generalize hx : w.heap[i]? = x at h
      match x, h with
      | some (.cells c t fr), h =>
        rw [setCell_blk hx, set_same (by simpa using h)]
      | some (.map _ _), h => simp at h
      | some (.chan ..), h => simp at h
      | none, h => simp at h
    · exact Below.heap_setCell w ⟨g, o, none⟩ v i e
  have e : w.setCell ⟨g, o, none⟩ v = { w with heap := (w.setCell ⟨g, o, none⟩ v).heap } := rfl
  rw [e, hh]
theorem OwnV.blk {w : World} {base kg n c : Nat} {xs : List FV} (h : OwnV w base (.slice (some ⟨kg, 0, none⟩) n c) xs) : n ≤ c ∧ ∃ cur, w.heap[kg]? = some (.cells cur 81 (0, 0)) := by
  rcases h.2 with ⟨h0, _⟩ | ⟨g, cap, cur, h0, hg, hh, r⟩
  · cases h0
  · injection h0 with e1 e2 e3
    injection e1 with e1
    injection e1 with e1
    subst e1 e2 e3
    exact ⟨r.1, cur, hh⟩
def PutPost (F : Nat → FV) (n f : Nat) (w : World) (e : Ending) (w' : World) : Prop :=
  ∃ v m dbs encs enc, e = .returned v ∧ Own8 w' w.heap.size v (0 :: (dbs ++ enc)) ∧ EncV 5 115 [] dbs ∧ m ≤ n ∧ (∀ j, m ≤ j → j < n → (F j).kd = 0) ∧ encs.length = m ∧ (∀ j, j < m → EncV (F j).kd (F j).nm (F j).tx.data.toList (encs.getD j [])) ∧ EncL encs enc ∧ FormAt w' f ∧ Chg (· = f) w w'
def BoxAt (w : World) (b kg m kC dg : Nat) : Prop := w.heap[b]? = some (.cells #[.int .i64 21, .int .u64 0, .string ⟨#[]⟩, .slice (some ⟨kg, 0, none⟩) m kC, .int .i64 0, .slice (some ⟨dg, 0, none⟩) 1 1] 81 (0, 0))
structure Trail (F : Nat → FV) (n f kg kC dg b : Nat) (w2 : World) (m : Nat) (wz : World) : Prop where
  le : m ≤ n
  nul : ∀ j, m ≤ j → j < n → (F j).kd = 0
  box : BoxAt wz b kg m kC dg
  chg : Chg (fun x => x = f ∨ x = b) w2 wz
  form : FormAt wz f
def RQ (b5 kg n kC f k : Nat) (x : FV) (i : Nat) (v : Value) (m : Nat → Value) (c : Nat) (w : World) : Prop :=
  match i with
  | 0 => v = .pointer (some ⟨b5, 3, none⟩)
  | 1 => v = .slice (some ⟨kg, 0, none⟩) n kC
  | 2 => v = .int .i64 (k : Int)
  | 3 => v = .pointer (some ⟨f, 0, none⟩)
  | 4 => v = .pointer (some ⟨b5, 3, none⟩)
  | 5 => v = .slice (some ⟨kg, 0, none⟩) n kC
  | 6 => v = .int .i64 (k : Int)
  | 7 => v = .pointer (some ⟨kg, (k * 6), none⟩)
  | 8 => v = .agg #[.int .i64 x.kd, .int .u64 (x.nm : Int), .string x.tx, .slice x.kA x.kN x.kC, .int .i64 x.of_, .slice x.dA 0 x.dC]
  | 9 => v = .agg #[.int .i64 x.kd, .int .u64 (x.nm : Int), .string x.tx, .slice x.kA x.kN x.kC, .int .i64 x.of_, .slice x.dA 0 x.dC]
  | 10 => v = .pointer (some ⟨kg, (k * 6), none⟩)
  | 11 => True
  | _ => True
theorem RQ_ext (b5 kg n kC f k : Nat) (x : FV) {i : Nat} {v : Value} {m : Nat → Value} {c : Nat} {w w1 : World} (h : RQ b5 kg n kC f k x i v m c w) (hc : Chg (fun _ => False) w w1) : RQ b5 kg n kC f k x i v m (c + 1) w1 := by
  unfold RQ at h ⊢
  split
  · exact h
  · exact h
  · exact h
  · exact h
  · exact h
  · exact h
  · exact h
  · exact h
  · exact h
  · exact h
  · exact h
  · exact trivial
  · trivial
set_option maxHeartbeats 4000000 in
set_option maxRecDepth 1000000 in
/-- (Composite).Put, the fields flat, no defaults. -/
theorem composite_put {F : Nat → FV} {n : Nat} (hn1 : 1 ≤ n) (hn : n ≤ 13) (hF : ∀ j, j < n → FlatV (F j).kd (F j).nm (F j).tx) {g cC f : Nat} {w : World} (hk : ∀ j, j < n → FVAt w g (j * 12) (F j) ∧ FVAt w g (j * 12 + 6) FV0) (hf : FormAt w f) (hgf : g ≠ f) :
    Calls Tryz.prog 9 #[.agg #[.int .u64 115, .slice (some ⟨g, 0, none⟩) n cC], .pointer (some ⟨f, 0, none⟩)] w (PutPost F n f w) := by
  have HFF := Lib.hid hF; have HFO := Lib.hid hf; have HK := Lib.hid hk; have HGF := Lib.hid hgf
  have hfl := hf.lt
  have hA : Chg (fun _ => False) w (w.alloc (.cells #[.int .u64 115, .slice (some ⟨g, 0, none⟩) n cC] 35)) := (Chg.refl _ w).alloc _
  have HK0 : Hid (∀ j, j < n → FVAt (w.alloc (.cells #[.int .u64 115, .slice (some ⟨g, 0, none⟩) n cC] 35)) g (j * 12) (F j) ∧ FVAt (w.alloc (.cells #[.int .u64 115, .slice (some ⟨g, 0, none⟩) n cC] 35)) g (j * 12 + 6) FV0) := Lib.hid (fun j hj => ⟨(hk j hj).1.chg hA (fun h => h), (hk j hj).2.chg hA (fun h => h)⟩)
  clear hF hf hk hgf hA
  go_enter Tryz.func9, Tryz.ntmps9
  go_wp2_with fail
  refine (whole_calls hn1 hn HK0.out).mono ?_
  rintro _ wA ⟨kg, kC, dg, xs, rfl, hO, hxl, hxs, hdg, hdk, hFD, hC⟩
  have HC1 := Lib.hid (hC.from_alloc)
  have hs1 : w.heap.size + 1 ≤ wA.heap.size := by have := hC.size; simp at this; omega
  have HBX := Lib.hid (hC.blkF (heap_alloc_new w (.cells #[.int .u64 115, .slice (some ⟨g, 0, none⟩) n cC] 35)))
  have hxne : xs ≠ [] := fun h => by rw [h] at hxl; simp at hxl; omega
  obtain ⟨kg', kC', hv, hkg1, hkg2, hcl⟩ := hO.at hxne
  injection hv with e1 e2 e3
  injection e1 with e1
  injection e1 with e1
  subst e1
  clear e2 e3
  obtain ⟨hcap, cur, hkb⟩ := hO.blk
  have HCAP := Lib.hid hcap; have HKB1 := Lib.hid hkb; have HD1 := Lib.hid hFD; have HDK := Lib.hid hdk
  have HX1 : Hid (∀ j, j < n → FVAt wA kg (j * 6) (F j)) := Lib.hid (fun j hj => hcl j _ (hxs j hj))
  have hdl : dg < wA.heap.size := World.block_lt_of_cell? _ ⟨dg, 0, none⟩ hFD.c0
  have hkgw : w.heap.size < kg := by simp at hkg1; omega
  have hdgw : w.heap.size < dg := by simp at hdg; omega
  clear hC hO hxl hxs hxne hcl hcap hkb hFD hkg1 hdg hdk
  go_upto_region 2 with (fail)
  refine wp_any_world (fun w' => Chg (fun _ => False) wA w' ∧ BoxAt w' wA.heap.size kg n kC dg) ⟨(Chg.refl _ wA).alloc _, heap_alloc_new _ _⟩ ?_
  rintro w2 ⟨hC2, hv2⟩
  have HC2 := Lib.hid hC2; have HV2 := Lib.hid hv2
  have hs2 : wA.heap.size + 1 ≤ w2.heap.size := by have := (Array.getElem?_eq_some_iff.1 hv2).1; omega
  have y1 : w2.cell? ⟨w.heap.size, 1, none⟩ = some (.slice (some ⟨g, 0, none⟩) n cC) := blk_cell (hC2.blkF HBX.out) rfl
  have HFIN : Hid (∀ m wz, Trail F n f kg kC dg wA.heap.size w2 m wz → Calls Tryz.prog 37 #[.agg #[.int .i64 21, .int .u64 0, .string ⟨#[]⟩, .slice (some ⟨kg, 0, none⟩) m kC, .int .i64 0, .slice (some ⟨dg, 0, none⟩) 1 1], .pointer (some ⟨f, 0, none⟩)] wz (PutPost F n f w)) := Lib.hid (by
    intro m wz hT
    have hW : Chg (· = f) w wz := ((HC1.out.reads HC2.out).any).trans hT.chg (fun i hi h => h.elim (fun h => h) (fun h => absurd hi (by omega)))
    have hXz : ∀ j, j < m → FVAt wz kg (j * 6) (F j) := fun j hj => ((HX1.out j (Nat.lt_of_lt_of_le hj hT.le)).chg HC2.out (fun h => h)).chg hT.chg (by omega)
    refine (put_list (fun j hj => HFF.out j (Nat.lt_of_lt_of_le hj hT.le)) (Nat.le_trans hT.le hn) (X := FD) ⟨by decide, by decide, by decide, by decide, by decide⟩ hT.form (by omega) (by omega) hXz ((HD1.out.chg HC2.out (fun h => h)).chg hT.chg (by omega))).mono ?_
    rintro e w' ⟨v, dbs, encs, enc, rfl, h1, h2, h3, h4, h5, h6, h7⟩
    exact ⟨v, m, dbs, encs, enc, rfl, Own8.base_le h1 hW.size, h2, hT.le, hT.nul, h3, h4, h5, h6, hW.reads h7⟩)
  clear hC2 hv2
  go_wp2_with fail
  go_loopg [13] n (fun q i wr => ∃ k : Nat, q + k = n ∧ i = .int .i64 (k : Int) ∧ Chg (fun _ => False) w2 wr)
  case atStart => exact ⟨0, rfl, rfl, Chg.refl _ _⟩
  case round =>
    obtain ⟨k, hkn, rfl, hCr⟩ := hrel
    have HCR := Lib.hid hCr
    have HKN := Lib.hid hkn
    have hsr := hCr.size
    have hkn' : k ≤ n := by omega
    clear hCr hkn
    rcases Nat.lt_or_ge k n with hlt | hge
    · have hd : decide ((k : Int) < (n : Int)) = true := by simp; omega
      have hxz := HK.out k hlt
      have hCw := (HC1.out.reads HC2.out).reads HCR.out
      obtain ⟨q0, q1, q2, q3, q4, q5⟩ := hxz.1.chg hCw (fun h => h)
      obtain ⟨p0, p1, p2, p3, p4, p5⟩ := hxz.2.chg hCw (fun h => h)
      simp only [Nat.add_assoc, Nat.reduceAdd, FV0] at p0 p1 p2 p3 p4 p5
      have hk0 : (0 : Int) ≤ (k : Int) := by omega
      have hkl : (k : Int) < (n : Int) := by omega
      clear hxz hCw
      go_upto_region 5 with (fail)
      refine wp_any_world (fun w' => Chg (fun _ => False) wr w' ∧ w'.cell? ⟨wr.heap.size, 0, none⟩ = some (.int .i64 (F k).kd) ∧ w'.cell? ⟨wr.heap.size, 6, none⟩ = some (.int .i64 0)) ⟨(Chg.refl _ wr).alloc _, blk_cell (heap_alloc_new _ _) rfl, blk_cell (heap_alloc_new _ _) rfl⟩ ?_
      rintro w3 ⟨hC3, x0, x6⟩
      have HC3 := Lib.hid hC3
      clear q0 q1 q2 q3 q4 q5 p0 p1 p2 p3 p4 p5 hC3
      go_cut [39] (fun s wc => s = .bool false ∧ wc = w3)
      case first =>
        rcases Decidable.em ((F k).kd = 0) with hz | hz
        · have hz' := hz
          go_wp2_with fail
          all_goals (go_meet; exact ⟨rfl, rfl⟩)
        · go_wp2_with fail
          all_goals (go_meet; exact ⟨rfl, rfl⟩)
      case rest =>
        obtain ⟨rfl, rfl⟩ := hcut
        have HCW : Hid (Chg (fun _ => False) wA wc) := Lib.hid ((HC2.out.reads HCR.out).reads HC3.out)
        have HX : Hid (FVAt wc kg (k * 6) (F k)) := Lib.hid ((HX1.out k hlt).chg HCW.out (fun h => h))
        have HKB := Lib.hid (HCW.out.blkF HKB1.out)
        have v3 : wc.cell? ⟨wA.heap.size, 3, none⟩ = some (.slice (some ⟨kg, 0, none⟩) n kC) := blk_cell ((HCR.out.reads HC3.out).blkF HV2.out) rfl
        have HB0 := Lib.hid hk0; have HBL := Lib.hid hkl
        have HK23 : Hid ((F k).kd ≠ 23) := Lib.hid (by have := (HFF.out k hlt).kind; omega)
        clear x0 x6
        go_wp2_with fail
        refine wp_region_rel (RQ wA.heap.size kg n kC f k (F k)) (fun w' => Chg (fun _ => False) wc w') [] (by kernel_rfl) (by kernel_rfl) (by kernel_rfl) (by kernel_rfl) ((Chg.refl _ wc).drewN 1) ?steps ?fin
        case steps =>
          refine ⟨⟨rfl, ?_⟩, ⟨rfl, ?_⟩, ⟨rfl, ?_⟩, ⟨rfl, ?_⟩, ⟨rfl, ?_⟩, ⟨rfl, ?_⟩, ⟨rfl, ?_⟩, ⟨rfl, ?_⟩, ⟨rfl, ?_⟩, ⟨rfl, ?_⟩, ⟨rfl, ?_⟩, ⟨rfl, ?_⟩, trivial⟩
          all_goals (intro vals ev c w1 hc hI hR hv h0 hcst hfn hgl)
          · have e5 : ev (.tmp 5) = .pointer (some ⟨wA.heap.size, 0, none⟩) := h0 5 (by kernel_rfl)
            clear hR hv h0 hc
            refine Step.fixed (x := .pointer (some ⟨wA.heap.size, 3, none⟩)) ?_ ⟨rfl, hI, fun i_ x_ m_ _ _ h_ => RQ_ext wA.heap.size kg n kC f k (F k) h_ (Chg.refl _ _)⟩
            unfold OpDoes
            go_simp
          · have e45 : ev (.tmp 45) = .pointer (some ⟨wA.heap.size, 3, none⟩) := (hv 0 45 (by kernel_rfl) (by kernel_rfl) (Nat.le_of_ble_eq_true (by kernel_rfl))).trans (hR 0 (by kernel_rfl))
            have l_v3 := hI.cell v3 (fun h => h)
            clear hR hv h0 hc
            refine Step.fixed (x := .slice (some ⟨kg, 0, none⟩) n kC) ?_ ⟨rfl, hI, fun i_ x_ m_ _ _ h_ => RQ_ext wA.heap.size kg n kC f k (F k) h_ (Chg.refl _ _)⟩
            unfold OpDoes
            go_simp
          · have e6 : ev (.tmp 6) = .int .i64 (k : Int) := h0 6 (by kernel_rfl)
            clear hR hv h0 hc
            refine Step.fixed (x := .int .i64 (k : Int)) ?_ ⟨rfl, hI, fun i_ x_ m_ _ _ h_ => RQ_ext wA.heap.size kg n kC f k (F k) h_ (Chg.refl _ _)⟩
            unfold OpDoes
            go_simp
          · have e1 : ev (.tmp 1) = .pointer (some ⟨f, 0, none⟩) := h0 1 (by kernel_rfl)
            clear hR hv h0 hc
            refine Step.fixed (x := .pointer (some ⟨f, 0, none⟩)) ?_ ⟨rfl, hI, fun i_ x_ m_ _ _ h_ => RQ_ext wA.heap.size kg n kC f k (F k) h_ (Chg.refl _ _)⟩
            unfold OpDoes
            go_simp
          · have e5 : ev (.tmp 5) = .pointer (some ⟨wA.heap.size, 0, none⟩) := h0 5 (by kernel_rfl)
            clear hR hv h0 hc
            refine Step.fixed (x := .pointer (some ⟨wA.heap.size, 3, none⟩)) ?_ ⟨rfl, hI, fun i_ x_ m_ _ _ h_ => RQ_ext wA.heap.size kg n kC f k (F k) h_ (Chg.refl _ _)⟩
            unfold OpDoes
            go_simp
          · have e49 : ev (.tmp 49) = .pointer (some ⟨wA.heap.size, 3, none⟩) := (hv 4 49 (by kernel_rfl) (by kernel_rfl) (Nat.le_of_ble_eq_true (by kernel_rfl))).trans (hR 4 (by kernel_rfl))
            have l_v3 := hI.cell v3 (fun h => h)
            clear hR hv h0 hc
            refine Step.fixed (x := .slice (some ⟨kg, 0, none⟩) n kC) ?_ ⟨rfl, hI, fun i_ x_ m_ _ _ h_ => RQ_ext wA.heap.size kg n kC f k (F k) h_ (Chg.refl _ _)⟩
            unfold OpDoes
            go_simp
          · have e6 : ev (.tmp 6) = .int .i64 (k : Int) := h0 6 (by kernel_rfl)
            clear hR hv h0 hc
            refine Step.fixed (x := .int .i64 (k : Int)) ?_ ⟨rfl, hI, fun i_ x_ m_ _ _ h_ => RQ_ext wA.heap.size kg n kC f k (F k) h_ (Chg.refl _ _)⟩
            unfold OpDoes
            go_simp
          · have e50 : ev (.tmp 50) = .slice (some ⟨kg, 0, none⟩) n kC := (hv 5 50 (by kernel_rfl) (by kernel_rfl) (Nat.le_of_ble_eq_true (by kernel_rfl))).trans (hR 5 (by kernel_rfl))
            have e51 : ev (.tmp 51) = .int .i64 (k : Int) := (hv 6 51 (by kernel_rfl) (by kernel_rfl) (Nat.le_of_ble_eq_true (by kernel_rfl))).trans (hR 6 (by kernel_rfl))
            have hk0 := HB0.out; have hkl := HBL.out
            clear hR hv h0 hc
            refine Step.fixed (x := .pointer (some ⟨kg, (k * 6), none⟩)) ?_ ⟨rfl, hI, fun i_ x_ m_ _ _ h_ => RQ_ext wA.heap.size kg n kC f k (F k) h_ (Chg.refl _ _)⟩
            unfold OpDoes
            go_simp
          · have e52 : ev (.tmp 52) = .pointer (some ⟨kg, (k * 6), none⟩) := (hv 7 52 (by kernel_rfl) (by kernel_rfl) (Nat.le_of_ble_eq_true (by kernel_rfl))).trans (hR 7 (by kernel_rfl))
            obtain ⟨q0, q1, q2, q3, q4, q5⟩ := HX.out.chg hI (fun h => h)
            clear hR hv h0 hc
            refine Step.fixed (x := .agg #[.int .i64 (F k).kd, .int .u64 ((F k).nm : Int), .string (F k).tx, .slice (F k).kA (F k).kN (F k).kC, .int .i64 (F k).of_, .slice (F k).dA 0 (F k).dC]) ?_ ⟨rfl, hI, fun i_ x_ m_ _ _ h_ => RQ_ext wA.heap.size kg n kC f k (F k) h_ (Chg.refl _ _)⟩
            unfold OpDoes
            go_simp
          · have e48 : ev (.tmp 48) = .pointer (some ⟨f, 0, none⟩) := (hv 3 48 (by kernel_rfl) (by kernel_rfl) (Nat.le_of_ble_eq_true (by kernel_rfl))).trans (hR 3 (by kernel_rfl))
            have e53 : ev (.tmp 53) = .agg #[.int .i64 (F k).kd, .int .u64 ((F k).nm : Int), .string (F k).tx, .slice (F k).kA (F k).kN (F k).kC, .int .i64 (F k).of_, .slice (F k).dA 0 (F k).dC] := (hv 8 53 (by kernel_rfl) (by kernel_rfl) (Nat.le_of_ble_eq_true (by kernel_rfl))).trans (hR 8 (by kernel_rfl))
            have hf := hfn 36
            have e53x : ev (.tmp 53) = .agg #[.int .i64 (F k).kd, .int .u64 ((F k).nm : Int), .string (F k).tx, .slice (F k).kA (F k).kN (F k).kC, .int .i64 (F k).of_, .slice (F k).dA 0 (F k).dC] := e53
            clear hR hv h0 hc
            unfold OpDoes
            go_simp
            refine (inside_FV HK23.out _ _ _ _ _ _ _ _ _ _ _).mono ?_
            rintro _ w2 ⟨rfl, hC⟩
            exact ⟨_, rfl, rfl, hI.reads hC, fun i_ x_ m_ _ _ h_ => RQ_ext wA.heap.size kg n kC f k (F k) h_ hC⟩
          · have e46 : ev (.tmp 46) = .slice (some ⟨kg, 0, none⟩) n kC := (hv 1 46 (by kernel_rfl) (by kernel_rfl) (Nat.le_of_ble_eq_true (by kernel_rfl))).trans (hR 1 (by kernel_rfl))
            have e47 : ev (.tmp 47) = .int .i64 (k : Int) := (hv 2 47 (by kernel_rfl) (by kernel_rfl) (Nat.le_of_ble_eq_true (by kernel_rfl))).trans (hR 2 (by kernel_rfl))
            have hk0 := HB0.out; have hkl := HBL.out
            clear hR hv h0 hc
            refine Step.fixed (x := .pointer (some ⟨kg, (k * 6), none⟩)) ?_ ⟨rfl, hI, fun i_ x_ m_ _ _ h_ => RQ_ext wA.heap.size kg n kC f k (F k) h_ (Chg.refl _ _)⟩
            unfold OpDoes
            go_simp
          · have e54 : ev (.tmp 54) = vals 9 := hv 9 54 (by kernel_rfl) (by kernel_rfl) (Nat.le_of_ble_eq_true (by kernel_rfl))
            have e55 : ev (.tmp 55) = .pointer (some ⟨kg, (k * 6), none⟩) := (hv 10 55 (by kernel_rfl) (by kernel_rfl) (Nat.le_of_ble_eq_true (by kernel_rfl))).trans (hR 10 (by kernel_rfl))
            have e54x : ev (.tmp 54) = .agg #[.int .i64 (F k).kd, .int .u64 ((F k).nm : Int), .string (F k).tx, .slice (F k).kA (F k).kN (F k).kC, .int .i64 (F k).of_, .slice (F k).dA 0 (F k).dC] := by rw [e54]; exact hR 9 (by kernel_rfl)
            clear e54
            obtain ⟨q0, q1, q2, q3, q4, q5⟩ := HX.out.chg hI (fun h => h)
            have hkb := hI.blkF HKB.out
            have f0 := blk_free (k := k * 6) hkb
            have f1 := blk_free (k := k * 6 + 1) hkb
            have f2 := blk_free (k := k * 6 + 2) hkb
            have f3 := blk_free (k := k * 6 + 3) hkb
            have f4 := blk_free (k := k * 6 + 4) hkb
            have f5 := blk_free (k := k * 6 + 5) hkb
            have Q0 := Lib.hid (And.intro q0 (And.intro q1 (And.intro q2 (And.intro q3 (And.intro q4 q5)))))
            clear hR hv h0 hc hkb
            refine OpDoes.mono (p := fun v w2 => v = undef ∧ w2 = ((((((w1.setCell ⟨kg, k * 6, none⟩ (.int .i64 (F k).kd)).setCell ⟨kg, k * 6 + 1, none⟩ (.int .u64 ((F k).nm : Int))).setCell ⟨kg, k * 6 + 2, none⟩ (.string (F k).tx)).setCell ⟨kg, k * 6 + 3, none⟩ (.slice (F k).kA (F k).kN (F k).kC)).setCell ⟨kg, k * 6 + 4, none⟩ (.int .i64 (F k).of_)).setCell ⟨kg, k * 6 + 5, none⟩ (.slice (F k).dA 0 (F k).dC))) ?_ ?_
            · unfold OpDoes
              go_simp
            · rintro v w2 ⟨rfl, rfl⟩
              obtain ⟨q0, q1, q2, q3, q4, q5⟩ := Q0.out
              rw [setCell_same q0, setCell_same q1, setCell_same q2, setCell_same q3, setCell_same q4, setCell_same q5]
              exact ⟨trivial, hI, fun i_ x_ m_ _ _ h_ => RQ_ext wA.heap.size kg n kC f k (F k) h_ (Chg.refl _ _)⟩
        case fin =>
          intro vals c w4 hC4 hfin
          have HC4 := Lib.hid hC4
          clear hfin v3 hC4
          simp only [putAll, Act.put, List.setIfInBounds_toArray, List.set_cons_zero, List.set_cons_succ, Nat.reduceAdd]
          go_wp2_with fail
          go_roundg (n - (k + 1))
          case measure => have := HKN.out; omega
          case rel => exact ⟨k + 1, by omega, by go_num, (HCR.out.reads HC3.out).reads HC4.out⟩
    · obtain rfl : k = n := by omega
      have hd : decide ((k : Int) < (k : Int)) = false := by simp
      have HT0 : Hid (Trail F k f kg kC dg wA.heap.size w2 k wr) := Lib.hid ⟨Nat.le_refl _, fun j h1 h2 => absurd h1 (by omega), HCR.out.blkF HV2.out, HCR.out.any, HFO.out.chg ((HC1.out.reads HC2.out).reads HCR.out) (fun h => h)⟩
      obtain ⟨wo, rfl⟩ : ∃ wo : World, wo = wr := ⟨_, rfl⟩
      go_wp2_with fail
      go_loopg [] k (fun m wy => Trail F k f kg kC dg wA.heap.size w2 m wy)
      case atStart => exact HT0.out
      case round =>
        have HT := Lib.hid hrel
        clear hrel
        have b0 := blk_cell (k := 0) HT.out.box rfl
        have b1 := blk_cell (k := 1) HT.out.box rfl
        have b2 := blk_cell (k := 2) HT.out.box rfl
        have b3 := blk_cell (k := 3) HT.out.box rfl
        have b4 := blk_cell (k := 4) HT.out.box rfl
        have b5 := blk_cell (k := 5) HT.out.box rfl
        have hle := HT.out.le
        rcases Nat.eq_zero_or_pos gk with h0 | h0
        · subst h0
          go_wp2_with fail
          refine (HFIN.out 0 _ HT.out).mono ?_
          rintro e w' ⟨v, m, dbs, encs, enc, rfl, hr⟩
          have HR := Lib.hid hr
          clear hr
          go_wp2_with fail
          go_ret
          exact ⟨v, m, dbs, encs, enc, rfl, HR.out⟩
        · obtain ⟨p, rfl⟩ : ∃ p, gk = p + 1 := ⟨gk - 1, by omega⟩
          have hc0 := (((HX1.out p (by omega)).chg HC2.out (fun h => h)).chg HT.out.chg (by omega)).c0
          have hp0 : (0 : Int) ≤ (p : Int) := by omega
          have hsub : IntKind.i64.wrap (((p + 1 : Nat) : Int) - 1) = (p : Int) := by rw [show ((p + 1 : Nat) : Int) - 1 = (p : Int) by omega]; exact IntWalk.i64_in _ (by omega)
          have hsub' : ((p + 1 : Nat) : Int) - 1 = (p : Int) := by omega
          have hpl : (p : Int) < ((p + 1 : Nat) : Int) := by omega
          have hpl' : (p : Int) < (p : Int) + 1 := by omega
          have hpp : (0 : Int) < ((p + 1 : Nat) : Int) := by omega
          have hpp' : (0 : Int) < (p : Int) + 1 := by omega
          have hpc : (p : Int) ≤ (kC : Int) := by have := HCAP.out; omega
          rcases Decidable.em ((F p).kd = 0) with hz | hz
          · have HZ := Lib.hid hz
            rw [hz] at hc0
            clear hz
            go_wp2_with fail
            refine (pick_calls HT.out.form 4 (by decide) (by decide)).mono ?_
            rintro _ w4 ⟨r, rfl, hr, hF4, hC4⟩
            have HT4 : Hid (Trail F k f kg kC dg wA.heap.size w2 (p + 1) w4) := Lib.hid ⟨HT.out.le, HT.out.nul, hC4.blk HT.out.box (by omega), HT.out.chg.reads (hC4.mono (fun _ h => .inl h)), hF4⟩
            clear hF4 hC4 b0 b1 b2 b3 b4 b5 hc0
            have b0 := blk_cell (k := 0) HT4.out.box rfl
            have b1 := blk_cell (k := 1) HT4.out.box rfl
            have b2 := blk_cell (k := 2) HT4.out.box rfl
            have b3 := blk_cell (k := 3) HT4.out.box rfl
            have b4 := blk_cell (k := 4) HT4.out.box rfl
            have b5 := blk_cell (k := 5) HT4.out.box rfl
            have f3 := blk_free (k := 3) HT4.out.box
            rcases Nat.eq_zero_or_pos r with hr0 | hr0
            · subst hr0
              go_wp2_with fail
              refine (HFIN.out (p + 1) _ HT4.out).mono ?_
              rintro e w' ⟨v, m, dbs, encs, enc, rfl, hr⟩
              have HR := Lib.hid hr
              clear hr
              go_wp2_with fail
              go_ret
              exact ⟨v, m, dbs, encs, enc, rfl, HR.out⟩
            · have hr1 : decide ((r : Int) > 0) = true := by simpa using hr0
              have hr2 : decide (0 < r) = true := by simpa using hr0
              go_wp2_with fail
              go_roundg p
              case measure => omega
              case rel =>
                have hS : Chg (fun x => x = f ∨ x = wA.heap.size) w4 (w4.setCell ⟨wA.heap.size, 3, none⟩ (.slice (some ⟨kg, 0, none⟩) p kC)) := Chg.setCell (X := fun x => x = f ∨ x = wA.heap.size) (p := ⟨wA.heap.size, 3, none⟩) (Chg.refl _ w4) (fun _ => .inr rfl) _
                refine ⟨by have := HT4.out.le; omega, fun j h1 h2 => ?_, setCell_blk (k := 3) HT4.out.box _, HT4.out.chg.reads hS, HT4.out.form.chg (Chg.setCell (X := (· = wA.heap.size)) (p := ⟨wA.heap.size, 3, none⟩) (Chg.refl _ w4) (fun _ => rfl) _) (by omega)⟩
                rcases Nat.lt_or_ge p j with h3 | h3
                · exact HT4.out.nul j h3 h2
                · obtain rfl : j = p := by omega
                  exact HZ.out
          · have hd : decide ((F p).kd = 0) = false := decide_eq_false hz
            go_wp2_with fail
            refine (HFIN.out (p + 1) _ HT.out).mono ?_
            rintro e w' ⟨v, m, dbs, encs, enc, rfl, hr⟩
            have HR := Lib.hid hr
            clear hr
            go_wp2_with fail
            go_ret
            exact ⟨v, m, dbs, encs, enc, rfl, HR.out⟩
end Go.Proofs.S
