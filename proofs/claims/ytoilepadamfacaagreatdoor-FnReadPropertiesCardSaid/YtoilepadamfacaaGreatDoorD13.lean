/- The choice of a form lies among the forms, and the writer writes each plain value: for values of the plain kinds. -/
import Derived.Test.YtoilepadamfacaaGreatDoorD12
set_option linter.unusedVariables false
set_option linter.unusedSimpArgs false
namespace Go.Proofs.S
open Go.RowKit Go.Maps
/-- The forms' block. -/
def FormAt (w : World) (f : Nat) : Prop := ∃ (s : Int) (b : Bool), w.heap[f]? = some (.cells #[.int .u64 s, .bool b] 40 (0, 0))
theorem FormAt.chg {w w' : World} {f : Nat} {X : Nat → Prop} (h : FormAt w f) (hc : Chg X w w') (hx : ¬ X f) : FormAt w' f := by
  obtain ⟨s, b, h⟩ := h
  exact ⟨s, b, hc.blk h hx⟩
theorem FormAt.lt {w : World} {f : Nat} (h : FormAt w f) : f < w.heap.size := by
  obtain ⟨s, b, h⟩ := h
  exact (Array.getElem?_eq_some_iff.1 h).1
theorem u64_range (x : Int) : 0 ≤ IntKind.u64.wrap x ∧ IntKind.u64.wrap x < 18446744073709551616 := by simp [IntKind.wrap, IntKind.bits, IntKind.signed]; omega
set_option maxHeartbeats 4000000 in
set_option maxRecDepth 1000000 in
theorem pick_calls {w : World} {f : Nat} (h : FormAt w f) (n : Nat) (hn : 1 ≤ n) (hn2 : n ≤ 1000) :
    Calls Tryz.prog 35 #[.pointer (some ⟨f, 0, none⟩), .int .i64 (n : Int)] w fun e w' => ∃ r : Nat, e = .returned (.int .i64 (r : Int)) ∧ r < n ∧ FormAt w' f ∧ Chg (· = f) w w' := by
  obtain ⟨s, b, hb⟩ := h
  have c0 := blk_cell (k := 0) hb rfl
  have c1 := blk_cell (k := 1) hb rfl
  have f0 := blk_free (k := 0) hb
  have HB := Lib.hid hb
  clear hb
  cases b with
  | true =>
    go_enter Tryz.func35, Tryz.ntmps35
    go_wp2_with fail
    go_ret
    exact ⟨0, rfl, hn, ⟨s, true, HB.out⟩, Chg.refl _ _⟩
  | false =>
    rcases Nat.lt_or_ge 1 n with h1 | h1
    · have hd : decide ((n : Int) ≤ 1) = false := by simp; omega
      obtain ⟨t, ht⟩ : ∃ t, IntKind.u64.wrap (IntKind.u64.wrap (s * 6364136223846793005) + 1442695040888963407) = t := ⟨_, rfl⟩
      have hr : 0 ≤ t ∧ t < 18446744073709551616 := by rw [← ht]; exact u64_range _
      obtain ⟨r0, r1⟩ := hr
      have hq : wrap64 (t / 8589934592) = t / 8589934592 := by unfold wrap64; omega
      have hq0 : 0 ≤ t / 8589934592 := by omega
      go_enter Tryz.func35, Tryz.ntmps35
      go_wp2_with fail
      go_ret
      have h2 : 0 ≤ t / 8589934592 % (n : Int) := Int.emod_nonneg _ (by omega)
      have h3 : t / 8589934592 % (n : Int) < (n : Int) := Int.emod_lt_of_pos _ (by omega)
      exact ⟨(t / 8589934592 % (n : Int)).toNat, by rw [Int.toNat_of_nonneg h2]; rfl, by omega, ⟨t, false, setCell_blk (k := 0) HB.out _⟩, Chg.setCell (X := (· = f)) (p := ⟨f, 0, none⟩) (Chg.refl _ w) (fun _ => rfl) _⟩
    · obtain rfl : n = 1 := by omega
      go_enter Tryz.func35, Tryz.ntmps35
      go_wp2_with fail
      go_ret
      exact ⟨0, rfl, hn, ⟨s, false, HB.out⟩, Chg.refl _ _⟩
theorem u8_in (b : UInt8) : IntKind.u8.wrap (b.toNat : Int) = (b.toNat : Int) := by have := b.toNat_lt; simp [IntKind.wrap, IntKind.bits, IntKind.signed]; omega
theorem u8_mod (b : UInt8) : (b.toNat : Int) % 256 = (b.toNat : Int) := by have := b.toNat_lt; omega
def RP6 (wR : World) (b1 pb : Nat) (bc : UInt8) (ov : Value) (dA : Option Addr) (dN dC : Nat) (pre data : List UInt8) (i : Nat) (v : Value) (m : Nat → Value) (c : Nat) (w : World) : Prop :=
  match i with
  | 0 => v = ov ∧ Chg (fun _ => False) wR w
  | 1 => v = .pointer (some ⟨pb, 0, none⟩)
  | 2 => v = .int .i64 (bc.toNat : Int)
  | 3 => v = .int .u8 (bc.toNat : Int)
  | 4 => ∃ g, v = .slice (some ⟨g, 0, none⟩) 1 1 ∧ Own8 w wR.heap.size v [bc]
  | 5 => Own8 w b1 v (pre ++ [bc]) ∧ (∀ k, v.ownBlock = some k → ov.ownBlock = some k ∨ wR.heap.size ≤ k)
  | 6 => v = .pointer (some ⟨pb, 1, none⟩)
  | 7 => v = .slice dA dN dC
  | 8 => Own8 w b1 v ((pre ++ [bc]) ++ data)
  | 9 => Own8 w b1 v ((pre ++ [bc]) ++ data)
  | _ => True
theorem RP6_ext (wR : World) (b1 pb : Nat) (bc : UInt8) (ov : Value) (dA : Option Addr) (dN dC : Nat) (pre data : List UInt8) {i : Nat} {v : Value} {m : Nat → Value} {c : Nat} {w w1 : World} (h : RP6 wR b1 pb bc ov dA dN dC pre data i v m c w) (hc : Chg (fun _ => False) w w1) : RP6 wR b1 pb bc ov dA dN dC pre data i v m (c + 1) w1 := by
  unfold RP6 at h ⊢
  split
  · exact ⟨h.1, h.2.reads hc⟩
  · exact h
  · exact h
  · exact h
  · obtain ⟨g, h1, h2⟩ := h; exact ⟨g, h1, Own8.ext h2 hc⟩
  · exact ⟨Own8.ext h.1 hc, h.2⟩
  · exact h
  · exact h
  · exact Own8.ext h hc
  · exact Own8.ext h hc
  · trivial
/-- What flat values are asked. -/
structure FlatV (kd : Int) (u : Nat) (tx : ByteArray) : Prop where
  kind : kd = 0 ∨ kd = 4 ∨ kd = 5 ∨ kd = 16 ∨ kd = 17 ∨ kd = 18 ∨ kd = 19 ∨ kd = 20
  num : u < U64
  num4 : kd = 4 → u < 4294967296
  len : tx.size ≤ 200000
  uuid : kd = 17 → tx.size = 16
theorem pieces_flat {kd : Int} {u : Nat} {tx : ByteArray} (h : FlatV kd u tx) (A : Option Addr) (n c : Nat) (o : Int) (A' : Option Addr) (n' c' : Nat) (fp : Value) (w : World) :
    Calls Tryz.prog 66 #[fp, .agg #[.int .i64 kd, .int .u64 (u : Int), .string tx, .slice A n c, .int .i64 o, .slice A' n' c']] w fun e w' => ∃ v, e = .returned v ∧ PcsNe 3 w.heap.size w' v (GoodV kd u tx.data.toList) ∧ Chg (fun _ => False) w w' := by
  have hl := h.len
  rcases h.kind with rfl | rfl | rfl | rfl | rfl | rfl | rfl | rfl
  · exact pieces_0 tx A n c o A' n' c' fp w
  · exact pieces_4 (h.num4 rfl) tx A n c o A' n' c' fp w
  · exact pieces_5 h.num tx A n c o A' n' c' fp w
  · exact pieces_16 h.num tx A n c o A' n' c' fp w
  · exact pieces_17 tx (h.uuid rfl) A n c o A' n' c' fp w
  · exact pieces_18 tx (by omega) A n c o A' n' c' fp w
  · exact pieces_19 tx (by omega) A n c o A' n' c' fp w
  · exact pieces_20 tx (by omega) A n c o A' n' c' fp w
theorem EncV_len {kd : Int} {u : Nat} {tx : ByteArray} {enc : List UInt8} (h : FlatV kd u tx) (he : EncV kd u tx.data.toList enc) : enc.length ≤ tx.size + 9 := by
  have hl := toList_len tx
  unfold EncV at he
  rcases h.kind with rfl | rfl | rfl | rfl | rfl | rfl | rfl | rfl
  · have he' : enc = [0x40] := he
    rw [he']; simp
  · have he' : EncUint u enc := he
    cases he' <;> simp
  · have he' : EncUlong u enc := he
    cases he' <;> simp
  · have he' : TimeEnc (wrap64 u) enc := he
    generalize wrap64 (u : Int) = m at he'
    cases he'; simp
  · have he' : UuidEnc tx.data.toList enc := he
    cases he' with
    | mk hl16 => simp only [List.length_cons] at hl16 ⊢; omega
  · have he' : BinEnc tx.data.toList enc := he
    cases he' <;> simp <;> omega
  · have he' : TextEnc tx.data.toList enc := he
    cases he' <;> simp <;> omega
  · have he' : TextEnc tx.data.toList enc := he
    cases he' <;> simp <;> omega
set_option maxHeartbeats 4000000 in
set_option maxRecDepth 1000000 in
theorem put_flat {kd : Int} {u : Nat} {tx : ByteArray} (h : FlatV kd u tx) (A : Option Addr) (n c : Nat) (o : Int) (A' : Option Addr) (c' : Nat) {f : Nat} {w : World} (hf : FormAt w f) :
    Calls Tryz.prog 37 #[.agg #[.int .i64 kd, .int .u64 (u : Int), .string tx, .slice A n c, .int .i64 o, .slice A' 0 c'], .pointer (some ⟨f, 0, none⟩)] w fun e w' => ∃ v bs, e = .returned v ∧ Own8 w' w.heap.size v bs ∧ EncV kd u tx.data.toList bs ∧ FormAt w' f ∧ Chg (· = f) w w' := by
  have HFL := Lib.hid h; have HFO := Lib.hid hf
  have hfl := hf.lt
  clear h hf
  go_enter Tryz.func37, Tryz.ntmps37
  go_wp2_with fail
  refine (pieces_flat HFL.out A n c o A' 0 c' _ _).mono ?_
  rintro _ w1 ⟨v, rfl, hP, hC⟩
  obtain ⟨gv, lv, cv, rfl, hg1, hg2, hl1, hl2, hl3, hcells⟩ := hP.at
  have hA : Chg (fun _ => False) w (w.alloc (.cells #[.int .i64 kd, .int .u64 (u : Int), .string tx, .slice A n c, .int .i64 o, .slice A' 0 c'] 81)) := (Chg.refl _ w).alloc _
  have HF1 := Lib.hid ((HFO.out.chg hA (fun h => h)).chg hC (fun h => h))
  have HC1 := Lib.hid (hA.reads hC)
  have HCE := Lib.hid hcells
  clear hP hC hA hcells
  go_wp2_with fail
  refine (pick_calls HF1.out lv hl1 (by omega)).mono ?_
  rintro _ w2 ⟨r, rfl, hr, hF2, hC2⟩
  obtain ⟨code, dv, data, k1, k2, hD, bc, rfl, henc⟩ := HCE.out r hr
  obtain ⟨dA, dN, dC, rfl⟩ := hD.slice
  have hgf : gv ≠ f := by simp at hg1; omega
  have y0 : w2.cell? ⟨gv, r * 2, none⟩ = some (.int .i64 (bc.toNat : Int)) := hC2.cell k1 hgf
  have y1 : w2.cell? ⟨gv, r * 2 + 1, none⟩ = some (.slice dA dN dC) := hC2.cell k2 hgf
  have hD2 := hD.move (w1 := w2) (fun g cs fr hg hh => hC2.block g (Array.getElem?_eq_some_iff.1 hh).1 (by simp at hg; omega))
  have hri : (r : Int) < (lv : Int) := by omega
  have hr0 : (0 : Int) ≤ (r : Int) := by omega
  have hCw : Chg (· = f) w w2 := HC1.out.any.reads hC2
  have HF2 := Lib.hid hF2; have HD2 := Lib.hid hD2; have HCW := Lib.hid hCw; have HEN := Lib.hid henc
  have hw2 : w.heap.size + 1 ≤ w2.heap.size := by have := HC1.out.size; have := hC2.size; simp at hg1; omega
  clear k1 k2 hD hD2 hF2 hC2 hCw henc HCE
  go_upto_region 6 with (fail)
  refine wp_any_world (fun w' => Chg (· = f) w w' ∧ FormAt w' f ∧ w'.heap[w2.heap.size]? = some (.cells #[.int .i64 (bc.toNat : Int), .slice dA dN dC] 154 (0, 0)) ∧ Dat w' w.heap.size (.slice dA dN dC) data) ⟨HCW.out.alloc _, HF2.out.chg ((Chg.refl (fun _ => False) _).alloc _) (fun h => h), heap_alloc_new _ _, (HD2.out.base (by simp)).move (fun g cs fr _ hh => ((Chg.refl (fun _ => False) w2).alloc _).block g (Array.getElem?_eq_some_iff.1 hh).1 (fun h => h))⟩ ?_
  rintro wR ⟨hRC, hRF, hpb, hRD⟩
  have x0 := blk_cell (k := 0) hpb rfl
  have x1 := blk_cell (k := 1) hpb rfl
  have HRF := Lib.hid hRF; have HDATA := Lib.hid hRD; have HRC := Lib.hid hRC
  have HPB : Hid (¬ (Value.slice none 0 0).ownBlock = some w2.heap.size) := Lib.hid (by simp [Value.ownBlock])
  have HBP : Hid (∀ g, (Value.slice none 0 0).ownBlock = some g → g < w.heap.size) := Lib.hid (by simp [Value.ownBlock])
  have HOV : Hid (Own8 wR w.heap.size (.slice none 0 0) []) := Lib.hid (own8_nil _ _)
  have HB1 : w.heap.size ≤ wR.heap.size := hRC.size
  have HLEN : Hid (([] : List UInt8).length + 1 + data.length ≤ 140737488355328) := Lib.hid (by have := EncV_len HFL.out HEN.out; have := HFL.out.len; simp only [List.length_cons, List.length_nil] at *; omega)
  clear hRC hRF hRD hpb y0 y1
  refine wp_region_relZ (RP6 wR w.heap.size w2.heap.size bc (.slice none 0 0) dA dN dC [] data) 5 (fun b w' => Chg (fun k => b = true ∧ (Value.slice none 0 0).ownBlock = some k) wR w') [9] (by kernel_rfl) (by kernel_rfl) (by kernel_rfl) (by kernel_rfl) ((Chg.refl _ wR).drewN 1) ?steps ?fin
  case steps =>
    refine ⟨⟨rfl, ?_⟩, ⟨rfl, ?_⟩, ⟨rfl, ?_⟩, ⟨rfl, ?_⟩, ⟨rfl, ?_⟩, ⟨rfl, ?_⟩, ⟨rfl, ?_⟩, ⟨rfl, ?_⟩, ⟨rfl, ?_⟩, ⟨rfl, ?_⟩, trivial⟩
    all_goals (intro vals ev c w1 b hz1 hz2 hz3 hc hI hR hv h0 hcst hfn hgl)
    · have e5 : ev (.tmp 5) = (.slice none 0 0 : Value) := h0 5 (by kernel_rfl)
      obtain rfl := hz1 (by kernel_rfl)
      have HF : Chg (fun _ => False) wR w1 := hI.mono (fun k h => Bool.noConfusion h.1)
      exact does_value rfl ⟨⟨e5, HF⟩, HF.any, fun i_ x_ m_ _ _ h_ => RP6_ext wR w.heap.size w2.heap.size bc (.slice none 0 0 : Value) dA dN dC [] data h_ (Chg.refl _ _)⟩
    · have e7 : ev (.tmp 7) = .pointer (some ⟨w2.heap.size, 0, none⟩) := h0 7 (by kernel_rfl)
      clear hR hv h0 hc
      refine Step.fixed (x := .pointer (some ⟨w2.heap.size, 0, none⟩)) ?_ ⟨rfl, (hI.mono (fun k h => ⟨by rw [h.1]; rfl, h.2⟩)), fun i_ x_ m_ _ _ h_ => RP6_ext wR w.heap.size w2.heap.size bc (.slice none 0 0 : Value) dA dN dC [] data h_ (Chg.refl _ _)⟩
      unfold OpDoes
      go_simp
    · have e31 : ev (.tmp 31) = .pointer (some ⟨w2.heap.size, 0, none⟩) := (hv 1 31 (by kernel_rfl) (by kernel_rfl) (Nat.le_of_ble_eq_true (by kernel_rfl))).trans (hR 1 (by kernel_rfl))
      have l_x0 := hI.cell x0 (fun h => HPB.out h.2)
      clear hR hv h0 hc
      refine Step.fixed (x := .int .i64 (bc.toNat : Int)) ?_ ⟨rfl, (hI.mono (fun k h => ⟨by rw [h.1]; rfl, h.2⟩)), fun i_ x_ m_ _ _ h_ => RP6_ext wR w.heap.size w2.heap.size bc (.slice none 0 0 : Value) dA dN dC [] data h_ (Chg.refl _ _)⟩
      unfold OpDoes
      go_simp
    · have e32 : ev (.tmp 32) = .int .i64 (bc.toNat : Int) := (hv 2 32 (by kernel_rfl) (by kernel_rfl) (Nat.le_of_ble_eq_true (by kernel_rfl))).trans (hR 2 (by kernel_rfl))
      have hb8 : IntKind.u8.wrap (bc.toNat : Int) = (bc.toNat : Int) := u8_in bc
      have hb9 : (bc.toNat : Int) % 256 = (bc.toNat : Int) := u8_mod bc
      clear hR hv h0 hc
      refine Step.fixed (x := .int .u8 (bc.toNat : Int)) ?_ ⟨rfl, (hI.mono (fun k h => ⟨by rw [h.1]; rfl, h.2⟩)), fun i_ x_ m_ _ _ h_ => RP6_ext wR w.heap.size w2.heap.size bc (.slice none 0 0 : Value) dA dN dC [] data h_ (Chg.refl _ _)⟩
      unfold OpDoes
      go_simp
    · have e33 : ev (.tmp 33) = .int .u8 (bc.toNat : Int) := (hv 3 33 (by kernel_rfl) (by kernel_rfl) (Nat.le_of_ble_eq_true (by kernel_rfl))).trans (hR 3 (by kernel_rfl))
      clear hR hv h0
      refine OpDoes.mono (p := fun v w2 => v = .slice (some ⟨w1.heap.size, 0, none⟩) 1 1 ∧ w2 = w1.alloc (.cells #[.int .u8 (bc.toNat : Int)] 5)) ?_ ?_
      · clear hI
        unfold OpDoes
        go_simp
      · rintro v w2 ⟨rfl, rfl⟩
        refine ⟨⟨_, rfl, own8_lit w1 wR.heap.size hI.size [bc] (by simp [maxLen])⟩, ?_, fun i_ x_ m_ _ _ h_ => RP6_ext wR w.heap.size w2.heap.size bc (.slice none 0 0 : Value) dA dN dC [] data h_ ((Chg.refl _ _).alloc _)⟩
        exact (hI.alloc _).mono (fun k h => ⟨by rw [h.1]; rfl, h.2⟩)
    · have e30 : ev (.tmp 30) = vals 0 := hv 0 30 (by kernel_rfl) (by kernel_rfl) (Nat.le_of_ble_eq_true (by kernel_rfl))
      have e34 : ev (.tmp 34) = vals 4 := hv 4 34 (by kernel_rfl) (by kernel_rfl) (Nat.le_of_ble_eq_true (by kernel_rfl))
      obtain rfl := hz2 rfl
      obtain ⟨o1, o2⟩ := (hR 0 (by kernel_rfl) : vals 0 = (.slice none 0 0 : Value) ∧ Chg (fun _ => False) wR w1)
      obtain ⟨g, g1, g2⟩ := (hR 4 (by kernel_rfl) : ∃ g, vals 4 = .slice (some ⟨g, 0, none⟩) 1 1 ∧ Own8 w1 wR.heap.size (vals 4) [bc])
      rw [o1] at e30
      rw [g1] at e34 g2
      obtain ⟨v1, w', hrun, ho, hg, hat⟩ := run_app8' (Own8.ext HOV.out o2) (Bs.of_own g2) (by have := HLEN.out; simp only [List.length_append, List.length_cons, List.length_nil] at this ⊢; omega) (Nat.le_trans HB1 o2.size)
      refine does_value' (w' := w') (v := v1) (by simp only [execOp, e30, e34, resolve, invoke, builtin, List.map_toArray, List.map_cons, List.map_nil, Sem.run_bind, Sem.run_pure, Result.andThen_ok, hrun]) ⟨⟨ho, fun k hk => ?_⟩, (o2.any (X := fun k => (false || 5 == 5) = true ∧ (.slice none 0 0 : Value).ownBlock = some k)).grown hg (fun k hk _ => ⟨rfl, hk⟩), fun i_ x_ m_ hne hk h_ => ?_⟩
      · rcases hat with e | e
        · exact .inl (e ▸ hk)
        · rw [e] at hk; injection hk with hk; have := o2.size; exact .inr (by omega)
      · have hmem := keep_in [5, 6, 7] (by kernel_rfl) (by kernel_rfl) (by kernel_rfl) hk
        simp only [List.mem_cons, List.not_mem_nil, or_false] at hmem
        rcases hmem with rfl | rfl | rfl
        · exact absurd rfl hne
        · exact h_
        · exact h_
    · have e7 : ev (.tmp 7) = .pointer (some ⟨w2.heap.size, 0, none⟩) := h0 7 (by kernel_rfl)
      clear hR hv h0 hc
      refine Step.fixed (x := .pointer (some ⟨w2.heap.size, 1, none⟩)) ?_ ⟨rfl, (hI.mono (fun k h => ⟨by rw [h.1]; rfl, h.2⟩)), fun i_ x_ m_ _ _ h_ => RP6_ext wR w.heap.size w2.heap.size bc (.slice none 0 0 : Value) dA dN dC [] data h_ (Chg.refl _ _)⟩
      unfold OpDoes
      go_simp
    · have e36 : ev (.tmp 36) = .pointer (some ⟨w2.heap.size, 1, none⟩) := (hv 6 36 (by kernel_rfl) (by kernel_rfl) (Nat.le_of_ble_eq_true (by kernel_rfl))).trans (hR 6 (by kernel_rfl))
      have l_x1 := hI.cell x1 (fun h => HPB.out h.2)
      clear hR hv h0 hc
      refine Step.fixed (x := .slice dA dN dC) ?_ ⟨rfl, (hI.mono (fun k h => ⟨by rw [h.1]; rfl, h.2⟩)), fun i_ x_ m_ _ _ h_ => RP6_ext wR w.heap.size w2.heap.size bc (.slice none 0 0 : Value) dA dN dC [] data h_ (Chg.refl _ _)⟩
      unfold OpDoes
      go_simp
    · have e35 : ev (.tmp 35) = vals 5 := hv 5 35 (by kernel_rfl) (by kernel_rfl) (Nat.le_of_ble_eq_true (by kernel_rfl))
      have e37 : ev (.tmp 37) = .slice dA dN dC := (hv 7 37 (by kernel_rfl) (by kernel_rfl) (Nat.le_of_ble_eq_true (by kernel_rfl))).trans (hR 7 (by kernel_rfl))
      obtain ⟨o1, o2⟩ := (hR 5 (by kernel_rfl) : Own8 w1 w.heap.size (vals 5) ([] ++ [bc]) ∧ (∀ k, (vals 5).ownBlock = some k → (.slice none 0 0 : Value).ownBlock = some k ∨ wR.heap.size ≤ k))
      obtain ⟨v1, w', hrun, ho, hg, _⟩ := run_app8' o1 (HDATA.out.move (fun g cs fr hg1 hh => hI.block g (Array.getElem?_eq_some_iff.1 hh).1 (fun h => absurd hg1 (Nat.not_le.2 (HBP.out g h.2))))).bs (by have := HLEN.out; simp only [List.length_append, List.length_cons, List.length_nil] at this ⊢; omega) (Nat.le_trans HB1 hI.size)
      refine does_value' (w' := w') (v := v1) (by simp only [execOp, e35, e37, resolve, invoke, builtin, List.map_toArray, List.map_cons, List.map_nil, Sem.run_bind, Sem.run_pure, Result.andThen_ok, hrun]) ⟨ho, ?_, fun i_ x_ m_ hne hk h_ => ?_⟩
      · obtain rfl : b = true := hz3 (by kernel_rfl)
        exact hI.trans (Y := fun k => (.slice none 0 0 : Value).ownBlock = some k ∨ wR.heap.size ≤ k) ((Chg.refl _ w1).grown hg (fun k hk _ => o2 k hk)) (fun i hi h => h.elim (fun h => ⟨rfl, h⟩) (fun h => absurd hi (Nat.not_lt.2 h)))
      · have hmem := keep_in [8] (by kernel_rfl) (by kernel_rfl) (by kernel_rfl) hk
        simp only [List.mem_cons, List.not_mem_nil, or_false] at hmem
        exact absurd hmem hne
    · have e38 : ev (.tmp 38) = vals 8 := hv 8 38 (by kernel_rfl) (by kernel_rfl) (Nat.le_of_ble_eq_true (by kernel_rfl))
      have h8 : Own8 w1 w.heap.size (vals 8) (([] ++ [bc]) ++ data) := hR 8 (by kernel_rfl)
      exact does_value rfl ⟨e38 ▸ h8, hI.mono (fun k h => ⟨by rw [h.1]; rfl, h.2⟩), fun i_ x_ m_ _ _ h_ => RP6_ext wR w.heap.size w2.heap.size bc (.slice none 0 0 : Value) dA dN dC [] data h_ (Chg.refl _ _)⟩
  case fin =>
    intro vals c9 wZ hb hfin
    obtain ⟨b, hZ⟩ := hb
    have h9 : Own8 wZ w.heap.size (vals 9) (([] ++ [bc]) ++ data) := hfin 9 (by kernel_rfl) (by decide)
    clear hfin
    obtain ⟨zA, zN, zC, h9e⟩ := h9.slice
    rw [h9e] at h9
    have hZ' : Chg (fun _ => False) wR wZ := hZ.mono (fun k h => by simp [Value.ownBlock] at h)
    have HP := Lib.hid h9; have HCZ := Lib.hid hZ'
    clear h9 hZ hZ' x0 x1
    simp only [putAll, Act.put, List.setIfInBounds_toArray, List.set_cons_zero, List.set_cons_succ, Nat.reduceAdd]
    rw [h9e]
    clear h9e
    go_wp2_with fail
    go_ret
    exact ⟨_, _, rfl, HP.out, HEN.out, HRF.out.chg HCZ.out (fun h => h), HRC.out.reads HCZ.out.any⟩
end Go.Proofs.S
