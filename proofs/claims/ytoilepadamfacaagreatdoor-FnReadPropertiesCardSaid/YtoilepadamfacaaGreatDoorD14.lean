/- The writer gives the pieces of a list of plain values: for rows of distinct blocks. -/
import Derived.Test.YtoilepadamfacaaGreatDoorD13
set_option linter.unusedVariables false
set_option linter.unusedSimpArgs false
namespace Go.Proofs.S
open Go.RowKit Go.Maps
/-- A value without values in it. -/
structure FV where
  kd : Int
  nm : Nat
  tx : ByteArray
  kA : Option Addr
  kN : Nat
  kC : Nat
  of_ : Int
  dA : Option Addr
  dC : Nat
/-- Its cells. -/
structure FVAt (w : World) (g o : Nat) (x : FV) : Prop where
  c0 : w.cell? ⟨g, o, none⟩ = some (.int .i64 x.kd)
  c1 : w.cell? ⟨g, o + 1, none⟩ = some (.int .u64 (x.nm : Int))
  c2 : w.cell? ⟨g, o + 2, none⟩ = some (.string x.tx)
  c3 : w.cell? ⟨g, o + 3, none⟩ = some (.slice x.kA x.kN x.kC)
  c4 : w.cell? ⟨g, o + 4, none⟩ = some (.int .i64 x.of_)
  c5 : w.cell? ⟨g, o + 5, none⟩ = some (.slice x.dA 0 x.dC)
theorem FVAt.chg {w w' : World} {X : Nat → Prop} {g o : Nat} {x : FV} (h : FVAt w g o x) (hc : Chg X w w') (hx : ¬ X g) : FVAt w' g o x :=
  ⟨hc.cell h.c0 hx, hc.cell h.c1 hx, hc.cell h.c2 hx, hc.cell h.c3 hx, hc.cell h.c4 hx, hc.cell h.c5 hx⟩
/-- The forms of a list, its values written. -/
def EncL (encs : List (List UInt8)) (enc : List UInt8) : Prop :=
  (encs = [] ∧ enc = [0x45]) ∨
  (∃ s k : UInt8, encs.length = k.toNat ∧ s.toNat = encs.flatten.length + 1 ∧ enc = 0xc0 :: s :: k :: encs.flatten) ∨
  (∃ s0 s1 s2 s3 k0 k1 k2 k3 : UInt8, encs.length = Lib.beNat [k0, k1, k2, k3] ∧ Lib.beNat [s0, s1, s2, s3] = encs.flatten.length + 4 ∧ enc = 0xd0 :: s0 :: s1 :: s2 :: s3 :: k0 :: k1 :: k2 :: k3 :: encs.flatten)
def GoodL (encs : List (List UInt8)) (code : Int) (data : List UInt8) : Prop := ∃ b : UInt8, code = (b.toNat : Int) ∧ EncL encs (b :: data)
theorem goodL_short {encs : List (List UInt8)} (h1 : encs.length ≤ 255) (h2 : encs.flatten.length + 1 ≤ 255) : GoodL encs 192 (be 1 (encs.flatten.length + 1) ++ be 1 encs.length ++ encs.flatten) := by
  obtain ⟨s, e1, e2⟩ := len1 h2
  obtain ⟨k, e3, e4⟩ := len1 h1
  rw [e1, e3]
  exact ⟨0xc0, rfl, .inr (.inl ⟨s, k, e4, e2.symm, rfl⟩)⟩
theorem goodL_long {encs : List (List UInt8)} (h1 : encs.length ≤ 65535) (h2 : encs.flatten.length + 4 ≤ 2000000000) : GoodL encs 208 (be 4 (encs.flatten.length + 4) ++ be 4 encs.length ++ encs.flatten) := by
  obtain ⟨s0, s1, s2, s3, e1, e2⟩ := len4 h2
  obtain ⟨k0, k1, k2, k3, e3, e4⟩ := len4 (n := encs.length) (by omega)
  rw [e1, e3]
  exact ⟨0xd0, rfl, .inr (.inr ⟨s0, s1, s2, s3, k0, k1, k2, k3, e4, e2.symm, rfl⟩)⟩
theorem goodL_nil : GoodL [] 69 [] := ⟨0x45, rfl, .inl ⟨rfl, rfl⟩⟩
theorem lengthed_list {dA : Option Addr} {n dC : Nat} {encs : List (List UInt8)} {m : Nat} {w : World} (hn : encs.flatten.length = n) (hm : encs.length = m) (hm2 : m ≤ 65535) (hs : Bs w (.slice dA n dC) encs.flatten) (hlen : n + 4 ≤ 2000000000) :
    Calls Tryz.prog 122 #[.int .i64 192, .int .i64 208, .slice dA n dC, .int .i64 (m : Int)] w fun e w' => ∃ v, e = .returned v ∧ PcsNe 2 w.heap.size w' v (GoodL encs) ∧ Chg (fun _ => False) w w' := by
  subst hn
  subst hm
  exact lengthed_cnt hs (by omega) hm2 (fun h1 h2 => goodL_short h1 h2) (goodL_long hm2 hlen)
theorem put_FV {x : FV} (h : FlatV x.kd x.nm x.tx) {f : Nat} {w : World} (hf : FormAt w f) :
    Calls Tryz.prog 37 #[.agg #[.int .i64 x.kd, .int .u64 (x.nm : Int), .string x.tx, .slice x.kA x.kN x.kC, .int .i64 x.of_, .slice x.dA 0 x.dC], .pointer (some ⟨f, 0, none⟩)] w fun e w' => ∃ v bs, e = .returned v ∧ Own8 w' w.heap.size v bs ∧ EncV x.kd x.nm x.tx.data.toList bs ∧ FormAt w' f ∧ Chg (· = f) w w' :=
  put_flat h _ _ _ _ _ _ hf
/-- What the loop over a list's values has written. -/
structure Body (w : World) (f base : Nat) (F : Nat → FV) (k : Nat) (v : Value) (wr : World) (encs : List (List UInt8)) : Prop where
  len : encs.length = k
  enc : ∀ j, j < k → EncV (F j).kd (F j).nm (F j).tx.data.toList (encs.getD j [])
  own : Own8 wr base v encs.flatten
  form : FormAt wr f
  chg : Chg (· = f) w wr
  small : encs.flatten.length ≤ k * 200009
theorem own8_ge {w : World} {base k : Nat} {v : Value} {l : List UInt8} (h : Own8 w base v l) (hk : v.ownBlock = some k) : base ≤ k := by
  rcases h.2 with ⟨rfl, _⟩ | ⟨g, cap, cur, rfl, hg, _⟩
  · cases hk
  · simp only [Value.ownBlock, Option.some.injEq] at hk; omega
theorem Body.snoc {w : World} {f base : Nat} {F : Nat → FV} {k : Nat} {v v1 : Value} {wr w2 w3 : World} {encs : List (List UInt8)} {bs : List UInt8} (h : Body w f base F k v wr encs) (hC2 : Chg (· = f) wr w2) (hF2 : FormAt w2 f) (henc : EncV (F k).kd (F k).nm (F k).tx.data.toList bs) (hs : bs.length ≤ 200009) (ho : Own8 w3 base v1 (encs.flatten ++ bs)) (hC3 : Chg (fun b => base ≤ b) w2 w3) (hf : f < base) (hb : w.heap.size ≤ base) : Body w f base F (k + 1) v1 w3 (encs ++ [bs]) := by
  refine ⟨by simp [h.len], fun j hj => ?_, by simpa using ho, hF2.chg hC3 (by omega), (h.chg.reads hC2).trans hC3 (fun i hi h => absurd hi (by omega)), ?_⟩
  · rcases Nat.lt_or_ge j k with h1 | h1
    · rw [List.getD_eq_getElem?_getD, List.getElem?_append_left (by rw [h.len]; exact h1), ← List.getD_eq_getElem?_getD]
      exact h.enc j h1
    · obtain rfl : j = k := by omega
      rw [List.getD_eq_getElem?_getD, List.getElem?_append_right (by rw [h.len]; exact Nat.le_refl _), h.len, Nat.sub_self]
      exact henc
  · have := h.small
    simp only [List.flatten_append, List.flatten_cons, List.flatten_nil, List.append_nil, List.length_append]
    omega
set_option maxHeartbeats 4000000 in
set_option maxRecDepth 1000000 in
theorem pieces_list {F : Nat → FV} {m : Nat} (hF : ∀ j, j < m → FlatV (F j).kd (F j).nm (F j).tx) (hm : m ≤ 13) {kg : Nat} {kC : Nat} {u : Int} {tx : ByteArray} {o : Int} {D : Value} {dA : Option Addr} {dN dC : Nat} (hD : D = .slice dA dN dC) {f : Nat} {w : World} (hf : FormAt w f) (hkf : kg ≠ f) (hk : ∀ j, j < m → FVAt w kg (j * 6) (F j)) :
    Calls Tryz.prog 66 #[.pointer (some ⟨f, 0, none⟩), .agg #[.int .i64 21, .int .u64 u, .string tx, .slice (some ⟨kg, 0, none⟩) m kC, .int .i64 o, D]] w fun e w' => ∃ v encs, e = .returned v ∧ encs.length = m ∧ (∀ j, j < m → EncV (F j).kd (F j).nm (F j).tx.data.toList (encs.getD j [])) ∧ PcsNe 3 w.heap.size w' v (GoodL encs) ∧ FormAt w' f ∧ Chg (· = f) w w' := by
  subst hD
  have HFF := Lib.hid hF; have HFO := Lib.hid hf; have HK := Lib.hid hk
  have hfl := hf.lt
  clear hF hf hk
  go_enter Tryz.func66, Tryz.ntmps66
  go_wp2_with fail
  go_loopw [5, 63] (fun dv i wr => ∃ (k : Nat) (encs : List (List UInt8)), k ≤ m ∧ i = .int .i64 (k : Int) ∧ (∃ A n c, dv = .slice A n c) ∧ Body w f (w.heap.size + 1) F k dv wr encs ∧ wr.heap[w.heap.size]? = some (.cells #[.int .i64 21, .int .u64 u, .string tx, .slice (some ⟨kg, 0, none⟩) m kC, .int .i64 o, .slice dA dN dC] 81 (0, 0))) (fun _ i _ => m - (intOf i).toNat)
  case atStart => exact ⟨0, [], Nat.zero_le _, rfl, ⟨_, _, _, rfl⟩, ⟨rfl, fun j hj => absurd hj (Nat.not_lt_zero _), own8_nil _ _, HFO.out.chg ((Chg.refl (fun _ => False) w).alloc _) (fun h => h), (Chg.refl _ w).alloc _, by simp⟩, heap_alloc_new _ _⟩
  case round =>
    obtain ⟨k, encs, hkm, rfl, ⟨A5, n5, c5, rfl⟩, hB, hbox⟩ := hrel
    have HBD := Lib.hid hB; have HBOX := Lib.hid hbox
    have hwr : w.heap.size < wr.heap.size := (Array.getElem?_eq_some_iff.1 hbox).1
    clear hB hbox
    rcases Nat.lt_or_ge k m with hlt | hge
    · have hd : decide ((k : Int) < (m : Int)) = true := by simp; omega
      have hx := (HK.out k hlt).chg HBD.out.chg hkf
      obtain ⟨q0, q1, q2, q3, q4, q5⟩ := hx
      have hk0 : (0 : Int) ≤ (k : Int) := by omega
      have hkl : (k : Int) < (m : Int) := by omega
      go_upto_region 21 with (fail)
      have HFN := Lib.hid ((HBD.out.form.chg (((Chg.refl (fun _ => False) wr).alloc (.cells #[.int .i64 (F k).kd, .int .u64 ((F k).nm : Int), .string (F k).tx, .slice (F k).kA (F k).kN (F k).kC, .int .i64 (F k).of_, .slice (F k).dA 0 (F k).dC] 81))) (fun h => h)))
      go_wp2_with fail
      refine (put_FV (HFF.out k hlt) HFN.out).mono ?_
      rintro _ w2 ⟨bv, bs, rfl, hbv, henc, hF2, hC2⟩
      obtain ⟨bA, bn, bc, rfl⟩ := hbv.slice
      have HC2 : Hid (Chg (· = f) wr w2) := Lib.hid hC2.from_alloc
      have HENC := Lib.hid henc; have HBV := Lib.hid hbv; have HF2 := Lib.hid hF2
      have hsz : wr.heap.size + 1 ≤ w2.heap.size := by have := hC2.size; simp at this; omega
      have hlenk : bs.length ≤ 200009 := by have := EncV_len (HFF.out k hlt) henc; have := (HFF.out k hlt).len; omega
      have HSM := Lib.hid hlenk
      have HBX : Hid (w2.heap[w.heap.size]? = some (.cells #[.int .i64 21, .int .u64 u, .string tx, .slice (some ⟨kg, 0, none⟩) m kC, .int .i64 o, .slice dA dN dC] 81 (0, 0))) := Lib.hid (HC2.out.blk HBOX.out (by omega))
      have HOW : Hid (Own8 w2 (w.heap.size + 1) (.slice A5 n5 c5) encs.flatten) := Lib.hid (HBD.out.own.chg HC2.out (fun k h => by subst h; omega))
      clear hC2 henc hbv hF2 hlenk
      obtain ⟨v1, w3, hrun, ho, hg, hat⟩ := run_app8' HOW.out (Bs.of_own HBV.out) (by have := HBD.out.small; have := HSM.out; omega) (by omega)
      have HRUN := Lib.hid hrun; have HO := Lib.hid ho; have HG := Lib.hid hg
      obtain ⟨vA, vn, vc, rfl⟩ := ho.slice
      have HC3 : Hid (Chg (fun b => w.heap.size + 1 ≤ b) w2 w3) := Lib.hid ((Chg.refl _ w2).grown hg (fun k hk _ => own8_ge HOW.out hk))
      clear hrun ho hg hat
      go_wp2_with (at_builtin; refine wpList_app HRUN.out rfl rfl rfl rfl rfl ?_)
      go_roundw
      case rel => exact ⟨k + 1, encs ++ [bs], hlt, by go_num, ⟨_, _, _, rfl⟩, HBD.out.snoc HC2.out HF2.out HENC.out HSM.out HO.out HC3.out (by omega) (by omega), HC3.out.blk HBX.out (by omega)⟩
      case measure => simp [intOf]; omega
    · obtain rfl : k = m := by omega
      have hd : decide ((k : Int) < (k : Int)) = false := by simp
      have z0 := blk_cell (k := 0) HBOX.out rfl
      have z3 := blk_cell (k := 3) HBOX.out rfl
      go_upto_region 25 with (fail)
      obtain ⟨sA, sc, hse⟩ := own8_shape HBD.out.own
      injection hse with e1 e2 e3
      have HNN : Hid (encs.flatten.length = n5) := Lib.hid e2.symm
      clear e1 e2 e3
      have HLN : Hid (n5 + 4 ≤ 2000000000) := Lib.hid (by have := HBD.out.small; have := HNN.out; omega)
      go_wp2_with fail
      have hLL := Lib.hid (lengthed_list HNN.out HBD.out.len (show k ≤ 65535 by omega) (Bs.of_own HBD.out.own) HLN.out)
      with_reducible refine hLL.out.mono ?_
      rintro _ w2 ⟨v, rfl, hp, hC⟩
      have HP := Lib.hid (hp.base (base' := w.heap.size) (by omega)); have HC := Lib.hid hC
      have HBX := Lib.hid (hC.blkF HBOX.out)
      obtain ⟨g, len, c, hv, _⟩ := hp.at
      rw [hv] at HP ⊢
      clear hp hC z0 z3 hv
      have z3 := blk_cell (k := 3) HBX.out rfl
      have HFIN : Hid (FormAt w2 f ∧ Chg (· = f) w w2) := Lib.hid ⟨HBD.out.form.chg HC.out (fun h => h), HBD.out.chg.reads HC.out.any⟩
      have hw2 : w.heap.size ≤ w2.heap.size := HFIN.out.2.size
      rcases Nat.eq_zero_or_pos k with rfl | hk0
      · have he : encs = [] := List.eq_nil_of_length_eq_zero HBD.out.len
        subst he
        have HA := Lib.hid (PcsNe.lit1 (G := GoodL []) (x := .int .i64 69) (y := .slice none 0 0) ⟨_, [], rfl, Dat.of_own (own8_nil w2 w.heap.size), goodL_nil⟩ hw2)
        have hC4 : Chg (fun _ => False) w2 (w2.alloc (.cells #[.int .i64 69, .slice none 0 0] 154)) := (Chg.refl _ _).alloc _
        have HB4 := Lib.hid (HP.out.chg hC4 (fun _ h => h.elim))
        have HF4 := Lib.hid (HFIN.out.1.chg hC4 (fun h => h))
        have HC5 := Lib.hid (HFIN.out.2.reads hC4.any)
        clear hC4
        obtain ⟨v1, w3, hrun, hpp, hcc, hgg⟩ := run_appP HA.out.pcs HB4.out (by decide) (by simp; omega)
        have HRUN := Lib.hid hrun; have HPP := Lib.hid hpp
        have HCC := Lib.hid (hcc w2.heap.size (fun k hk => by simp [Value.ownBlock] at hk; omega))
        obtain ⟨g1, len1, c1, hv1, _⟩ := hpp.at
        subst hv1
        clear hrun hpp hcc hgg
        go_wp2_with (at_builtin; refine wpList_app HRUN.out rfl rfl rfl rfl rfl ?_)
        go_ret
        exact ⟨_, [], rfl, rfl, fun j hj => absurd hj (Nat.not_lt_zero _), HPP.out, HF4.out.chg HCC.out (by omega), HC5.out.trans HCC.out (fun i hi h => absurd hi (by omega))⟩
      · have hd2 : decide ((k : Int) = 0) = false := by simp; omega
        go_wp2_with fail
        go_ret
        exact ⟨_, encs, rfl, HBD.out.len, HBD.out.enc, HP.out.more (by decide), HFIN.out.1, HFIN.out.2⟩
end Go.Proofs.S
