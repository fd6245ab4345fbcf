/- Whether a tree holds few values: for any tree. -/
import Derived.Test.YtoilepadamfacaaGreatDoorD26
import Derived.Test.YtoilepadamfacaaGreatDoorD24
import Derived.Deep.LoopGhost
set_option linter.unusedVariables false
set_option linter.unusedSimpArgs false
namespace Go.Proofs.S
open Go.RowKit Go.Maps
/-- How many values are left. -/
def LeftAt (w : World) (l : Nat) (z : Int) : Prop := w.heap[l]? = some (.cells #[.int .i64 z] 3 (0, 0))
def FewP (w0 : World) (l : Nat) (w : World) (e : Ending) (w' : World) : Prop := ∃ b z', e = .returned (.bool b) ∧ LeftAt w' l z' ∧ (b = true → 0 ≤ z' ∧ z' ≤ 2000) ∧ Chg (· = l) w w' ∧ Chg (fun _ => False) w0 w'
/-- The values of a row, each with its contract. -/
def Elem (w0 : World) (A : Option Addr) (n : Nat) : Prop := ∀ i, i < n → ∃ g o, A = some ⟨g, o, none⟩ ∧ ∃ (kd : Int) (u : Nat) (tx : ByteArray) (kA : Option Addr) (kN kC : Nat) (of_ : Int) (dA : Option Addr) (dN dC : Nat),
  w0.cell? ⟨g, o + i * 6, none⟩ = some (.int .i64 kd) ∧ w0.cell? ⟨g, o + i * 6 + 1, none⟩ = some (.int .u64 (u : Int)) ∧ w0.cell? ⟨g, o + i * 6 + 2, none⟩ = some (.string tx) ∧ w0.cell? ⟨g, o + i * 6 + 3, none⟩ = some (.slice kA kN kC) ∧ w0.cell? ⟨g, o + i * 6 + 4, none⟩ = some (.int .i64 of_) ∧ w0.cell? ⟨g, o + i * 6 + 5, none⟩ = some (.slice dA dN dC) ∧
  ∀ (w : World) (l : Nat) (z : Int), Chg (fun _ => False) w0 w → w0.heap.size ≤ l → LeftAt w l z → 0 ≤ z → z ≤ 2000 → Calls Tryz.prog 68 #[.agg #[.int .i64 kd, .int .u64 (u : Int), .string tx, .slice kA kN kC, .int .i64 of_, .slice dA dN dC], .pointer (some ⟨l, 0, none⟩)] w (FewP w0 l w)
set_option maxHeartbeats 8000000 in
set_option maxRecDepth 1000000 in
theorem few_body {w0 : World} {kd : Int} {u : Nat} {tx : ByteArray} {kA dA : Option Addr} {kN kC dN dC : Nat} {o : Int} (hkN : kN ≤ 9223372036854775807) (hdN : dN ≤ 9223372036854775807) (hK : Elem w0 kA kN) (hD : Elem w0 dA dN) (w : World) (l : Nat) (z : Int) (hC : Chg (fun _ => False) w0 w) (hl : w0.heap.size ≤ l) (hL : LeftAt w l z) (hz0 : 0 ≤ z) (hz1 : z ≤ 2000) :
    Calls Tryz.prog 68 #[.agg #[.int .i64 kd, .int .u64 (u : Int), .string tx, .slice kA kN kC, .int .i64 o, .slice dA dN dC], .pointer (some ⟨l, 0, none⟩)] w (FewP w0 l w) := by
  have HK := Lib.hid hK; have HD := Lib.hid hD; have HC := Lib.hid hC; have HL := Lib.hid hL
  have hlw : l < w.heap.size := (Array.getElem?_eq_some_iff.1 hL).1
  have hsz := hC.size
  clear hK hD hC
  have hw : IntKind.i64.wrap (z - 1) = z - 1 := IntWalk.i64_in _ (by omega)
  have l0 := ((Chg.refl (fun _ => False) w).alloc (.cells #[.int .i64 kd, .int .u64 (u : Int), .string tx, .slice kA kN kC, .int .i64 o, .slice dA dN dC] 81)).cell (blk_cell (k := 0) hL rfl) (fun h => h)
  have f0 := blk_free (k := 0) (((Chg.refl (fun _ => False) w).alloc (.cells #[.int .i64 kd, .int .u64 (u : Int), .string tx, .slice kA kN kC, .int .i64 o, .slice dA dN dC] 81)).blkF hL)
  clear hL
  go_enter Tryz.func68, Tryz.ntmps68
  go_upto_region 2 with (fail)
  refine wp_any_world (fun w' => Chg (· = l) w w' ∧ LeftAt w' l (z - 1) ∧ w'.heap[w.heap.size]? = some (.cells #[.int .i64 kd, .int .u64 (u : Int), .string tx, .slice kA kN kC, .int .i64 o, .slice dA dN dC] 81 (0, 0))) ⟨(Chg.setCell (X := (· = l)) (p := ⟨l, 0, none⟩) (Chg.refl _ w) (fun _ => rfl) _).alloc _, ((Chg.refl (fun _ => False) _).alloc _).blkF (setCell_blk (k := 0) HL.out _), by have h := heap_alloc_new (w.setCell ⟨l, 0, none⟩ (.int .i64 (z - 1))) (.cells #[.int .i64 kd, .int .u64 (u : Int), .string tx, .slice kA kN kC, .int .i64 o, .slice dA dN dC] 81); rwa [show (w.setCell ⟨l, 0, none⟩ (.int .i64 (z - 1))).heap.size = w.heap.size by simp [World.setCell]] at h⟩ ?_
  rintro w1 ⟨hC1, hL1, hb1⟩
  clear l0 f0 hw
  have HC1 := Lib.hid hC1; have HL1 := Lib.hid hL1; have HB1 := Lib.hid hb1
  have HC01 : Hid (Chg (fun _ => False) w0 w1) := Lib.hid (HC.out.trans hC1 (fun i hi h => absurd hi (by have h' : i = l := h; omega)))
  have l1 := blk_cell (k := 0) hL1 rfl
  have b3 := blk_cell (k := 3) hb1 rfl
  have b5 := blk_cell (k := 5) hb1 rfl
  clear hC1 hL1 hb1
  rcases Int.lt_or_le (z - 1) 0 with hz | hz
  · have hd : decide (z - 1 < 0) = true := by simpa using hz
    go_wp2_with fail
    go_ret
    exact ⟨false, z - 1, rfl, HL1.out, fun h => (Bool.noConfusion h), HC1.out, HC01.out⟩
  · have hd : decide (z - 1 < 0) = false := by simp; omega
    go_wp2_with fail
    clear b3 b5 l1
    go_loopw [5] (fun i wr => ∃ (k : Nat) (z' : Int), k ≤ kN ∧ i = .int .i64 (k : Int) ∧ LeftAt wr l z' ∧ 0 ≤ z' ∧ z' ≤ 2000 ∧ Chg (· = l) w1 wr ∧ Chg (fun _ => False) w0 wr) (fun i _ => kN - (intOf i).toNat)
    case atStart => exact ⟨0, z - 1, Nat.zero_le _, rfl, HL1.out, hz, by omega, Chg.refl _ _, HC01.out⟩
    case round =>
      obtain ⟨k, z', hk, rfl, hLr, hz'0, hz'1, hCr, hC0r⟩ := hrel
      have HLR := Lib.hid hLr; have HCR := Lib.hid hCr; have HC0R := Lib.hid hC0r
      have hbr := hCr.blk HB1.out (fun h => by have h' : w.heap.size = l := h; omega)
      have b3 := blk_cell (k := 3) hbr rfl
      have b5 := blk_cell (k := 5) hbr rfl
      clear hLr hCr hC0r hbr
      rcases Nat.lt_or_ge k kN with hlt | hge
      · obtain ⟨g, oo, rfl, kd', u', tx', kA', kN', kC', of', dA', dN', dC', c0, c1, c2, c3, c4, c5, hcall⟩ := HK.out k hlt
        have HCALL := Lib.hid hcall
        have d1 : decide ((k : Int) < (kN : Int)) = true := by simp; omega
        have k0 : (0 : Int) ≤ (k : Int) := by omega
        have kl : (k : Int) < (kN : Int) := by omega
        have q0 := HC0R.out.cell c0 (fun h => h); have q1 := HC0R.out.cell c1 (fun h => h); have q2 := HC0R.out.cell c2 (fun h => h)
        have q3 := HC0R.out.cell c3 (fun h => h); have q4 := HC0R.out.cell c4 (fun h => h); have q5 := HC0R.out.cell c5 (fun h => h)
        clear c0 c1 c2 c3 c4 c5 hcall
        go_wp2_with fail
        refine (HCALL.out _ l z' HC0R.out hl HLR.out hz'0 hz'1).mono ?_
        rintro _ w3 ⟨b, z3, rfl, hL3, hb3, hC3, hC03⟩
        have HL3 := Lib.hid hL3; have HC3 := Lib.hid hC3; have HC03 := Lib.hid hC03; have HB3 := Lib.hid hb3
        clear hL3 hC3 hC03 hb3 q0 q1 q2 q3 q4 q5
        cases b with
        | false =>
          go_wp2_with fail
          go_ret
          exact ⟨false, z3, rfl, HL3.out, fun h => (Bool.noConfusion h), (HC1.out.reads HCR.out).reads HC3.out, HC03.out⟩
        | true =>
          go_wp2_with fail
          go_roundw
          case rel => exact ⟨k + 1, z3, hlt, by go_num, HL3.out, (HB3.out (by trivial)).1, (HB3.out (by trivial)).2, HCR.out.reads HC3.out, HC03.out⟩
          case measure => simp [intOf]; omega
      · obtain rfl : k = kN := by omega
        have d1 : decide ((k : Int) < (k : Int)) = false := by simp
        go_wp2_with fail
        clear b3 b5
        obtain ⟨wo, rfl⟩ : ∃ wo : World, wo = wr := ⟨_, rfl⟩
        go_loopw [6] (fun i wr => ∃ (k : Nat) (z' : Int), k ≤ dN ∧ i = .int .i64 (k : Int) ∧ LeftAt wr l z' ∧ 0 ≤ z' ∧ z' ≤ 2000 ∧ Chg (· = l) w1 wr ∧ Chg (fun _ => False) w0 wr) (fun i _ => dN - (intOf i).toNat)
        case atStart => exact ⟨0, z', Nat.zero_le _, rfl, HLR.out, hz'0, hz'1, HCR.out, HC0R.out⟩
        case round =>
          obtain ⟨q, z2, hq, rfl, hLr, hz20, hz21, hCr, hC0r⟩ := hrel
          have HLR2 := Lib.hid hLr; have HCR2 := Lib.hid hCr; have HC0R2 := Lib.hid hC0r
          have hbr := hCr.blk HB1.out (fun h => by have h' : w.heap.size = l := h; omega)
          have b3 := blk_cell (k := 3) hbr rfl
          have b5 := blk_cell (k := 5) hbr rfl
          clear hLr hCr hC0r hbr
          rcases Nat.lt_or_ge q dN with hlt | hge2
          · obtain ⟨g, oo, rfl, kd', u', tx', kA', kN', kC', of', dA', dN', dC', c0, c1, c2, c3, c4, c5, hcall⟩ := HD.out q hlt
            have HCALL := Lib.hid hcall
            have d2 : decide ((q : Int) < (dN : Int)) = true := by simp; omega
            have k0 : (0 : Int) ≤ (q : Int) := by omega
            have kl : (q : Int) < (dN : Int) := by omega
            have q0 := HC0R2.out.cell c0 (fun h => h); have q1 := HC0R2.out.cell c1 (fun h => h); have q2 := HC0R2.out.cell c2 (fun h => h)
            have q3 := HC0R2.out.cell c3 (fun h => h); have q4 := HC0R2.out.cell c4 (fun h => h); have q5 := HC0R2.out.cell c5 (fun h => h)
            clear c0 c1 c2 c3 c4 c5 hcall
            go_wp2_with fail
            refine (HCALL.out _ l z2 HC0R2.out hl HLR2.out hz20 hz21).mono ?_
            rintro _ w3 ⟨b, z3, rfl, hL3, hb3, hC3, hC03⟩
            have HL3 := Lib.hid hL3; have HC3 := Lib.hid hC3; have HC03 := Lib.hid hC03; have HB3 := Lib.hid hb3
            clear hL3 hC3 hC03 hb3 q0 q1 q2 q3 q4 q5
            cases b with
            | false =>
              go_wp2_with fail
              go_ret
              exact ⟨false, z3, rfl, HL3.out, fun h => (Bool.noConfusion h), (HC1.out.reads HCR2.out).reads HC3.out, HC03.out⟩
            | true =>
              go_wp2_with fail
              go_roundw
              case rel => exact ⟨q + 1, z3, hlt, by go_num, HL3.out, (HB3.out (by trivial)).1, (HB3.out (by trivial)).2, HCR2.out.reads HC3.out, HC03.out⟩
              case measure => simp [intOf]; omega
          · obtain rfl : q = dN := by omega
            have d2 : decide ((q : Int) < (q : Int)) = false := by simp
            go_wp2_with fail
            go_ret
            exact ⟨true, z2, rfl, HLR2.out, fun _ => ⟨hz20, hz21⟩, HC1.out.reads HCR2.out, HC0R2.out⟩
/-- A tree's values have their contracts. -/
theorem elem_of_tree {w0 : World} : ∀ (d : Nat) (A : Option Addr) (n : Nat), Tree w0 d A n → Elem w0 A n
  | 0, A, n, h => fun i hi => absurd hi (by have h' : n = 0 := h; omega)
  | d + 1, A, n, h => by
    obtain ⟨_, h⟩ := h
    intro i hi
    rcases h with h | ⟨g, o, rfl, h⟩
    · omega
    obtain ⟨kd, u, tx, kA, kN, kC, of_, dA, dN, dC, hu, htx, c0, c1, c2, c3, c4, c5, t1, t2⟩ := h i hi
    exact ⟨g, o, rfl, kd, u, tx, kA, kN, kC, of_, dA, dN, dC, c0, c1, c2, c3, c4, c5, fun w l z hC hl hL h0 h1 => few_body t1.le t2.le (elem_of_tree d _ _ t1) (elem_of_tree d _ _ t2) w l z hC hl hL h0 h1⟩
end Go.Proofs.S
