/- The read properties are turned into a value, field by field: for fields that were read. -/
import Derived.Test.YtoilepadamfacaaGreatDoorB23
import Derived.Test.YtoilepadamfacaaGreatDoorD5
import Derived.Deep.RegionHeld3
import Derived.Deep.DeepCutAuto
set_option linter.unusedVariables false
set_option linter.unusedSimpArgs false
namespace Go.Proofs.S
open Go.RowKit

theorem chg13F {w0 w : World} {g : Nat} {y0 y1 y2 y3 y4 y5 y6 y7 y8 y9 y10 y11 y12 : Value} (h : Chg (fun _ => False) w0 w) (hg : w0.heap.size ≤ g) : Chg (fun _ => False) w0 (((((((((((((w.setCell ⟨g, 0, none⟩ y0).setCell ⟨g, 1, none⟩ y1).setCell ⟨g, 2, none⟩ y2).setCell ⟨g, 3, none⟩ y3).setCell ⟨g, 4, none⟩ y4).setCell ⟨g, 5, none⟩ y5).setCell ⟨g, 6, none⟩ y6).setCell ⟨g, 7, none⟩ y7).setCell ⟨g, 8, none⟩ y8).setCell ⟨g, 9, none⟩ y9).setCell ⟨g, 10, none⟩ y10).setCell ⟨g, 11, none⟩ y11).setCell ⟨g, 12, none⟩ y12) := by
  have hx : ∀ k : Nat, (⟨g, k, none⟩ : Addr).block < w0.heap.size → False := fun _ hh => absurd hh (Nat.not_lt.2 hg)
  exact (((((((((((((h.setCell (p := ⟨g, 0, none⟩) (hx 0) _).setCell (p := ⟨g, 1, none⟩) (hx 1) _).setCell (p := ⟨g, 2, none⟩) (hx 2) _).setCell (p := ⟨g, 3, none⟩) (hx 3) _).setCell (p := ⟨g, 4, none⟩) (hx 4) _).setCell (p := ⟨g, 5, none⟩) (hx 5) _).setCell (p := ⟨g, 6, none⟩) (hx 6) _).setCell (p := ⟨g, 7, none⟩) (hx 7) _).setCell (p := ⟨g, 8, none⟩) (hx 8) _).setCell (p := ⟨g, 9, none⟩) (hx 9) _).setCell (p := ⟨g, 10, none⟩) (hx 10) _).setCell (p := ⟨g, 11, none⟩) (hx 11) _).setCell (p := ⟨g, 12, none⟩) (hx 12) _)
theorem First.ext {w0 w w1 : World} {base g : Nat} {f1 f2 f3 f4 f6 f7 f10 f11 f12 : PF} (h : First w0 base f1 f2 f3 f4 f6 f7 f10 f11 f12 g w) (hc : Chg (fun _ => False) w w1) : First w0 base f1 f2 f3 f4 f6 f7 f10 f11 f12 g w1 := by
  obtain ⟨e1, e2, e3, e4, e6, e7, e10, e11, e12, hb, ha, hg⟩ := h
  exact ⟨e1, e2, e3, e4, e6, e7, e10, e11, e12, (hc.block g (Array.getElem?_eq_some_iff.1 hb).1 (fun h => h)).trans hb, ha.ext hc, hg⟩
def RP (base x : Nat) (S : Nat → World → Prop) (u1 u2 u3 u4 u6 u7 u10 u11 u12 : Value) (f1 f2 f3 f4 f6 f7 f10 f11 f12 : PF) (i : Nat) (v : Value) (m : Nat → Value) (c : Nat) (w : World) : Prop :=
  match i with
  | 0 => v = .pointer (some ⟨x, 0, none⟩)
  | 1 => v = .pointer (some ⟨x, 0, none⟩)
  | 2 => v = .pointer (some ⟨x, 1, none⟩)
  | 3 => v = u1
  | 4 => (∃ A n c, v = .slice A n c) ∧ ResAt base (.bin (binOf f1)) w v
  | 5 => v = .pointer (some ⟨x, 0, none⟩)
  | 6 => v = .pointer (some ⟨x, 0, none⟩)
  | 7 => v = .pointer (some ⟨x, 2, none⟩)
  | 8 => v = u2
  | 9 => (∃ A n c, v = .slice A n c) ∧ ResAt base f2 w v
  | 10 => v = .pointer (some ⟨x, 0, none⟩)
  | 11 => v = .pointer (some ⟨x, 0, none⟩)
  | 12 => v = .pointer (some ⟨x, 3, none⟩)
  | 13 => v = u3
  | 14 => (∃ A n c, v = .slice A n c) ∧ ResAt base f3 w v
  | 15 => v = .pointer (some ⟨x, 0, none⟩)
  | 16 => v = .pointer (some ⟨x, 0, none⟩)
  | 17 => v = .pointer (some ⟨x, 4, none⟩)
  | 18 => v = u4
  | 19 => (∃ A n c, v = .slice A n c) ∧ ResAt base f4 w v
  | 20 => v = .pointer (some ⟨x, 0, none⟩)
  | 21 => v = .pointer (some ⟨x, 0, none⟩)
  | 22 => v = .pointer (some ⟨x, 6, none⟩)
  | 23 => v = u6
  | 24 => (∃ A n c, v = .slice A n c) ∧ ResAt base f6 w v
  | 25 => v = .pointer (some ⟨x, 0, none⟩)
  | 26 => v = .pointer (some ⟨x, 0, none⟩)
  | 27 => v = .pointer (some ⟨x, 7, none⟩)
  | 28 => v = u7
  | 29 => (∃ A n c, v = .slice A n c) ∧ ResAt base f7 w v
  | 30 => v = .pointer (some ⟨x, 0, none⟩)
  | 31 => v = .pointer (some ⟨x, 0, none⟩)
  | 32 => v = .pointer (some ⟨x, 10, none⟩)
  | 33 => v = u10
  | 34 => (∃ A n c, v = .slice A n c) ∧ ResAt base f10 w v
  | 35 => v = .pointer (some ⟨x, 0, none⟩)
  | 36 => v = .pointer (some ⟨x, 0, none⟩)
  | 37 => v = .pointer (some ⟨x, 11, none⟩)
  | 38 => v = u11
  | 39 => (∃ A n c, v = .slice A n c) ∧ ResAt base f11 w v
  | 40 => v = .pointer (some ⟨x, 0, none⟩)
  | 41 => v = .pointer (some ⟨x, 0, none⟩)
  | 42 => v = .pointer (some ⟨x, 12, none⟩)
  | 43 => v = u12
  | 44 => (∃ A n c, v = .slice A n c) ∧ ResAt base f12 w v
  | 45 => ∃ A1 n1 c1 A2 n2 c2 A3 n3 c3 A4 n4 c4 A6 n6 c6 A7 n7 c7 A10 n10 c10 A11 n11 c11 A12 n12 c12, v = .agg #[.slice none 0 0, .slice A1 n1 c1, .slice A2 n2 c2, .slice A3 n3 c3, .slice A4 n4 c4, .slice none 0 0, .slice A6 n6 c6, .slice A7 n7 c7, .slice none 0 0, .slice none 0 0, .slice A10 n10 c10, .slice A11 n11 c11, .slice A12 n12 c12] ∧ ResAt base (.bin (binOf f1)) w (.slice A1 n1 c1) ∧ ResAt base f2 w (.slice A2 n2 c2) ∧ ResAt base f3 w (.slice A3 n3 c3) ∧ ResAt base f4 w (.slice A4 n4 c4) ∧ ResAt base f6 w (.slice A6 n6 c6) ∧ ResAt base f7 w (.slice A7 n7 c7) ∧ ResAt base f10 w (.slice A10 n10 c10) ∧ ResAt base f11 w (.slice A11 n11 c11) ∧ ResAt base f12 w (.slice A12 n12 c12)
  | 46 => ∃ g, v = .pointer (some ⟨g, 0, none⟩) ∧ base ≤ g ∧ w.heap[g]? = some (.cells #[.slice none 0 0, .slice none 0 0, .slice none 0 0, .slice none 0 0, .slice none 0 0, .slice none 0 0, .slice none 0 0, .slice none 0 0, .slice none 0 0, .slice none 0 0, .slice none 0 0, .slice none 0 0, .slice none 0 0] 28 (0, 0))
  | 47 => ∃ g, m 46 = .pointer (some ⟨g, 0, none⟩) ∧ S g w
  | _ => True
theorem RP_ext {S0 : Nat → World → Prop} (HS : ∀ g w w1, S0 g w → Chg (fun _ => False) w w1 → S0 g w1) (base x : Nat) (u1 u2 u3 u4 u6 u7 u10 u11 u12 : Value) (f1 f2 f3 f4 f6 f7 f10 f11 f12 : PF) {i : Nat} {v : Value} {m : Nat → Value} {c : Nat} {w w1 : World} (h : RP base x S0 u1 u2 u3 u4 u6 u7 u10 u11 u12 f1 f2 f3 f4 f6 f7 f10 f11 f12 i v m c w) (hc : Chg (fun _ => False) w w1) : RP base x S0 u1 u2 u3 u4 u6 u7 u10 u11 u12 f1 f2 f3 f4 f6 f7 f10 f11 f12 i v m (c + 1) w1 := by
  unfold RP at h ⊢
  split
  · exact h
  · exact h
  · exact h
  · exact h
  · exact ⟨h.1, h.2.chg hc (Nat.le_refl _) (fun _ h => h.elim)⟩
  · exact h
  · exact h
  · exact h
  · exact h
  · exact ⟨h.1, h.2.chg hc (Nat.le_refl _) (fun _ h => h.elim)⟩
  · exact h
  · exact h
  · exact h
  · exact h
  · exact ⟨h.1, h.2.chg hc (Nat.le_refl _) (fun _ h => h.elim)⟩
  · exact h
  · exact h
  · exact h
  · exact h
  · exact ⟨h.1, h.2.chg hc (Nat.le_refl _) (fun _ h => h.elim)⟩
  · exact h
  · exact h
  · exact h
  · exact h
  · exact ⟨h.1, h.2.chg hc (Nat.le_refl _) (fun _ h => h.elim)⟩
  · exact h
  · exact h
  · exact h
  · exact h
  · exact ⟨h.1, h.2.chg hc (Nat.le_refl _) (fun _ h => h.elim)⟩
  · exact h
  · exact h
  · exact h
  · exact h
  · exact ⟨h.1, h.2.chg hc (Nat.le_refl _) (fun _ h => h.elim)⟩
  · exact h
  · exact h
  · exact h
  · exact h
  · exact ⟨h.1, h.2.chg hc (Nat.le_refl _) (fun _ h => h.elim)⟩
  · exact h
  · exact h
  · exact h
  · exact h
  · exact ⟨h.1, h.2.chg hc (Nat.le_refl _) (fun _ h => h.elim)⟩
  · obtain ⟨A1, n1, c1, A2, n2, c2, A3, n3, c3, A4, n4, c4, A6, n6, c6, A7, n7, c7, A10, n10, c10, A11, n11, c11, A12, n12, c12, h1, r1, r2, r3, r4, r6, r7, r10, r11, r12⟩ := h; exact ⟨A1, n1, c1, A2, n2, c2, A3, n3, c3, A4, n4, c4, A6, n6, c6, A7, n7, c7, A10, n10, c10, A11, n11, c11, A12, n12, c12, h1, r1.chg hc (Nat.le_refl _) (fun _ h => h.elim), r2.chg hc (Nat.le_refl _) (fun _ h => h.elim), r3.chg hc (Nat.le_refl _) (fun _ h => h.elim), r4.chg hc (Nat.le_refl _) (fun _ h => h.elim), r6.chg hc (Nat.le_refl _) (fun _ h => h.elim), r7.chg hc (Nat.le_refl _) (fun _ h => h.elim), r10.chg hc (Nat.le_refl _) (fun _ h => h.elim), r11.chg hc (Nat.le_refl _) (fun _ h => h.elim), r12.chg hc (Nat.le_refl _) (fun _ h => h.elim)⟩
  · obtain ⟨g, h1, h2, h3⟩ := h; exact ⟨g, h1, h2, (hc.block g (Array.getElem?_eq_some_iff.1 h3).1 (fun h => h)).trans h3⟩
  · obtain ⟨g, h1, h2⟩ := h; exact ⟨g, h1, HS g w w1 h2 hc⟩
  · trivial
set_option maxRecDepth 1000000 in
set_option maxHeartbeats 8000000 in
theorem ofProps {w : World} {x base0 : Nat} {f1 f2 f3 f4 f6 f7 f10 f11 f12 : PF} {v1 v2 v3 v4 v6 v7 v10 v11 v12 : Value}
    (c1 : w.cell? ⟨x, 1, none⟩ = some v1) (p1 : PAt base0 1 f1 w v1)
    (c2 : w.cell? ⟨x, 2, none⟩ = some v2) (p2 : PAt base0 2 f2 w v2)
    (c3 : w.cell? ⟨x, 3, none⟩ = some v3) (p3 : PAt base0 3 f3 w v3)
    (c4 : w.cell? ⟨x, 4, none⟩ = some v4) (p4 : PAt base0 4 f4 w v4)
    (c6 : w.cell? ⟨x, 6, none⟩ = some v6) (p6 : PAt base0 6 f6 w v6)
    (c7 : w.cell? ⟨x, 7, none⟩ = some v7) (p7 : PAt base0 7 f7 w v7)
    (c10 : w.cell? ⟨x, 10, none⟩ = some v10) (p10 : PAt base0 10 f10 w v10)
    (c11 : w.cell? ⟨x, 11, none⟩ = some v11) (p11 : PAt base0 11 f11 w v11)
    (c12 : w.cell? ⟨x, 12, none⟩ = some v12) (p12 : PAt base0 12 f12 w v12)
    (q1 : f1 = .nul ∨ ∃ l, f1 = .bin l)
    (q2 : f2 = .nul ∨ ∃ l, f2 = .text l)
    (q3 : f3 = .nul ∨ ∃ l, f3 = .text l)
    (q4 : f4 = .nul ∨ ∃ l, f4 = .text l)
    (q6 : f6 = .nul ∨ ∃ l, f6 = .text l)
    (q7 : f7 = .nul ∨ ∃ l, f7 = .text l)
    (q10 : f10 = .nul ∨ ∃ l, f10 = .text l)
    (q11 : f11 = .nul ∨ ∃ l, f11 = .u32 l)
    (q12 : f12 = .nul ∨ ∃ l, f12 = .text l)
    (hl : (binOf f1).length ≤ 140737488355328) {f0 f5 f8 f9 : PF} {v0 v5 v8 v9 : Value}
    (c0 : w.cell? ⟨x, 0, none⟩ = some v0) (p0 : PAt base0 0 f0 w v0) (q0 : f0 = .nul ∨ ∃ k, f0 = .id k)
    (c5 : w.cell? ⟨x, 5, none⟩ = some v5) (p5 : PAt base0 5 f5 w v5) (q5 : f5 = .nul ∨ ∃ k, f5 = .id k)
    (c8 : w.cell? ⟨x, 8, none⟩ = some v8) (p8 : PAt base0 8 f8 w v8) (q8 : f8 = .nul ∨ ∃ ms, f8 = .time ms ∧ -9223372036854775808 ≤ ms ∧ ms ≤ 9223372036854775807)
    (c9 : w.cell? ⟨x, 9, none⟩ = some v9) (p9 : PAt base0 9 f9 w v9) (q9 : f9 = .nul ∨ ∃ ms, f9 = .time ms ∧ -9223372036854775808 ≤ ms ∧ ms ≤ 9223372036854775807) :
    Calls Tryz.prog 27 #[.pointer (some ⟨x, 0, none⟩)] w fun e w' => ∃ e0 e1 e2 e3 e4 e5 e6 e7 e8 e9 e10 e11 e12 : Value, e = .returned (.tuple #[.agg #[e0, e1, e2, e3, e4, e5, e6, e7, e8, e9, e10, e11, e12], .bool true]) ∧ Chg (fun _ => False) w w' ∧
      ResAt w.heap.size f0 w' e0 ∧ ResAt w.heap.size (.bin (binOf f1)) w' e1 ∧ ResAt w.heap.size f2 w' e2 ∧ ResAt w.heap.size f3 w' e3 ∧ ResAt w.heap.size f4 w' e4 ∧ ResAt w.heap.size f5 w' e5 ∧ ResAt w.heap.size f6 w' e6 ∧ ResAt w.heap.size f7 w' e7 ∧ ResAt w.heap.size f8 w' e8 ∧ ResAt w.heap.size f9 w' e9 ∧ ResAt w.heap.size f10 w' e10 ∧ ResAt w.heap.size f11 w' e11 ∧ ResAt w.heap.size f12 w' e12 := by
  have Q1 := Lib.hid q1; clear q1
  have Q2 := Lib.hid q2; clear q2
  have Q3 := Lib.hid q3; clear q3
  have Q4 := Lib.hid q4; clear q4
  have Q6 := Lib.hid q6; clear q6
  have Q7 := Lib.hid q7; clear q7
  have Q10 := Lib.hid q10; clear q10
  have Q11 := Lib.hid q11; clear q11
  have Q12 := Lib.hid q12; clear q12
  have Q0 := Lib.hid q0; clear q0
  have Q5 := Lib.hid q5; clear q5
  have Q8 := Lib.hid q8; clear q8
  have Q9 := Lib.hid q9; clear q9
  have hA0 : Chg (fun _ => False) w (w.alloc (.cells #[.slice none 0 0, .slice none 0 0, .slice none 0 0, .slice none 0 0, .slice none 0 0, .slice none 0 0, .slice none 0 0, .slice none 0 0, .slice none 0 0, .slice none 0 0, .slice none 0 0, .slice none 0 0, .slice none 0 0] 28)) := (Chg.refl _ w).alloc _
  have HL := Lib.hid hl; clear hl
  go_enter Tryz.func27, Tryz.ntmps27
  go_wp2
  generalize hw0 : w.alloc (.cells #[.slice none 0 0, .slice none 0 0, .slice none 0 0, .slice none 0 0, .slice none 0 0, .slice none 0 0, .slice none 0 0, .slice none 0 0, .slice none 0 0, .slice none 0 0, .slice none 0 0, .slice none 0 0, .slice none 0 0] 28) = w0 at *
  have K1 := Lib.hid (hA0.cell c1 (fun h => h))
  have P1 : PAt base0 1 f1 w0 v1 := PAt.mono p1 (Nat.le_refl _) hA0.any
  have K2 := Lib.hid (hA0.cell c2 (fun h => h))
  have P2 : PAt base0 2 f2 w0 v2 := PAt.mono p2 (Nat.le_refl _) hA0.any
  have K3 := Lib.hid (hA0.cell c3 (fun h => h))
  have P3 : PAt base0 3 f3 w0 v3 := PAt.mono p3 (Nat.le_refl _) hA0.any
  have K4 := Lib.hid (hA0.cell c4 (fun h => h))
  have P4 : PAt base0 4 f4 w0 v4 := PAt.mono p4 (Nat.le_refl _) hA0.any
  have K6 := Lib.hid (hA0.cell c6 (fun h => h))
  have P6 : PAt base0 6 f6 w0 v6 := PAt.mono p6 (Nat.le_refl _) hA0.any
  have K7 := Lib.hid (hA0.cell c7 (fun h => h))
  have P7 : PAt base0 7 f7 w0 v7 := PAt.mono p7 (Nat.le_refl _) hA0.any
  have K10 := Lib.hid (hA0.cell c10 (fun h => h))
  have P10 : PAt base0 10 f10 w0 v10 := PAt.mono p10 (Nat.le_refl _) hA0.any
  have K11 := Lib.hid (hA0.cell c11 (fun h => h))
  have P11 : PAt base0 11 f11 w0 v11 := PAt.mono p11 (Nat.le_refl _) hA0.any
  have K12 := Lib.hid (hA0.cell c12 (fun h => h))
  have P12 : PAt base0 12 f12 w0 v12 := PAt.mono p12 (Nat.le_refl _) hA0.any
  have K0 := Lib.hid (hA0.cell c0 (fun h => h))
  have P0 : PAt base0 0 f0 w0 v0 := PAt.mono p0 (Nat.le_refl _) hA0.any
  have K5 := Lib.hid (hA0.cell c5 (fun h => h))
  have P5 : PAt base0 5 f5 w0 v5 := PAt.mono p5 (Nat.le_refl _) hA0.any
  have K8 := Lib.hid (hA0.cell c8 (fun h => h))
  have P8 : PAt base0 8 f8 w0 v8 := PAt.mono p8 (Nat.le_refl _) hA0.any
  have K9 := Lib.hid (hA0.cell c9 (fun h => h))
  have P9 : PAt base0 9 f9 w0 v9 := PAt.mono p9 (Nat.le_refl _) hA0.any
  have hb2 : w0.heap[w.heap.size]? = some (.cells #[.slice none 0 0, .slice none 0 0, .slice none 0 0, .slice none 0 0, .slice none 0 0, .slice none 0 0, .slice none 0 0, .slice none 0 0, .slice none 0 0, .slice none 0 0, .slice none 0 0, .slice none 0 0, .slice none 0 0] 28 (0, 0)) := by rw [← hw0]; exact heap_alloc_new _ _
  clear hw0 c1 p1 c2 p2 c3 p3 c4 p4 c6 p6 c7 p7 c10 p10 c11 p11 c12 p12 c0 p0 c5 p5 c8 p8 c9 p9
  have HA0 := Lib.hid hA0; clear hA0
  have HB2 := Lib.hid hb2; clear hb2
  have hacc : Acc w0.heap.size w0 [] w0.drew := Acc.nil ((Chg.refl _ w0).drewN 1)
  go_cut [4] (fun v4 wc => ∃ g, v4 = .pointer (some ⟨g, 0, none⟩) ∧ First w0 w0.heap.size f1 f2 f3 f4 f6 f7 f10 f11 f12 g wc)
  case first =>
    have J2 : pinit 2 = .pointer none := rfl
    have J3 : pinit 3 = .pointer none := rfl
    have J4 : pinit 4 = .pointer none := rfl
    have J6 : pinit 6 = .pointer none := rfl
    have J7 : pinit 7 = .pointer none := rfl
    have J10 : pinit 10 = .pointer none := rfl
    have J11 : pinit 11 = .pointer none := rfl
    have J12 : pinit 12 = .pointer none := rfl
    have HSx : ∀ g w w1, First w0 w0.heap.size f1 f2 f3 f4 f6 f7 f10 f11 f12 g w → Chg (fun _ => False) w w1 → First w0 w0.heap.size f1 f2 f3 f4 f6 f7 f10 f11 f12 g w1 := fun g w w1 h hc => First.ext h hc
    refine wp_region_rel (RP w0.heap.size x (First w0 w0.heap.size f1 f2 f3 f4 f6 f7 f10 f11 f12) v1 v2 v3 v4 v6 v7 v10 v11 v12 f1 f2 f3 f4 f6 f7 f10 f11 f12) (fun w' => Chg (fun _ => False) w0 w') [47] (by kernel_rfl) (by kernel_rfl) (by kernel_rfl) (by kernel_rfl) ((Chg.refl _ w0).drewN 1) ?steps ?fin
    case steps =>
      refine ⟨⟨rfl, ?_⟩, ⟨rfl, ?_⟩, ⟨rfl, ?_⟩, ⟨rfl, ?_⟩, ⟨rfl, ?_⟩, ⟨rfl, ?_⟩, ⟨rfl, ?_⟩, ⟨rfl, ?_⟩, ⟨rfl, ?_⟩, ⟨rfl, ?_⟩, ⟨rfl, ?_⟩, ⟨rfl, ?_⟩, ⟨rfl, ?_⟩, ⟨rfl, ?_⟩, ⟨rfl, ?_⟩, ⟨rfl, ?_⟩, ⟨rfl, ?_⟩, ⟨rfl, ?_⟩, ⟨rfl, ?_⟩, ⟨rfl, ?_⟩, ⟨rfl, ?_⟩, ⟨rfl, ?_⟩, ⟨rfl, ?_⟩, ⟨rfl, ?_⟩, ⟨rfl, ?_⟩, ⟨rfl, ?_⟩, ⟨rfl, ?_⟩, ⟨rfl, ?_⟩, ⟨rfl, ?_⟩, ⟨rfl, ?_⟩, ⟨rfl, ?_⟩, ⟨rfl, ?_⟩, ⟨rfl, ?_⟩, ⟨rfl, ?_⟩, ⟨rfl, ?_⟩, ⟨rfl, ?_⟩, ⟨rfl, ?_⟩, ⟨rfl, ?_⟩, ⟨rfl, ?_⟩, ⟨rfl, ?_⟩, ⟨rfl, ?_⟩, ⟨rfl, ?_⟩, ⟨rfl, ?_⟩, ⟨rfl, ?_⟩, ⟨rfl, ?_⟩, ⟨rfl, ?_⟩, ⟨rfl, ?_⟩, ⟨rfl, ?_⟩, trivial⟩
      all_goals (intro vals ev c w1 hc hI hR hv h0 hcst hfn hgl)
      · have e0 : ev (.tmp 0) = .pointer (some ⟨x, 0, none⟩) := h0 0 (by kernel_rfl)
        clear hR hv h0 hc
        refine Step.fixed (x := .pointer (some ⟨x, 0, none⟩)) ?_ ⟨rfl, hI, fun i_ x_ m_ _ _ h_ => RP_ext HSx w0.heap.size x v1 v2 v3 v4 v6 v7 v10 v11 v12 f1 f2 f3 f4 f6 f7 f10 f11 f12 h_ (Chg.refl _ _)⟩
        unfold OpDoes
        go_simp
      · have e9 : ev (.tmp 9) = .pointer (some ⟨x, 0, none⟩) := (hv 0 9 (by kernel_rfl) (by kernel_rfl) (Nat.le_of_ble_eq_true (by kernel_rfl))).trans (hR 0 (by kernel_rfl))
        clear hR hv h0 hc
        refine Step.fixed (x := .pointer (some ⟨x, 0, none⟩)) ?_ ⟨rfl, hI, fun i_ x_ m_ _ _ h_ => RP_ext HSx w0.heap.size x v1 v2 v3 v4 v6 v7 v10 v11 v12 f1 f2 f3 f4 f6 f7 f10 f11 f12 h_ (Chg.refl _ _)⟩
        unfold OpDoes
        go_simp
      · have e10 : ev (.tmp 10) = .pointer (some ⟨x, 0, none⟩) := (hv 1 10 (by kernel_rfl) (by kernel_rfl) (Nat.le_of_ble_eq_true (by kernel_rfl))).trans (hR 1 (by kernel_rfl))
        clear hR hv h0 hc
        refine Step.fixed (x := .pointer (some ⟨x, 1, none⟩)) ?_ ⟨rfl, hI, fun i_ x_ m_ _ _ h_ => RP_ext HSx w0.heap.size x v1 v2 v3 v4 v6 v7 v10 v11 v12 f1 f2 f3 f4 f6 f7 f10 f11 f12 h_ (Chg.refl _ _)⟩
        unfold OpDoes
        go_simp
      · have e11 : ev (.tmp 11) = .pointer (some ⟨x, 1, none⟩) := (hv 2 11 (by kernel_rfl) (by kernel_rfl) (Nat.le_of_ble_eq_true (by kernel_rfl))).trans (hR 2 (by kernel_rfl))
        have l_k := hI.cell K1.out (fun h => h)
        clear hR hv h0 hc
        refine Step.fixed (x := v1) ?_ ⟨rfl, hI, fun i_ x_ m_ _ _ h_ => RP_ext HSx w0.heap.size x v1 v2 v3 v4 v6 v7 v10 v11 v12 f1 f2 f3 f4 f6 f7 f10 f11 f12 h_ (Chg.refl _ _)⟩
        unfold OpDoes
        go_simp
      · have e12 : ev (.tmp 12) = v1 := (hv 3 12 (by kernel_rfl) (by kernel_rfl) (Nat.le_of_ble_eq_true (by kernel_rfl))).trans (hR 3 (by kernel_rfl))
        have hf := hfn 25
        clear hR hv h0 hc
        unfold OpDoes
        go_simp
        refine (copied_acc (L := []) (Acc.nil hI) P1 Q1.out HL.out hI.size).mono ?_
        rintro _ w2 ⟨A, n, c, rfl, ha, hC⟩
        exact ⟨_, rfl, ⟨⟨_, _, _, rfl⟩, ha.res ((.bin (binOf f1)), .slice A n c) (by simp)⟩, hI.reads hC, fun i_ x_ m_ _ _ h_ => RP_ext HSx w0.heap.size x v1 v2 v3 v4 v6 v7 v10 v11 v12 f1 f2 f3 f4 f6 f7 f10 f11 f12 h_ hC⟩
      · have e0 : ev (.tmp 0) = .pointer (some ⟨x, 0, none⟩) := h0 0 (by kernel_rfl)
        clear hR hv h0 hc
        refine Step.fixed (x := .pointer (some ⟨x, 0, none⟩)) ?_ ⟨rfl, hI, fun i_ x_ m_ _ _ h_ => RP_ext HSx w0.heap.size x v1 v2 v3 v4 v6 v7 v10 v11 v12 f1 f2 f3 f4 f6 f7 f10 f11 f12 h_ (Chg.refl _ _)⟩
        unfold OpDoes
        go_simp
      · have e14 : ev (.tmp 14) = .pointer (some ⟨x, 0, none⟩) := (hv 5 14 (by kernel_rfl) (by kernel_rfl) (Nat.le_of_ble_eq_true (by kernel_rfl))).trans (hR 5 (by kernel_rfl))
        clear hR hv h0 hc
        refine Step.fixed (x := .pointer (some ⟨x, 0, none⟩)) ?_ ⟨rfl, hI, fun i_ x_ m_ _ _ h_ => RP_ext HSx w0.heap.size x v1 v2 v3 v4 v6 v7 v10 v11 v12 f1 f2 f3 f4 f6 f7 f10 f11 f12 h_ (Chg.refl _ _)⟩
        unfold OpDoes
        go_simp
      · have e15 : ev (.tmp 15) = .pointer (some ⟨x, 0, none⟩) := (hv 6 15 (by kernel_rfl) (by kernel_rfl) (Nat.le_of_ble_eq_true (by kernel_rfl))).trans (hR 6 (by kernel_rfl))
        clear hR hv h0 hc
        refine Step.fixed (x := .pointer (some ⟨x, 2, none⟩)) ?_ ⟨rfl, hI, fun i_ x_ m_ _ _ h_ => RP_ext HSx w0.heap.size x v1 v2 v3 v4 v6 v7 v10 v11 v12 f1 f2 f3 f4 f6 f7 f10 f11 f12 h_ (Chg.refl _ _)⟩
        unfold OpDoes
        go_simp
      · have e16 : ev (.tmp 16) = .pointer (some ⟨x, 2, none⟩) := (hv 7 16 (by kernel_rfl) (by kernel_rfl) (Nat.le_of_ble_eq_true (by kernel_rfl))).trans (hR 7 (by kernel_rfl))
        have l_k := hI.cell K2.out (fun h => h)
        clear hR hv h0 hc
        refine Step.fixed (x := v2) ?_ ⟨rfl, hI, fun i_ x_ m_ _ _ h_ => RP_ext HSx w0.heap.size x v1 v2 v3 v4 v6 v7 v10 v11 v12 f1 f2 f3 f4 f6 f7 f10 f11 f12 h_ (Chg.refl _ _)⟩
        unfold OpDoes
        go_simp
      · have e17 : ev (.tmp 17) = v2 := (hv 8 17 (by kernel_rfl) (by kernel_rfl) (Nat.le_of_ble_eq_true (by kernel_rfl))).trans (hR 8 (by kernel_rfl))
        have hf := hfn 62
        clear hR hv h0 hc
        unfold OpDoes
        go_simp
        refine (few_acc (L := []) (Acc.nil hI) P2 J2 Q2.out hI.size).mono ?_
        rintro _ w2 ⟨A, n, c, rfl, ha, hC⟩
        exact ⟨_, rfl, ⟨⟨_, _, _, rfl⟩, ha.res (f2, .slice A n c) (by simp)⟩, hI.reads hC, fun i_ x_ m_ _ _ h_ => RP_ext HSx w0.heap.size x v1 v2 v3 v4 v6 v7 v10 v11 v12 f1 f2 f3 f4 f6 f7 f10 f11 f12 h_ hC⟩
      · have e0 : ev (.tmp 0) = .pointer (some ⟨x, 0, none⟩) := h0 0 (by kernel_rfl)
        clear hR hv h0 hc
        refine Step.fixed (x := .pointer (some ⟨x, 0, none⟩)) ?_ ⟨rfl, hI, fun i_ x_ m_ _ _ h_ => RP_ext HSx w0.heap.size x v1 v2 v3 v4 v6 v7 v10 v11 v12 f1 f2 f3 f4 f6 f7 f10 f11 f12 h_ (Chg.refl _ _)⟩
        unfold OpDoes
        go_simp
      · have e19 : ev (.tmp 19) = .pointer (some ⟨x, 0, none⟩) := (hv 10 19 (by kernel_rfl) (by kernel_rfl) (Nat.le_of_ble_eq_true (by kernel_rfl))).trans (hR 10 (by kernel_rfl))
        clear hR hv h0 hc
        refine Step.fixed (x := .pointer (some ⟨x, 0, none⟩)) ?_ ⟨rfl, hI, fun i_ x_ m_ _ _ h_ => RP_ext HSx w0.heap.size x v1 v2 v3 v4 v6 v7 v10 v11 v12 f1 f2 f3 f4 f6 f7 f10 f11 f12 h_ (Chg.refl _ _)⟩
        unfold OpDoes
        go_simp
      · have e20 : ev (.tmp 20) = .pointer (some ⟨x, 0, none⟩) := (hv 11 20 (by kernel_rfl) (by kernel_rfl) (Nat.le_of_ble_eq_true (by kernel_rfl))).trans (hR 11 (by kernel_rfl))
        clear hR hv h0 hc
        refine Step.fixed (x := .pointer (some ⟨x, 3, none⟩)) ?_ ⟨rfl, hI, fun i_ x_ m_ _ _ h_ => RP_ext HSx w0.heap.size x v1 v2 v3 v4 v6 v7 v10 v11 v12 f1 f2 f3 f4 f6 f7 f10 f11 f12 h_ (Chg.refl _ _)⟩
        unfold OpDoes
        go_simp
      · have e21 : ev (.tmp 21) = .pointer (some ⟨x, 3, none⟩) := (hv 12 21 (by kernel_rfl) (by kernel_rfl) (Nat.le_of_ble_eq_true (by kernel_rfl))).trans (hR 12 (by kernel_rfl))
        have l_k := hI.cell K3.out (fun h => h)
        clear hR hv h0 hc
        refine Step.fixed (x := v3) ?_ ⟨rfl, hI, fun i_ x_ m_ _ _ h_ => RP_ext HSx w0.heap.size x v1 v2 v3 v4 v6 v7 v10 v11 v12 f1 f2 f3 f4 f6 f7 f10 f11 f12 h_ (Chg.refl _ _)⟩
        unfold OpDoes
        go_simp
      · have e22 : ev (.tmp 22) = v3 := (hv 13 22 (by kernel_rfl) (by kernel_rfl) (Nat.le_of_ble_eq_true (by kernel_rfl))).trans (hR 13 (by kernel_rfl))
        have hf := hfn 62
        clear hR hv h0 hc
        unfold OpDoes
        go_simp
        refine (few_acc (L := []) (Acc.nil hI) P3 J3 Q3.out hI.size).mono ?_
        rintro _ w2 ⟨A, n, c, rfl, ha, hC⟩
        exact ⟨_, rfl, ⟨⟨_, _, _, rfl⟩, ha.res (f3, .slice A n c) (by simp)⟩, hI.reads hC, fun i_ x_ m_ _ _ h_ => RP_ext HSx w0.heap.size x v1 v2 v3 v4 v6 v7 v10 v11 v12 f1 f2 f3 f4 f6 f7 f10 f11 f12 h_ hC⟩
      · have e0 : ev (.tmp 0) = .pointer (some ⟨x, 0, none⟩) := h0 0 (by kernel_rfl)
        clear hR hv h0 hc
        refine Step.fixed (x := .pointer (some ⟨x, 0, none⟩)) ?_ ⟨rfl, hI, fun i_ x_ m_ _ _ h_ => RP_ext HSx w0.heap.size x v1 v2 v3 v4 v6 v7 v10 v11 v12 f1 f2 f3 f4 f6 f7 f10 f11 f12 h_ (Chg.refl _ _)⟩
        unfold OpDoes
        go_simp
      · have e24 : ev (.tmp 24) = .pointer (some ⟨x, 0, none⟩) := (hv 15 24 (by kernel_rfl) (by kernel_rfl) (Nat.le_of_ble_eq_true (by kernel_rfl))).trans (hR 15 (by kernel_rfl))
        clear hR hv h0 hc
        refine Step.fixed (x := .pointer (some ⟨x, 0, none⟩)) ?_ ⟨rfl, hI, fun i_ x_ m_ _ _ h_ => RP_ext HSx w0.heap.size x v1 v2 v3 v4 v6 v7 v10 v11 v12 f1 f2 f3 f4 f6 f7 f10 f11 f12 h_ (Chg.refl _ _)⟩
        unfold OpDoes
        go_simp
      · have e25 : ev (.tmp 25) = .pointer (some ⟨x, 0, none⟩) := (hv 16 25 (by kernel_rfl) (by kernel_rfl) (Nat.le_of_ble_eq_true (by kernel_rfl))).trans (hR 16 (by kernel_rfl))
        clear hR hv h0 hc
        refine Step.fixed (x := .pointer (some ⟨x, 4, none⟩)) ?_ ⟨rfl, hI, fun i_ x_ m_ _ _ h_ => RP_ext HSx w0.heap.size x v1 v2 v3 v4 v6 v7 v10 v11 v12 f1 f2 f3 f4 f6 f7 f10 f11 f12 h_ (Chg.refl _ _)⟩
        unfold OpDoes
        go_simp
      · have e26 : ev (.tmp 26) = .pointer (some ⟨x, 4, none⟩) := (hv 17 26 (by kernel_rfl) (by kernel_rfl) (Nat.le_of_ble_eq_true (by kernel_rfl))).trans (hR 17 (by kernel_rfl))
        have l_k := hI.cell K4.out (fun h => h)
        clear hR hv h0 hc
        refine Step.fixed (x := v4) ?_ ⟨rfl, hI, fun i_ x_ m_ _ _ h_ => RP_ext HSx w0.heap.size x v1 v2 v3 v4 v6 v7 v10 v11 v12 f1 f2 f3 f4 f6 f7 f10 f11 f12 h_ (Chg.refl _ _)⟩
        unfold OpDoes
        go_simp
      · have e27 : ev (.tmp 27) = v4 := (hv 18 27 (by kernel_rfl) (by kernel_rfl) (Nat.le_of_ble_eq_true (by kernel_rfl))).trans (hR 18 (by kernel_rfl))
        have hf := hfn 62
        clear hR hv h0 hc
        unfold OpDoes
        go_simp
        refine (few_acc (L := []) (Acc.nil hI) P4 J4 Q4.out hI.size).mono ?_
        rintro _ w2 ⟨A, n, c, rfl, ha, hC⟩
        exact ⟨_, rfl, ⟨⟨_, _, _, rfl⟩, ha.res (f4, .slice A n c) (by simp)⟩, hI.reads hC, fun i_ x_ m_ _ _ h_ => RP_ext HSx w0.heap.size x v1 v2 v3 v4 v6 v7 v10 v11 v12 f1 f2 f3 f4 f6 f7 f10 f11 f12 h_ hC⟩
      · have e0 : ev (.tmp 0) = .pointer (some ⟨x, 0, none⟩) := h0 0 (by kernel_rfl)
        clear hR hv h0 hc
        refine Step.fixed (x := .pointer (some ⟨x, 0, none⟩)) ?_ ⟨rfl, hI, fun i_ x_ m_ _ _ h_ => RP_ext HSx w0.heap.size x v1 v2 v3 v4 v6 v7 v10 v11 v12 f1 f2 f3 f4 f6 f7 f10 f11 f12 h_ (Chg.refl _ _)⟩
        unfold OpDoes
        go_simp
      · have e29 : ev (.tmp 29) = .pointer (some ⟨x, 0, none⟩) := (hv 20 29 (by kernel_rfl) (by kernel_rfl) (Nat.le_of_ble_eq_true (by kernel_rfl))).trans (hR 20 (by kernel_rfl))
        clear hR hv h0 hc
        refine Step.fixed (x := .pointer (some ⟨x, 0, none⟩)) ?_ ⟨rfl, hI, fun i_ x_ m_ _ _ h_ => RP_ext HSx w0.heap.size x v1 v2 v3 v4 v6 v7 v10 v11 v12 f1 f2 f3 f4 f6 f7 f10 f11 f12 h_ (Chg.refl _ _)⟩
        unfold OpDoes
        go_simp
      · have e30 : ev (.tmp 30) = .pointer (some ⟨x, 0, none⟩) := (hv 21 30 (by kernel_rfl) (by kernel_rfl) (Nat.le_of_ble_eq_true (by kernel_rfl))).trans (hR 21 (by kernel_rfl))
        clear hR hv h0 hc
        refine Step.fixed (x := .pointer (some ⟨x, 6, none⟩)) ?_ ⟨rfl, hI, fun i_ x_ m_ _ _ h_ => RP_ext HSx w0.heap.size x v1 v2 v3 v4 v6 v7 v10 v11 v12 f1 f2 f3 f4 f6 f7 f10 f11 f12 h_ (Chg.refl _ _)⟩
        unfold OpDoes
        go_simp
      · have e31 : ev (.tmp 31) = .pointer (some ⟨x, 6, none⟩) := (hv 22 31 (by kernel_rfl) (by kernel_rfl) (Nat.le_of_ble_eq_true (by kernel_rfl))).trans (hR 22 (by kernel_rfl))
        have l_k := hI.cell K6.out (fun h => h)
        clear hR hv h0 hc
        refine Step.fixed (x := v6) ?_ ⟨rfl, hI, fun i_ x_ m_ _ _ h_ => RP_ext HSx w0.heap.size x v1 v2 v3 v4 v6 v7 v10 v11 v12 f1 f2 f3 f4 f6 f7 f10 f11 f12 h_ (Chg.refl _ _)⟩
        unfold OpDoes
        go_simp
      · have e32 : ev (.tmp 32) = v6 := (hv 23 32 (by kernel_rfl) (by kernel_rfl) (Nat.le_of_ble_eq_true (by kernel_rfl))).trans (hR 23 (by kernel_rfl))
        have hf := hfn 62
        clear hR hv h0 hc
        unfold OpDoes
        go_simp
        refine (few_acc (L := []) (Acc.nil hI) P6 J6 Q6.out hI.size).mono ?_
        rintro _ w2 ⟨A, n, c, rfl, ha, hC⟩
        exact ⟨_, rfl, ⟨⟨_, _, _, rfl⟩, ha.res (f6, .slice A n c) (by simp)⟩, hI.reads hC, fun i_ x_ m_ _ _ h_ => RP_ext HSx w0.heap.size x v1 v2 v3 v4 v6 v7 v10 v11 v12 f1 f2 f3 f4 f6 f7 f10 f11 f12 h_ hC⟩
      · have e0 : ev (.tmp 0) = .pointer (some ⟨x, 0, none⟩) := h0 0 (by kernel_rfl)
        clear hR hv h0 hc
        refine Step.fixed (x := .pointer (some ⟨x, 0, none⟩)) ?_ ⟨rfl, hI, fun i_ x_ m_ _ _ h_ => RP_ext HSx w0.heap.size x v1 v2 v3 v4 v6 v7 v10 v11 v12 f1 f2 f3 f4 f6 f7 f10 f11 f12 h_ (Chg.refl _ _)⟩
        unfold OpDoes
        go_simp
      · have e34 : ev (.tmp 34) = .pointer (some ⟨x, 0, none⟩) := (hv 25 34 (by kernel_rfl) (by kernel_rfl) (Nat.le_of_ble_eq_true (by kernel_rfl))).trans (hR 25 (by kernel_rfl))
        clear hR hv h0 hc
        refine Step.fixed (x := .pointer (some ⟨x, 0, none⟩)) ?_ ⟨rfl, hI, fun i_ x_ m_ _ _ h_ => RP_ext HSx w0.heap.size x v1 v2 v3 v4 v6 v7 v10 v11 v12 f1 f2 f3 f4 f6 f7 f10 f11 f12 h_ (Chg.refl _ _)⟩
        unfold OpDoes
        go_simp
      · have e35 : ev (.tmp 35) = .pointer (some ⟨x, 0, none⟩) := (hv 26 35 (by kernel_rfl) (by kernel_rfl) (Nat.le_of_ble_eq_true (by kernel_rfl))).trans (hR 26 (by kernel_rfl))
        clear hR hv h0 hc
        refine Step.fixed (x := .pointer (some ⟨x, 7, none⟩)) ?_ ⟨rfl, hI, fun i_ x_ m_ _ _ h_ => RP_ext HSx w0.heap.size x v1 v2 v3 v4 v6 v7 v10 v11 v12 f1 f2 f3 f4 f6 f7 f10 f11 f12 h_ (Chg.refl _ _)⟩
        unfold OpDoes
        go_simp
      · have e36 : ev (.tmp 36) = .pointer (some ⟨x, 7, none⟩) := (hv 27 36 (by kernel_rfl) (by kernel_rfl) (Nat.le_of_ble_eq_true (by kernel_rfl))).trans (hR 27 (by kernel_rfl))
        have l_k := hI.cell K7.out (fun h => h)
        clear hR hv h0 hc
        refine Step.fixed (x := v7) ?_ ⟨rfl, hI, fun i_ x_ m_ _ _ h_ => RP_ext HSx w0.heap.size x v1 v2 v3 v4 v6 v7 v10 v11 v12 f1 f2 f3 f4 f6 f7 f10 f11 f12 h_ (Chg.refl _ _)⟩
        unfold OpDoes
        go_simp
      · have e37 : ev (.tmp 37) = v7 := (hv 28 37 (by kernel_rfl) (by kernel_rfl) (Nat.le_of_ble_eq_true (by kernel_rfl))).trans (hR 28 (by kernel_rfl))
        have hf := hfn 62
        clear hR hv h0 hc
        unfold OpDoes
        go_simp
        refine (few_acc (L := []) (Acc.nil hI) P7 J7 Q7.out hI.size).mono ?_
        rintro _ w2 ⟨A, n, c, rfl, ha, hC⟩
        exact ⟨_, rfl, ⟨⟨_, _, _, rfl⟩, ha.res (f7, .slice A n c) (by simp)⟩, hI.reads hC, fun i_ x_ m_ _ _ h_ => RP_ext HSx w0.heap.size x v1 v2 v3 v4 v6 v7 v10 v11 v12 f1 f2 f3 f4 f6 f7 f10 f11 f12 h_ hC⟩
      · have e0 : ev (.tmp 0) = .pointer (some ⟨x, 0, none⟩) := h0 0 (by kernel_rfl)
        clear hR hv h0 hc
        refine Step.fixed (x := .pointer (some ⟨x, 0, none⟩)) ?_ ⟨rfl, hI, fun i_ x_ m_ _ _ h_ => RP_ext HSx w0.heap.size x v1 v2 v3 v4 v6 v7 v10 v11 v12 f1 f2 f3 f4 f6 f7 f10 f11 f12 h_ (Chg.refl _ _)⟩
        unfold OpDoes
        go_simp
      · have e39 : ev (.tmp 39) = .pointer (some ⟨x, 0, none⟩) := (hv 30 39 (by kernel_rfl) (by kernel_rfl) (Nat.le_of_ble_eq_true (by kernel_rfl))).trans (hR 30 (by kernel_rfl))
        clear hR hv h0 hc
        refine Step.fixed (x := .pointer (some ⟨x, 0, none⟩)) ?_ ⟨rfl, hI, fun i_ x_ m_ _ _ h_ => RP_ext HSx w0.heap.size x v1 v2 v3 v4 v6 v7 v10 v11 v12 f1 f2 f3 f4 f6 f7 f10 f11 f12 h_ (Chg.refl _ _)⟩
        unfold OpDoes
        go_simp
      · have e40 : ev (.tmp 40) = .pointer (some ⟨x, 0, none⟩) := (hv 31 40 (by kernel_rfl) (by kernel_rfl) (Nat.le_of_ble_eq_true (by kernel_rfl))).trans (hR 31 (by kernel_rfl))
        clear hR hv h0 hc
        refine Step.fixed (x := .pointer (some ⟨x, 10, none⟩)) ?_ ⟨rfl, hI, fun i_ x_ m_ _ _ h_ => RP_ext HSx w0.heap.size x v1 v2 v3 v4 v6 v7 v10 v11 v12 f1 f2 f3 f4 f6 f7 f10 f11 f12 h_ (Chg.refl _ _)⟩
        unfold OpDoes
        go_simp
      · have e41 : ev (.tmp 41) = .pointer (some ⟨x, 10, none⟩) := (hv 32 41 (by kernel_rfl) (by kernel_rfl) (Nat.le_of_ble_eq_true (by kernel_rfl))).trans (hR 32 (by kernel_rfl))
        have l_k := hI.cell K10.out (fun h => h)
        clear hR hv h0 hc
        refine Step.fixed (x := v10) ?_ ⟨rfl, hI, fun i_ x_ m_ _ _ h_ => RP_ext HSx w0.heap.size x v1 v2 v3 v4 v6 v7 v10 v11 v12 f1 f2 f3 f4 f6 f7 f10 f11 f12 h_ (Chg.refl _ _)⟩
        unfold OpDoes
        go_simp
      · have e42 : ev (.tmp 42) = v10 := (hv 33 42 (by kernel_rfl) (by kernel_rfl) (Nat.le_of_ble_eq_true (by kernel_rfl))).trans (hR 33 (by kernel_rfl))
        have hf := hfn 62
        clear hR hv h0 hc
        unfold OpDoes
        go_simp
        refine (few_acc (L := []) (Acc.nil hI) P10 J10 Q10.out hI.size).mono ?_
        rintro _ w2 ⟨A, n, c, rfl, ha, hC⟩
        exact ⟨_, rfl, ⟨⟨_, _, _, rfl⟩, ha.res (f10, .slice A n c) (by simp)⟩, hI.reads hC, fun i_ x_ m_ _ _ h_ => RP_ext HSx w0.heap.size x v1 v2 v3 v4 v6 v7 v10 v11 v12 f1 f2 f3 f4 f6 f7 f10 f11 f12 h_ hC⟩
      · have e0 : ev (.tmp 0) = .pointer (some ⟨x, 0, none⟩) := h0 0 (by kernel_rfl)
        clear hR hv h0 hc
        refine Step.fixed (x := .pointer (some ⟨x, 0, none⟩)) ?_ ⟨rfl, hI, fun i_ x_ m_ _ _ h_ => RP_ext HSx w0.heap.size x v1 v2 v3 v4 v6 v7 v10 v11 v12 f1 f2 f3 f4 f6 f7 f10 f11 f12 h_ (Chg.refl _ _)⟩
        unfold OpDoes
        go_simp
      · have e44 : ev (.tmp 44) = .pointer (some ⟨x, 0, none⟩) := (hv 35 44 (by kernel_rfl) (by kernel_rfl) (Nat.le_of_ble_eq_true (by kernel_rfl))).trans (hR 35 (by kernel_rfl))
        clear hR hv h0 hc
        refine Step.fixed (x := .pointer (some ⟨x, 0, none⟩)) ?_ ⟨rfl, hI, fun i_ x_ m_ _ _ h_ => RP_ext HSx w0.heap.size x v1 v2 v3 v4 v6 v7 v10 v11 v12 f1 f2 f3 f4 f6 f7 f10 f11 f12 h_ (Chg.refl _ _)⟩
        unfold OpDoes
        go_simp
      · have e45 : ev (.tmp 45) = .pointer (some ⟨x, 0, none⟩) := (hv 36 45 (by kernel_rfl) (by kernel_rfl) (Nat.le_of_ble_eq_true (by kernel_rfl))).trans (hR 36 (by kernel_rfl))
        clear hR hv h0 hc
        refine Step.fixed (x := .pointer (some ⟨x, 11, none⟩)) ?_ ⟨rfl, hI, fun i_ x_ m_ _ _ h_ => RP_ext HSx w0.heap.size x v1 v2 v3 v4 v6 v7 v10 v11 v12 f1 f2 f3 f4 f6 f7 f10 f11 f12 h_ (Chg.refl _ _)⟩
        unfold OpDoes
        go_simp
      · have e46 : ev (.tmp 46) = .pointer (some ⟨x, 11, none⟩) := (hv 37 46 (by kernel_rfl) (by kernel_rfl) (Nat.le_of_ble_eq_true (by kernel_rfl))).trans (hR 37 (by kernel_rfl))
        have l_k := hI.cell K11.out (fun h => h)
        clear hR hv h0 hc
        refine Step.fixed (x := v11) ?_ ⟨rfl, hI, fun i_ x_ m_ _ _ h_ => RP_ext HSx w0.heap.size x v1 v2 v3 v4 v6 v7 v10 v11 v12 f1 f2 f3 f4 f6 f7 f10 f11 f12 h_ (Chg.refl _ _)⟩
        unfold OpDoes
        go_simp
      · have e47 : ev (.tmp 47) = v11 := (hv 38 47 (by kernel_rfl) (by kernel_rfl) (Nat.le_of_ble_eq_true (by kernel_rfl))).trans (hR 38 (by kernel_rfl))
        have hf := hfn 63
        clear hR hv h0 hc
        unfold OpDoes
        go_simp
        refine (few32_acc (L := []) (Acc.nil hI) P11 J11 Q11.out hI.size).mono ?_
        rintro _ w2 ⟨A, n, c, rfl, ha, hC⟩
        exact ⟨_, rfl, ⟨⟨_, _, _, rfl⟩, ha.res (f11, .slice A n c) (by simp)⟩, hI.reads hC, fun i_ x_ m_ _ _ h_ => RP_ext HSx w0.heap.size x v1 v2 v3 v4 v6 v7 v10 v11 v12 f1 f2 f3 f4 f6 f7 f10 f11 f12 h_ hC⟩
      · have e0 : ev (.tmp 0) = .pointer (some ⟨x, 0, none⟩) := h0 0 (by kernel_rfl)
        clear hR hv h0 hc
        refine Step.fixed (x := .pointer (some ⟨x, 0, none⟩)) ?_ ⟨rfl, hI, fun i_ x_ m_ _ _ h_ => RP_ext HSx w0.heap.size x v1 v2 v3 v4 v6 v7 v10 v11 v12 f1 f2 f3 f4 f6 f7 f10 f11 f12 h_ (Chg.refl _ _)⟩
        unfold OpDoes
        go_simp
      · have e49 : ev (.tmp 49) = .pointer (some ⟨x, 0, none⟩) := (hv 40 49 (by kernel_rfl) (by kernel_rfl) (Nat.le_of_ble_eq_true (by kernel_rfl))).trans (hR 40 (by kernel_rfl))
        clear hR hv h0 hc
        refine Step.fixed (x := .pointer (some ⟨x, 0, none⟩)) ?_ ⟨rfl, hI, fun i_ x_ m_ _ _ h_ => RP_ext HSx w0.heap.size x v1 v2 v3 v4 v6 v7 v10 v11 v12 f1 f2 f3 f4 f6 f7 f10 f11 f12 h_ (Chg.refl _ _)⟩
        unfold OpDoes
        go_simp
      · have e50 : ev (.tmp 50) = .pointer (some ⟨x, 0, none⟩) := (hv 41 50 (by kernel_rfl) (by kernel_rfl) (Nat.le_of_ble_eq_true (by kernel_rfl))).trans (hR 41 (by kernel_rfl))
        clear hR hv h0 hc
        refine Step.fixed (x := .pointer (some ⟨x, 12, none⟩)) ?_ ⟨rfl, hI, fun i_ x_ m_ _ _ h_ => RP_ext HSx w0.heap.size x v1 v2 v3 v4 v6 v7 v10 v11 v12 f1 f2 f3 f4 f6 f7 f10 f11 f12 h_ (Chg.refl _ _)⟩
        unfold OpDoes
        go_simp
      · have e51 : ev (.tmp 51) = .pointer (some ⟨x, 12, none⟩) := (hv 42 51 (by kernel_rfl) (by kernel_rfl) (Nat.le_of_ble_eq_true (by kernel_rfl))).trans (hR 42 (by kernel_rfl))
        have l_k := hI.cell K12.out (fun h => h)
        clear hR hv h0 hc
        refine Step.fixed (x := v12) ?_ ⟨rfl, hI, fun i_ x_ m_ _ _ h_ => RP_ext HSx w0.heap.size x v1 v2 v3 v4 v6 v7 v10 v11 v12 f1 f2 f3 f4 f6 f7 f10 f11 f12 h_ (Chg.refl _ _)⟩
        unfold OpDoes
        go_simp
      · have e52 : ev (.tmp 52) = v12 := (hv 43 52 (by kernel_rfl) (by kernel_rfl) (Nat.le_of_ble_eq_true (by kernel_rfl))).trans (hR 43 (by kernel_rfl))
        have hf := hfn 62
        clear hR hv h0 hc
        unfold OpDoes
        go_simp
        refine (few_acc (L := []) (Acc.nil hI) P12 J12 Q12.out hI.size).mono ?_
        rintro _ w2 ⟨A, n, c, rfl, ha, hC⟩
        exact ⟨_, rfl, ⟨⟨_, _, _, rfl⟩, ha.res (f12, .slice A n c) (by simp)⟩, hI.reads hC, fun i_ x_ m_ _ _ h_ => RP_ext HSx w0.heap.size x v1 v2 v3 v4 v6 v7 v10 v11 v12 f1 f2 f3 f4 f6 f7 f10 f11 f12 h_ hC⟩
      · have e13 : ev (.tmp 13) = vals 4 := hv 4 13 (by kernel_rfl) (by kernel_rfl) (Nat.le_of_ble_eq_true (by kernel_rfl))
        have e18 : ev (.tmp 18) = vals 9 := hv 9 18 (by kernel_rfl) (by kernel_rfl) (Nat.le_of_ble_eq_true (by kernel_rfl))
        have e23 : ev (.tmp 23) = vals 14 := hv 14 23 (by kernel_rfl) (by kernel_rfl) (Nat.le_of_ble_eq_true (by kernel_rfl))
        have e28 : ev (.tmp 28) = vals 19 := hv 19 28 (by kernel_rfl) (by kernel_rfl) (Nat.le_of_ble_eq_true (by kernel_rfl))
        have e33 : ev (.tmp 33) = vals 24 := hv 24 33 (by kernel_rfl) (by kernel_rfl) (Nat.le_of_ble_eq_true (by kernel_rfl))
        have e38 : ev (.tmp 38) = vals 29 := hv 29 38 (by kernel_rfl) (by kernel_rfl) (Nat.le_of_ble_eq_true (by kernel_rfl))
        have e43 : ev (.tmp 43) = vals 34 := hv 34 43 (by kernel_rfl) (by kernel_rfl) (Nat.le_of_ble_eq_true (by kernel_rfl))
        have e48 : ev (.tmp 48) = vals 39 := hv 39 48 (by kernel_rfl) (by kernel_rfl) (Nat.le_of_ble_eq_true (by kernel_rfl))
        have e53 : ev (.tmp 53) = vals 44 := hv 44 53 (by kernel_rfl) (by kernel_rfl) (Nat.le_of_ble_eq_true (by kernel_rfl))
        obtain ⟨⟨A1, n1, c1, g1⟩, r1⟩ := (hR 4 (by kernel_rfl) : (∃ A n c, vals 4 = .slice A n c) ∧ ResAt w0.heap.size (.bin (binOf f1)) w1 (vals 4))
        obtain ⟨⟨A2, n2, c2, g2⟩, r2⟩ := (hR 9 (by kernel_rfl) : (∃ A n c, vals 9 = .slice A n c) ∧ ResAt w0.heap.size f2 w1 (vals 9))
        obtain ⟨⟨A3, n3, c3, g3⟩, r3⟩ := (hR 14 (by kernel_rfl) : (∃ A n c, vals 14 = .slice A n c) ∧ ResAt w0.heap.size f3 w1 (vals 14))
        obtain ⟨⟨A4, n4, c4, g4⟩, r4⟩ := (hR 19 (by kernel_rfl) : (∃ A n c, vals 19 = .slice A n c) ∧ ResAt w0.heap.size f4 w1 (vals 19))
        obtain ⟨⟨A6, n6, c6, g6⟩, r6⟩ := (hR 24 (by kernel_rfl) : (∃ A n c, vals 24 = .slice A n c) ∧ ResAt w0.heap.size f6 w1 (vals 24))
        obtain ⟨⟨A7, n7, c7, g7⟩, r7⟩ := (hR 29 (by kernel_rfl) : (∃ A n c, vals 29 = .slice A n c) ∧ ResAt w0.heap.size f7 w1 (vals 29))
        obtain ⟨⟨A10, n10, c10, g10⟩, r10⟩ := (hR 34 (by kernel_rfl) : (∃ A n c, vals 34 = .slice A n c) ∧ ResAt w0.heap.size f10 w1 (vals 34))
        obtain ⟨⟨A11, n11, c11, g11⟩, r11⟩ := (hR 39 (by kernel_rfl) : (∃ A n c, vals 39 = .slice A n c) ∧ ResAt w0.heap.size f11 w1 (vals 39))
        obtain ⟨⟨A12, n12, c12, g12⟩, r12⟩ := (hR 44 (by kernel_rfl) : (∃ A n c, vals 44 = .slice A n c) ∧ ResAt w0.heap.size f12 w1 (vals 44))
        rw [g1] at e13 r1
        rw [g2] at e18 r2
        rw [g3] at e23 r3
        rw [g4] at e28 r4
        rw [g6] at e33 r6
        rw [g7] at e38 r7
        rw [g10] at e43 r10
        rw [g11] at e48 r11
        rw [g12] at e53 r12
        clear g1 g2 g3 g4 g6 g7 g10 g11 g12
        have R1 := Lib.hid r1; clear r1
        have R2 := Lib.hid r2; clear r2
        have R3 := Lib.hid r3; clear r3
        have R4 := Lib.hid r4; clear r4
        have R6 := Lib.hid r6; clear r6
        have R7 := Lib.hid r7; clear r7
        have R10 := Lib.hid r10; clear r10
        have R11 := Lib.hid r11; clear r11
        have R12 := Lib.hid r12; clear r12
        clear hR hv h0 hc
        refine Step.fixed (x := .agg #[.slice none 0 0, .slice A1 n1 c1, .slice A2 n2 c2, .slice A3 n3 c3, .slice A4 n4 c4, .slice none 0 0, .slice A6 n6 c6, .slice A7 n7 c7, .slice none 0 0, .slice none 0 0, .slice A10 n10 c10, .slice A11 n11 c11, .slice A12 n12 c12]) ?_ ⟨⟨_, _, _, _, _, _, _, _, _, _, _, _, _, _, _, _, _, _, _, _, _, _, _, _, _, _, _, rfl, R1.out, R2.out, R3.out, R4.out, R6.out, R7.out, R10.out, R11.out, R12.out⟩, hI, fun i_ x_ m_ _ _ h_ => RP_ext HSx w0.heap.size x v1 v2 v3 v4 v6 v7 v10 v11 v12 f1 f2 f3 f4 f6 f7 f10 f11 f12 h_ (Chg.refl _ _)⟩
        unfold OpDoes
        go_simp
      · clear hR hv h0 hc
        refine OpDoes.mono (p := fun v w2 => v = .pointer (some ⟨w1.heap.size, 0, none⟩) ∧ w2 = w1.alloc (.cells #[.slice none 0 0, .slice none 0 0, .slice none 0 0, .slice none 0 0, .slice none 0 0, .slice none 0 0, .slice none 0 0, .slice none 0 0, .slice none 0 0, .slice none 0 0, .slice none 0 0, .slice none 0 0, .slice none 0 0] 28)) ?_ ?_
        · unfold OpDoes
          go_simp
        · rintro v w2 ⟨rfl, rfl⟩
          exact ⟨⟨_, rfl, hI.size, heap_alloc_new _ _⟩, hI.alloc _, fun i_ x_ m_ _ _ h_ => RP_ext HSx w0.heap.size x v1 v2 v3 v4 v6 v7 v10 v11 v12 f1 f2 f3 f4 f6 f7 f10 f11 f12 h_ ((Chg.refl _ _).alloc _)⟩
      · have e4 : ev (.tmp 4) = vals 46 := hv 46 4 (by kernel_rfl) (by kernel_rfl) (Nat.le_of_ble_eq_true (by kernel_rfl))
        have e54 : ev (.tmp 54) = vals 45 := hv 45 54 (by kernel_rfl) (by kernel_rfl) (Nat.le_of_ble_eq_true (by kernel_rfl))
        obtain ⟨A1, n1, c1, A2, n2, c2, A3, n3, c3, A4, n4, c4, A6, n6, c6, A7, n7, c7, A10, n10, c10, A11, n11, c11, A12, n12, c12, b1, r1, r2, r3, r4, r6, r7, r10, r11, r12⟩ := (hR 45 (by kernel_rfl) : ∃ A1 n1 c1 A2 n2 c2 A3 n3 c3 A4 n4 c4 A6 n6 c6 A7 n7 c7 A10 n10 c10 A11 n11 c11 A12 n12 c12, vals 45 = .agg #[.slice none 0 0, .slice A1 n1 c1, .slice A2 n2 c2, .slice A3 n3 c3, .slice A4 n4 c4, .slice none 0 0, .slice A6 n6 c6, .slice A7 n7 c7, .slice none 0 0, .slice none 0 0, .slice A10 n10 c10, .slice A11 n11 c11, .slice A12 n12 c12] ∧ ResAt w0.heap.size (.bin (binOf f1)) w1 (.slice A1 n1 c1) ∧ ResAt w0.heap.size f2 w1 (.slice A2 n2 c2) ∧ ResAt w0.heap.size f3 w1 (.slice A3 n3 c3) ∧ ResAt w0.heap.size f4 w1 (.slice A4 n4 c4) ∧ ResAt w0.heap.size f6 w1 (.slice A6 n6 c6) ∧ ResAt w0.heap.size f7 w1 (.slice A7 n7 c7) ∧ ResAt w0.heap.size f10 w1 (.slice A10 n10 c10) ∧ ResAt w0.heap.size f11 w1 (.slice A11 n11 c11) ∧ ResAt w0.heap.size f12 w1 (.slice A12 n12 c12))
        obtain ⟨g, b2, b3, b4⟩ := (hR 46 (by kernel_rfl) : ∃ g, vals 46 = .pointer (some ⟨g, 0, none⟩) ∧ w0.heap.size ≤ g ∧ w1.heap[g]? = some (.cells #[.slice none 0 0, .slice none 0 0, .slice none 0 0, .slice none 0 0, .slice none 0 0, .slice none 0 0, .slice none 0 0, .slice none 0 0, .slice none 0 0, .slice none 0 0, .slice none 0 0, .slice none 0 0, .slice none 0 0] 28 (0, 0)))
        rw [b1] at e54
        rw [b2] at e4
        have z0 := blk_cell (k := 0) b4 rfl; have fz0 := blk_free (k := 0) b4
        have z1 := blk_cell (k := 1) b4 rfl; have fz1 := blk_free (k := 1) b4
        have z2 := blk_cell (k := 2) b4 rfl; have fz2 := blk_free (k := 2) b4
        have z3 := blk_cell (k := 3) b4 rfl; have fz3 := blk_free (k := 3) b4
        have z4 := blk_cell (k := 4) b4 rfl; have fz4 := blk_free (k := 4) b4
        have z5 := blk_cell (k := 5) b4 rfl; have fz5 := blk_free (k := 5) b4
        have z6 := blk_cell (k := 6) b4 rfl; have fz6 := blk_free (k := 6) b4
        have z7 := blk_cell (k := 7) b4 rfl; have fz7 := blk_free (k := 7) b4
        have z8 := blk_cell (k := 8) b4 rfl; have fz8 := blk_free (k := 8) b4
        have z9 := blk_cell (k := 9) b4 rfl; have fz9 := blk_free (k := 9) b4
        have z10 := blk_cell (k := 10) b4 rfl; have fz10 := blk_free (k := 10) b4
        have z11 := blk_cell (k := 11) b4 rfl; have fz11 := blk_free (k := 11) b4
        have z12 := blk_cell (k := 12) b4 rfl; have fz12 := blk_free (k := 12) b4
        have B2 := Lib.hid b2; have B4 := Lib.hid b4; clear b1 b2 b4
        have R1 := Lib.hid r1; clear r1
        have R2 := Lib.hid r2; clear r2
        have R3 := Lib.hid r3; clear r3
        have R4 := Lib.hid r4; clear r4
        have R6 := Lib.hid r6; clear r6
        have R7 := Lib.hid r7; clear r7
        have R10 := Lib.hid r10; clear r10
        have R11 := Lib.hid r11; clear r11
        have R12 := Lib.hid r12; clear r12
        clear hR hv h0 hc
        refine OpDoes.mono (p := fun v w2 => v = undef ∧ w2 = (((((((((((((w1.setCell ⟨g, 0, none⟩ (.slice none 0 0)).setCell ⟨g, 1, none⟩ (.slice A1 n1 c1)).setCell ⟨g, 2, none⟩ (.slice A2 n2 c2)).setCell ⟨g, 3, none⟩ (.slice A3 n3 c3)).setCell ⟨g, 4, none⟩ (.slice A4 n4 c4)).setCell ⟨g, 5, none⟩ (.slice none 0 0)).setCell ⟨g, 6, none⟩ (.slice A6 n6 c6)).setCell ⟨g, 7, none⟩ (.slice A7 n7 c7)).setCell ⟨g, 8, none⟩ (.slice none 0 0)).setCell ⟨g, 9, none⟩ (.slice none 0 0)).setCell ⟨g, 10, none⟩ (.slice A10 n10 c10)).setCell ⟨g, 11, none⟩ (.slice A11 n11 c11)).setCell ⟨g, 12, none⟩ (.slice A12 n12 c12))) ?_ ?_
        · unfold OpDoes
          go_simp
        · rintro v w2 ⟨rfl, rfl⟩
          refine ⟨⟨g, (mask_eq (by kernel_rfl)).trans B2.out, first_set B4.out ⟨hI, fun p hp => ?_⟩ b3⟩, ?_, fun i_ x_ m_ hne hk h_ => absurd (by simpa using keep_fin hk (by kernel_rfl)) hne⟩
          · simp only [List.nil_append, List.cons_append, List.mem_cons, List.not_mem_nil, or_false] at hp
            rcases hp with rfl | rfl | rfl | rfl | rfl | rfl | rfl | rfl | rfl
            · exact R1.out
            · exact R2.out
            · exact R3.out
            · exact R4.out
            · exact R6.out
            · exact R7.out
            · exact R10.out
            · exact R11.out
            · exact R12.out
          · exact chg13F hI b3
    case fin =>
      intro vals c w2 hC hfin
      obtain ⟨g, hm, hF⟩ := (hfin 47 (by kernel_rfl) (by decide) : ∃ g, mask .any _ 47 vals 46 = .pointer (some ⟨g, 0, none⟩) ∧ First w0 w0.heap.size f1 f2 f3 f4 f6 f7 f10 f11 f12 g w2)
      rw [mask_eq (by kernel_rfl)] at hm
      clear hfin
      simp only [putAll, Act.put, List.setIfInBounds_toArray, List.set_cons_zero, List.set_cons_succ, Nat.reduceAdd]
      rw [hm]
      clear hm
      go_wp2_with fail
      go_meet
      case rel => exact ⟨_, rfl, hF⟩
  case rest =>
    obtain ⟨g, rfl, hcut⟩ := hcut
    obtain ⟨e1, e2, e3, e4, e6, e7, e10, e11, e12, hm⟩ := hcut.mid
    have HM := Lib.hid hm; clear hm hcut
    go_upto_region 2 with fail
    go_cut [59] (fun s w' => Mid w0 #[.slice none 0 0, e1, e2, e3, e4, .slice none 0 0, e6, e7, .slice none 0 0, .slice none 0 0, e10, e11, e12] [(.bin (binOf f1), e1), (f2, e2), (f3, e3), (f4, e4), (f6, e6), (f7, e7), (f10, e10), (f11, e11), (f12, e12)] g w' ∧ ((s = .bool false ∧ f0 = .nul) ∨ (s = .bool true ∧ ∃ k, f0 = .id k)))
    case first =>
      have k0 := HM.out.2.1.chg.cell K0.out (fun h => h)
      rcases Q0.out with h | ⟨q, h⟩
      · have H := Lib.hid h; clear h
        have h : v0 = .nilIface := by have p := P0; rw [H.out] at p; exact p
        subst h
        go_wp2_with fail
        go_meet
        case rel => exact ⟨HM.out, .inl ⟨rfl, H.out⟩⟩
      · have H := Lib.hid h; clear h
        have h : IdAt base0 q w0 v0 := by have p := P0; rw [H.out] at p; exact p
        obtain ⟨t, d, h2⟩ := h.iface
        subst h2
        go_wp2_with fail
        go_meet
        case rel => exact ⟨HM.out, .inr ⟨rfl, q, H.out⟩⟩
    case rest =>
    obtain ⟨hm, hcut⟩ := hcut
    clear HM
    have HM := Lib.hid hm; clear hm
    have HCUT := Lib.hid hcut; clear hcut
    go_upto_if 59 with fail
    go_cut [4] (fun s w' => s = .pointer (some ⟨g, 0, none⟩) ∧ ∃ e0, Mid w0 #[e0, e1, e2, e3, e4, .slice none 0 0, e6, e7, .slice none 0 0, .slice none 0 0, e10, e11, e12] ([(.bin (binOf f1), e1), (f2, e2), (f3, e3), (f4, e4), (f6, e6), (f7, e7), (f10, e10), (f11, e11), (f12, e12)] ++ [(f0, e0)]) g w')
    case first =>
      rcases HCUT.out with ⟨h2, h⟩ | ⟨h2, q, h⟩
      · subst h2; have H := Lib.hid h; clear h
        go_wp2_with fail
        go_meet
        case rel => exact ⟨rfl, _, HM.out.nul_eq H.out⟩
      · subst h2; have H := Lib.hid h; clear h
        have h : IdAt base0 q _ v0 := PAt.mono (f := .id q) (by have p := P0; rw [H.out] at p; exact p) (Nat.le_refl _) HM.out.2.1.chg.any
        have k0 := HM.out.2.1.chg.cell K0.out (fun h => h)
        go_wp2_with (go_at_call 64; refine (valued_id h).mono ?_; rintro _ w1 ⟨kd, n, s, rfl, hcc, hk⟩; have hgb := hcc.blk HM.out.1 (fun h => h); have hz := fun (o1 o2 : Obj) => ((Chg.refl (fun _ => False) w1).alloc o1 |>.alloc o2).cell (blk_cell (k := 0) hgb rfl) (fun h => h); have hf := fun (o1 o2 : Obj) => blk_free (k := 0) (((Chg.refl (fun _ => False) w1).alloc o1 |>.alloc o2).blk hgb (fun h => h)); clear hgb)
        go_meet
        case rel => exact ⟨rfl, _, Mid.snoc_eq (j := 0) HM.out H.out ((hcc.alloc _).alloc _) (idRes_at ((HM.out.2.1.ext (hcc.alloc _)).chg.size) hk (by simp) rfl)⟩
    case rest =>
    obtain ⟨rfl, e0, hm⟩ := hcut
    clear HM HCUT
    have HM := Lib.hid hm; clear hm
    go_upto_region 7 with fail
    go_cut [78] (fun s w' => Mid w0 #[e0, e1, e2, e3, e4, .slice none 0 0, e6, e7, .slice none 0 0, .slice none 0 0, e10, e11, e12] ([(.bin (binOf f1), e1), (f2, e2), (f3, e3), (f4, e4), (f6, e6), (f7, e7), (f10, e10), (f11, e11), (f12, e12)] ++ [(f0, e0)]) g w' ∧ ((s = .bool false ∧ f5 = .nul) ∨ (s = .bool true ∧ ∃ k, f5 = .id k)))
    case first =>
      have k5 := HM.out.2.1.chg.cell K5.out (fun h => h)
      rcases Q5.out with h | ⟨q, h⟩
      · have H := Lib.hid h; clear h
        have h : v5 = .nilIface := by have p := P5; rw [H.out] at p; exact p
        subst h
        go_wp2_with fail
        go_meet
        case rel => exact ⟨HM.out, .inl ⟨rfl, H.out⟩⟩
      · have H := Lib.hid h; clear h
        have h : IdAt base0 q w0 v5 := by have p := P5; rw [H.out] at p; exact p
        obtain ⟨t, d, h2⟩ := h.iface
        subst h2
        go_wp2_with fail
        go_meet
        case rel => exact ⟨HM.out, .inr ⟨rfl, q, H.out⟩⟩
    case rest =>
    obtain ⟨hm, hcut⟩ := hcut
    clear HM
    have HM := Lib.hid hm; clear hm
    have HCUT := Lib.hid hcut; clear hcut
    go_upto_if 78 with fail
    go_cut [4] (fun s w' => s = .pointer (some ⟨g, 0, none⟩) ∧ ∃ e5, Mid w0 #[e0, e1, e2, e3, e4, e5, e6, e7, .slice none 0 0, .slice none 0 0, e10, e11, e12] (([(.bin (binOf f1), e1), (f2, e2), (f3, e3), (f4, e4), (f6, e6), (f7, e7), (f10, e10), (f11, e11), (f12, e12)] ++ [(f0, e0)]) ++ [(f5, e5)]) g w')
    case first =>
      rcases HCUT.out with ⟨h2, h⟩ | ⟨h2, q, h⟩
      · subst h2; have H := Lib.hid h; clear h
        go_wp2_with fail
        go_meet
        case rel => exact ⟨rfl, _, HM.out.nul_eq H.out⟩
      · subst h2; have H := Lib.hid h; clear h
        have h : IdAt base0 q _ v5 := PAt.mono (f := .id q) (by have p := P5; rw [H.out] at p; exact p) (Nat.le_refl _) HM.out.2.1.chg.any
        have k5 := HM.out.2.1.chg.cell K5.out (fun h => h)
        go_wp2_with (go_at_call 64; refine (valued_id h).mono ?_; rintro _ w1 ⟨kd, n, s, rfl, hcc, hk⟩; have hgb := hcc.blk HM.out.1 (fun h => h); have hz := fun (o1 o2 : Obj) => ((Chg.refl (fun _ => False) w1).alloc o1 |>.alloc o2).cell (blk_cell (k := 5) hgb rfl) (fun h => h); have hf := fun (o1 o2 : Obj) => blk_free (k := 5) (((Chg.refl (fun _ => False) w1).alloc o1 |>.alloc o2).blk hgb (fun h => h)); clear hgb)
        go_meet
        case rel => exact ⟨rfl, _, Mid.snoc_eq (j := 5) HM.out H.out ((hcc.alloc _).alloc _) (idRes_at ((HM.out.2.1.ext (hcc.alloc _)).chg.size) hk (by simp) rfl)⟩
    case rest =>
    obtain ⟨rfl, e5, hm⟩ := hcut
    clear HM HCUT
    have HM := Lib.hid hm; clear hm
    go_upto_region 12 with fail
    go_cut [97] (fun s w' => Mid w0 #[e0, e1, e2, e3, e4, e5, e6, e7, .slice none 0 0, .slice none 0 0, e10, e11, e12] (([(.bin (binOf f1), e1), (f2, e2), (f3, e3), (f4, e4), (f6, e6), (f7, e7), (f10, e10), (f11, e11), (f12, e12)] ++ [(f0, e0)]) ++ [(f5, e5)]) g w' ∧ ((s = .bool false ∧ f8 = .nul) ∨ (s = .bool true ∧ ∃ ms, f8 = .time ms ∧ -9223372036854775808 ≤ ms ∧ ms ≤ 9223372036854775807)))
    case first =>
      have k8 := HM.out.2.1.chg.cell K8.out (fun h => h)
      rcases Q8.out with h | ⟨q, h, hlo, hhi⟩
      · have H := Lib.hid h; clear h
        have h : v8 = .pointer none := by have p := P8; rw [H.out] at p; exact p
        subst h
        go_wp2_with fail
        go_meet
        case rel => exact ⟨HM.out, .inl ⟨rfl, H.out⟩⟩
      · have H := Lib.hid h; clear h
        have HLO := Lib.hid hlo; have HHI := Lib.hid hhi; clear hlo hhi
        obtain ⟨gg, h2, _, _⟩ : NewVar base0 141 #[.int .i64 (q / 1000), .int .i64 (q % 1000 * 1000000)] w0 v8 := by have p := P8; rw [H.out] at p; exact p
        subst h2
        go_wp2_with fail
        go_meet
        case rel => exact ⟨HM.out, .inr ⟨rfl, q, H.out, HLO.out, HHI.out⟩⟩
    case rest =>
    obtain ⟨hm, hcut⟩ := hcut
    clear HM
    have HM := Lib.hid hm; clear hm
    have HCUT := Lib.hid hcut; clear hcut
    go_upto_if 97 with fail
    go_cut [4] (fun s w' => s = .pointer (some ⟨g, 0, none⟩) ∧ ∃ e8, Mid w0 #[e0, e1, e2, e3, e4, e5, e6, e7, e8, .slice none 0 0, e10, e11, e12] ((([(.bin (binOf f1), e1), (f2, e2), (f3, e3), (f4, e4), (f6, e6), (f7, e7), (f10, e10), (f11, e11), (f12, e12)] ++ [(f0, e0)]) ++ [(f5, e5)]) ++ [(f8, e8)]) g w')
    case first =>
      rcases HCUT.out with ⟨h2, h⟩ | ⟨h2, q, h, hlo, hhi⟩
      · subst h2; have H := Lib.hid h; clear h
        go_wp2_with fail
        go_meet
        case rel => exact ⟨rfl, _, HM.out.nul_eq H.out⟩
      · subst h2; have H := Lib.hid h; clear h; have HLO := Lib.hid hlo; have HHI := Lib.hid hhi; clear hlo hhi
        obtain ⟨gg, h2, _, hh⟩ : NewVar base0 141 #[.int .i64 (q / 1000), .int .i64 (q % 1000 * 1000000)] _ v8 := PAt.mono (j := 8) (f := .time q) (by have p := P8; rw [H.out] at p; exact p) (Nat.le_refl _) HM.out.2.1.chg.any
        subst h2
        have k8 := HM.out.2.1.chg.cell K8.out (fun h => h)
        have ha := blk_cell (k := 0) hh rfl; have hb := blk_cell (k := 1) hh rfl; clear hh
        go_wp2_with (go_at_call 65; refine (unixMilli q _ HLO.out HHI.out).mono ?_; rintro _ w1 ⟨rfl, hcc⟩; have hgb := hcc.blk HM.out.1 (fun h => h); have hz := fun (o1 : Obj) => ((Chg.refl (fun _ => False) w1).alloc o1).cell (blk_cell (k := 8) hgb rfl) (fun h => h); have hf := fun (o1 : Obj) => blk_free (k := 8) (((Chg.refl (fun _ => False) w1).alloc o1).blk hgb (fun h => h)); clear hgb)
        go_meet
        case rel => exact ⟨rfl, _, Mid.snoc_eq (j := 8) HM.out H.out (hcc.alloc _) (timeRes_at (HM.out.2.1.ext hcc).chg.size rfl)⟩
    case rest =>
    obtain ⟨rfl, e8, hm⟩ := hcut
    clear HM HCUT
    have HM := Lib.hid hm; clear hm
    go_upto_region 14 with fail
    go_cut [111] (fun s w' => Mid w0 #[e0, e1, e2, e3, e4, e5, e6, e7, e8, .slice none 0 0, e10, e11, e12] ((([(.bin (binOf f1), e1), (f2, e2), (f3, e3), (f4, e4), (f6, e6), (f7, e7), (f10, e10), (f11, e11), (f12, e12)] ++ [(f0, e0)]) ++ [(f5, e5)]) ++ [(f8, e8)]) g w' ∧ ((s = .bool false ∧ f9 = .nul) ∨ (s = .bool true ∧ ∃ ms, f9 = .time ms ∧ -9223372036854775808 ≤ ms ∧ ms ≤ 9223372036854775807)))
    case first =>
      have k9 := HM.out.2.1.chg.cell K9.out (fun h => h)
      rcases Q9.out with h | ⟨q, h, hlo, hhi⟩
      · have H := Lib.hid h; clear h
        have h : v9 = .pointer none := by have p := P9; rw [H.out] at p; exact p
        subst h
        go_wp2_with fail
        go_meet
        case rel => exact ⟨HM.out, .inl ⟨rfl, H.out⟩⟩
      · have H := Lib.hid h; clear h
        have HLO := Lib.hid hlo; have HHI := Lib.hid hhi; clear hlo hhi
        obtain ⟨gg, h2, _, _⟩ : NewVar base0 141 #[.int .i64 (q / 1000), .int .i64 (q % 1000 * 1000000)] w0 v9 := by have p := P9; rw [H.out] at p; exact p
        subst h2
        go_wp2_with fail
        go_meet
        case rel => exact ⟨HM.out, .inr ⟨rfl, q, H.out, HLO.out, HHI.out⟩⟩
    case rest =>
    obtain ⟨hm, hcut⟩ := hcut
    clear HM
    have HM := Lib.hid hm; clear hm
    have HCUT := Lib.hid hcut; clear hcut
    go_upto_if 111 with fail
    go_cut [4] (fun s w' => s = .pointer (some ⟨g, 0, none⟩) ∧ ∃ e9, Mid w0 #[e0, e1, e2, e3, e4, e5, e6, e7, e8, e9, e10, e11, e12] (((([(.bin (binOf f1), e1), (f2, e2), (f3, e3), (f4, e4), (f6, e6), (f7, e7), (f10, e10), (f11, e11), (f12, e12)] ++ [(f0, e0)]) ++ [(f5, e5)]) ++ [(f8, e8)]) ++ [(f9, e9)]) g w')
    case first =>
      rcases HCUT.out with ⟨h2, h⟩ | ⟨h2, q, h, hlo, hhi⟩
      · subst h2; have H := Lib.hid h; clear h
        go_wp2_with fail
        go_meet
        case rel => exact ⟨rfl, _, HM.out.nul_eq H.out⟩
      · subst h2; have H := Lib.hid h; clear h; have HLO := Lib.hid hlo; have HHI := Lib.hid hhi; clear hlo hhi
        obtain ⟨gg, h2, _, hh⟩ : NewVar base0 141 #[.int .i64 (q / 1000), .int .i64 (q % 1000 * 1000000)] _ v9 := PAt.mono (j := 9) (f := .time q) (by have p := P9; rw [H.out] at p; exact p) (Nat.le_refl _) HM.out.2.1.chg.any
        subst h2
        have k9 := HM.out.2.1.chg.cell K9.out (fun h => h)
        have ha := blk_cell (k := 0) hh rfl; have hb := blk_cell (k := 1) hh rfl; clear hh
        go_wp2_with (go_at_call 65; refine (unixMilli q _ HLO.out HHI.out).mono ?_; rintro _ w1 ⟨rfl, hcc⟩; have hgb := hcc.blk HM.out.1 (fun h => h); have hz := fun (o1 : Obj) => ((Chg.refl (fun _ => False) w1).alloc o1).cell (blk_cell (k := 9) hgb rfl) (fun h => h); have hf := fun (o1 : Obj) => blk_free (k := 9) (((Chg.refl (fun _ => False) w1).alloc o1).blk hgb (fun h => h)); clear hgb)
        go_meet
        case rel => exact ⟨rfl, _, Mid.snoc_eq (j := 9) HM.out H.out (hcc.alloc _) (timeRes_at (HM.out.2.1.ext hcc).chg.size rfl)⟩
    case rest =>
    obtain ⟨rfl, e9, hm⟩ := hcut
    clear HM HCUT
    have HM := Lib.hid hm; clear hm
    obtain ⟨A0, n0, b0, h⟩ := HM.out.sl (f0) e0 (by simp); subst h
    obtain ⟨A1, n1, b1, h⟩ := HM.out.sl (.bin (binOf f1)) e1 (by simp); subst h
    obtain ⟨A2, n2, b2, h⟩ := HM.out.sl (f2) e2 (by simp); subst h
    obtain ⟨A3, n3, b3, h⟩ := HM.out.sl (f3) e3 (by simp); subst h
    obtain ⟨A4, n4, b4, h⟩ := HM.out.sl (f4) e4 (by simp); subst h
    obtain ⟨A5, n5, b5, h⟩ := HM.out.sl (f5) e5 (by simp); subst h
    obtain ⟨A6, n6, b6, h⟩ := HM.out.sl (f6) e6 (by simp); subst h
    obtain ⟨A7, n7, b7, h⟩ := HM.out.sl (f7) e7 (by simp); subst h
    obtain ⟨A8, n8, b8, h⟩ := HM.out.sl (f8) e8 (by simp); subst h
    obtain ⟨A9, n9, b9, h⟩ := HM.out.sl (f9) e9 (by simp); subst h
    obtain ⟨A10, n10, b10, h⟩ := HM.out.sl (f10) e10 (by simp); subst h
    obtain ⟨A11, n11, b11, h⟩ := HM.out.sl (f11) e11 (by simp); subst h
    obtain ⟨A12, n12, b12, h⟩ := HM.out.sl (f12) e12 (by simp); subst h
    have hgb := HM.out.1; have hb2 := HM.out.2.1.chg.blk HB2.out (fun h => h)
    have z0 := blk_cell (k := 0) hgb rfl; have y0 := blk_cell (k := 0) hb2 rfl; have fz0 := blk_free (k := 0) hb2
    have z1 := blk_cell (k := 1) hgb rfl; have y1 := blk_cell (k := 1) hb2 rfl; have fz1 := blk_free (k := 1) hb2
    have z2 := blk_cell (k := 2) hgb rfl; have y2 := blk_cell (k := 2) hb2 rfl; have fz2 := blk_free (k := 2) hb2
    have z3 := blk_cell (k := 3) hgb rfl; have y3 := blk_cell (k := 3) hb2 rfl; have fz3 := blk_free (k := 3) hb2
    have z4 := blk_cell (k := 4) hgb rfl; have y4 := blk_cell (k := 4) hb2 rfl; have fz4 := blk_free (k := 4) hb2
    have z5 := blk_cell (k := 5) hgb rfl; have y5 := blk_cell (k := 5) hb2 rfl; have fz5 := blk_free (k := 5) hb2
    have z6 := blk_cell (k := 6) hgb rfl; have y6 := blk_cell (k := 6) hb2 rfl; have fz6 := blk_free (k := 6) hb2
    have z7 := blk_cell (k := 7) hgb rfl; have y7 := blk_cell (k := 7) hb2 rfl; have fz7 := blk_free (k := 7) hb2
    have z8 := blk_cell (k := 8) hgb rfl; have y8 := blk_cell (k := 8) hb2 rfl; have fz8 := blk_free (k := 8) hb2
    have z9 := blk_cell (k := 9) hgb rfl; have y9 := blk_cell (k := 9) hb2 rfl; have fz9 := blk_free (k := 9) hb2
    have z10 := blk_cell (k := 10) hgb rfl; have y10 := blk_cell (k := 10) hb2 rfl; have fz10 := blk_free (k := 10) hb2
    have z11 := blk_cell (k := 11) hgb rfl; have y11 := blk_cell (k := 11) hb2 rfl; have fz11 := blk_free (k := 11) hb2
    have z12 := blk_cell (k := 12) hgb rfl; have y12 := blk_cell (k := 12) hb2 rfl; have fz12 := blk_free (k := 12) hb2
    clear hgb hb2
    go_wp2_with fail
    obtain ⟨hch, hres⟩ := fin_props (u0 := .slice A0 n0 b0) (u1 := .slice A1 n1 b1) (u2 := .slice A2 n2 b2) (u3 := .slice A3 n3 b3) (u4 := .slice A4 n4 b4) (u5 := .slice A5 n5 b5) (u6 := .slice A6 n6 b6) (u7 := .slice A7 n7 b7) (u8 := .slice A8 n8 b8) (u9 := .slice A9 n9 b9) (u10 := .slice A10 n10 b10) (u11 := .slice A11 n11 b11) (u12 := .slice A12 n12 b12) HA0.out HB2.out HM.out
    have hbF := blk13 (u0 := .slice A0 n0 b0) (u1 := .slice A1 n1 b1) (u2 := .slice A2 n2 b2) (u3 := .slice A3 n3 b3) (u4 := .slice A4 n4 b4) (u5 := .slice A5 n5 b5) (u6 := .slice A6 n6 b6) (u7 := .slice A7 n7 b7) (u8 := .slice A8 n8 b8) (u9 := .slice A9 n9 b9) (u10 := .slice A10 n10 b10) (u11 := .slice A11 n11 b11) (u12 := .slice A12 n12 b12) (HM.out.2.1.chg.blk HB2.out (fun h => h))
    have x0 := blk_cell (k := 0) hbF rfl
    have x1 := blk_cell (k := 1) hbF rfl
    have x2 := blk_cell (k := 2) hbF rfl
    have x3 := blk_cell (k := 3) hbF rfl
    have x4 := blk_cell (k := 4) hbF rfl
    have x5 := blk_cell (k := 5) hbF rfl
    have x6 := blk_cell (k := 6) hbF rfl
    have x7 := blk_cell (k := 7) hbF rfl
    have x8 := blk_cell (k := 8) hbF rfl
    have x9 := blk_cell (k := 9) hbF rfl
    have x10 := blk_cell (k := 10) hbF rfl
    have x11 := blk_cell (k := 11) hbF rfl
    have x12 := blk_cell (k := 12) hbF rfl
    refine bodyPost_ret (v := .tuple #[.agg #[.slice A0 n0 b0, .slice A1 n1 b1, .slice A2 n2 b2, .slice A3 n3 b3, .slice A4 n4 b4, .slice A5 n5 b5, .slice A6 n6 b6, .slice A7 n7 b7, .slice A8 n8 b8, .slice A9 n9 b9, .slice A10 n10 b10, .slice A11 n11 b11, .slice A12 n12 b12], .bool true]) (by simp [results, Tryz.results27, go_sem, x0, x1, x2, x3, x4, x5, x6, x7, x8, x9, x10, x11, x12]) rfl ⟨_, _, _, _, _, _, _, _, _, _, _, _, _, rfl, hch, hres _ _ (by simp), hres _ _ (by simp), hres _ _ (by simp), hres _ _ (by simp), hres _ _ (by simp), hres _ _ (by simp), hres _ _ (by simp), hres _ _ (by simp), hres _ _ (by simp), hres _ _ (by simp), hres _ _ (by simp), hres _ _ (by simp), hres _ _ (by simp)⟩
end Go.Proofs.S
