/- What the read properties are worth, by the number of the field: for fields that were read. -/
import Derived.Test.YtoilepadamfacaaGreatDoorB24
set_option linter.unusedVariables false
set_option linter.unusedSimpArgs false
namespace Go.Proofs.S
open Go.RowKit
/-- What the thin package's field holds. -/
def outOf (fc : Nat → PF) (j : Nat) : PF := if j = 1 then .bin (binOf (fc 1)) else fc j
theorem ofProps_at {w : World} {x base0 : Nat} {cs : Array Value} (fc : Nat → PF) (hx : w.heap[x]? = some (.cells cs 73 (0, 0))) (hj : ∀ j, j < 13 → ∃ v, cs[j]? = some v ∧ PAt base0 j (fc j) w v)
    (hok : ∀ j, j < 13 → PFOk j (fc j)) (htime : ∀ j ms, fc j = .time ms → -9223372036854775808 ≤ ms ∧ ms ≤ 9223372036854775807) (hl : (binOf (fc 1)).length ≤ 140737488355328) :
    Calls Tryz.prog 27 #[.pointer (some ⟨x, 0, none⟩)] w fun e w' => ∃ (A : Nat → Option Addr) (n b : Nat → Nat), e = .returned (.tuple #[.agg #[.slice (A 0) (n 0) (b 0), .slice (A 1) (n 1) (b 1), .slice (A 2) (n 2) (b 2), .slice (A 3) (n 3) (b 3), .slice (A 4) (n 4) (b 4), .slice (A 5) (n 5) (b 5), .slice (A 6) (n 6) (b 6), .slice (A 7) (n 7) (b 7), .slice (A 8) (n 8) (b 8), .slice (A 9) (n 9) (b 9), .slice (A 10) (n 10) (b 10), .slice (A 11) (n 11) (b 11), .slice (A 12) (n 12) (b 12)], .bool true]) ∧ Chg (fun _ => False) w w' ∧ ∀ j, j < 13 → ResAt w.heap.size (outOf fc j) w' (.slice (A j) (n j) (b j)) := by
  obtain ⟨v0, a0, p0⟩ := hj 0 (by omega)
  have q0 : fc 0 = .nul ∨ ∃ l, fc 0 = .id l := by
    have h := hok 0 (by omega)
    revert h
    cases fc 0 <;> intro h <;> first | exact .inl rfl | exact .inr ⟨_, rfl⟩ | exact (h : False).elim
  obtain ⟨v1, a1, p1⟩ := hj 1 (by omega)
  have q1 : fc 1 = .nul ∨ ∃ l, fc 1 = .bin l := by
    have h := hok 1 (by omega)
    revert h
    cases fc 1 <;> intro h <;> first | exact .inl rfl | exact .inr ⟨_, rfl⟩ | exact (h : False).elim
  obtain ⟨v2, a2, p2⟩ := hj 2 (by omega)
  have q2 : fc 2 = .nul ∨ ∃ l, fc 2 = .text l := by
    have h := hok 2 (by omega)
    revert h
    cases fc 2 <;> intro h <;> first | exact .inl rfl | exact .inr ⟨_, rfl⟩ | exact (h : False).elim
  obtain ⟨v3, a3, p3⟩ := hj 3 (by omega)
  have q3 : fc 3 = .nul ∨ ∃ l, fc 3 = .text l := by
    have h := hok 3 (by omega)
    revert h
    cases fc 3 <;> intro h <;> first | exact .inl rfl | exact .inr ⟨_, rfl⟩ | exact (h : False).elim
  obtain ⟨v4, a4, p4⟩ := hj 4 (by omega)
  have q4 : fc 4 = .nul ∨ ∃ l, fc 4 = .text l := by
    have h := hok 4 (by omega)
    revert h
    cases fc 4 <;> intro h <;> first | exact .inl rfl | exact .inr ⟨_, rfl⟩ | exact (h : False).elim
  obtain ⟨v5, a5, p5⟩ := hj 5 (by omega)
  have q5 : fc 5 = .nul ∨ ∃ l, fc 5 = .id l := by
    have h := hok 5 (by omega)
    revert h
    cases fc 5 <;> intro h <;> first | exact .inl rfl | exact .inr ⟨_, rfl⟩ | exact (h : False).elim
  obtain ⟨v6, a6, p6⟩ := hj 6 (by omega)
  have q6 : fc 6 = .nul ∨ ∃ l, fc 6 = .text l := by
    have h := hok 6 (by omega)
    revert h
    cases fc 6 <;> intro h <;> first | exact .inl rfl | exact .inr ⟨_, rfl⟩ | exact (h : False).elim
  obtain ⟨v7, a7, p7⟩ := hj 7 (by omega)
  have q7 : fc 7 = .nul ∨ ∃ l, fc 7 = .text l := by
    have h := hok 7 (by omega)
    revert h
    cases fc 7 <;> intro h <;> first | exact .inl rfl | exact .inr ⟨_, rfl⟩ | exact (h : False).elim
  obtain ⟨v8, a8, p8⟩ := hj 8 (by omega)
  have q8 : fc 8 = .nul ∨ ∃ ms, fc 8 = .time ms ∧ -9223372036854775808 ≤ ms ∧ ms ≤ 9223372036854775807 := by
    have h := hok 8 (by omega)
    have ht := htime 8
    revert h ht
    cases fc 8 <;> intro h ht <;> first | exact .inl rfl | exact (h : False).elim | exact .inr ⟨_, rfl, ht _ rfl⟩
  obtain ⟨v9, a9, p9⟩ := hj 9 (by omega)
  have q9 : fc 9 = .nul ∨ ∃ ms, fc 9 = .time ms ∧ -9223372036854775808 ≤ ms ∧ ms ≤ 9223372036854775807 := by
    have h := hok 9 (by omega)
    have ht := htime 9
    revert h ht
    cases fc 9 <;> intro h ht <;> first | exact .inl rfl | exact (h : False).elim | exact .inr ⟨_, rfl, ht _ rfl⟩
  obtain ⟨v10, a10, p10⟩ := hj 10 (by omega)
  have q10 : fc 10 = .nul ∨ ∃ l, fc 10 = .text l := by
    have h := hok 10 (by omega)
    revert h
    cases fc 10 <;> intro h <;> first | exact .inl rfl | exact .inr ⟨_, rfl⟩ | exact (h : False).elim
  obtain ⟨v11, a11, p11⟩ := hj 11 (by omega)
  have q11 : fc 11 = .nul ∨ ∃ l, fc 11 = .u32 l := by
    have h := hok 11 (by omega)
    revert h
    cases fc 11 <;> intro h <;> first | exact .inl rfl | exact .inr ⟨_, rfl⟩ | exact (h : False).elim
  obtain ⟨v12, a12, p12⟩ := hj 12 (by omega)
  have q12 : fc 12 = .nul ∨ ∃ l, fc 12 = .text l := by
    have h := hok 12 (by omega)
    revert h
    cases fc 12 <;> intro h <;> first | exact .inl rfl | exact .inr ⟨_, rfl⟩ | exact (h : False).elim
  refine (ofProps (blk_cell hx a1) p1 (blk_cell hx a2) p2 (blk_cell hx a3) p3 (blk_cell hx a4) p4 (blk_cell hx a6) p6 (blk_cell hx a7) p7 (blk_cell hx a10) p10 (blk_cell hx a11) p11 (blk_cell hx a12) p12 q1 q2 q3 q4 q6 q7 q10 q11 q12 hl (blk_cell hx a0) p0 q0 (blk_cell hx a5) p5 q5 (blk_cell hx a8) p8 q8 (blk_cell hx a9) p9 q9).mono ?_
  rintro e w' ⟨e0, e1, e2, e3, e4, e5, e6, e7, e8, e9, e10, e11, e12, rfl, hc, r0, r1, r2, r3, r4, r5, r6, r7, r8, r9, r10, r11, r12⟩
  obtain ⟨A0, n0, b0, h0⟩ := r0.slice; subst h0
  obtain ⟨A1, n1, b1, h1⟩ := r1.slice; subst h1
  obtain ⟨A2, n2, b2, h2⟩ := r2.slice; subst h2
  obtain ⟨A3, n3, b3, h3⟩ := r3.slice; subst h3
  obtain ⟨A4, n4, b4, h4⟩ := r4.slice; subst h4
  obtain ⟨A5, n5, b5, h5⟩ := r5.slice; subst h5
  obtain ⟨A6, n6, b6, h6⟩ := r6.slice; subst h6
  obtain ⟨A7, n7, b7, h7⟩ := r7.slice; subst h7
  obtain ⟨A8, n8, b8, h8⟩ := r8.slice; subst h8
  obtain ⟨A9, n9, b9, h9⟩ := r9.slice; subst h9
  obtain ⟨A10, n10, b10, h10⟩ := r10.slice; subst h10
  obtain ⟨A11, n11, b11, h11⟩ := r11.slice; subst h11
  obtain ⟨A12, n12, b12, h12⟩ := r12.slice; subst h12
  refine ⟨fun j => #[A0, A1, A2, A3, A4, A5, A6, A7, A8, A9, A10, A11, A12].getD j none, fun j => #[n0, n1, n2, n3, n4, n5, n6, n7, n8, n9, n10, n11, n12].getD j 0, fun j => #[b0, b1, b2, b3, b4, b5, b6, b7, b8, b9, b10, b11, b12].getD j 0, rfl, hc, fun j hj => ?_⟩
  match j, hj with
  | 0, _ => exact r0
  | 1, _ => exact r1
  | 2, _ => exact r2
  | 3, _ => exact r3
  | 4, _ => exact r4
  | 5, _ => exact r5
  | 6, _ => exact r6
  | 7, _ => exact r7
  | 8, _ => exact r8
  | 9, _ => exact r9
  | 10, _ => exact r10
  | 11, _ => exact r11
  | 12, _ => exact r12
  | j + 13, h => omega
end Go.Proofs.S
