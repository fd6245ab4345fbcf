/- The properties of a message as fields, and as a value again: for properties whose slots hold plain values. -/
import Derived.Test.YtoilepadamfacaaGreatDoorD21
set_option linter.unusedVariables false
set_option linter.unusedSimpArgs false
namespace Go.Proofs.S
open Go.RowKit Go.Maps
/-- What a field's slice holds: any value, none or one. -/
def SlotAny (w : World) (A : Option Addr) (n : Nat) (x : FV) : Prop := (n = 0 ∧ x = FV0) ∨ (n = 1 ∧ ∃ g o, A = some ⟨g, o, none⟩ ∧ FVAt w g o x)
def SlotText (K : Int) (w : World) (A : Option Addr) (n : Nat) (x : FV) : Prop := (n = 0 ∧ x = FV0) ∨ (n = 1 ∧ ∃ g o s, A = some ⟨g, o, none⟩ ∧ w.cell? ⟨g, o, none⟩ = some (.string s) ∧ x = ⟨K, 0, s, none, 0, 0, 0, none, 0⟩)
def SlotI (w : World) (A : Option Addr) (n : Nat) (x : FV) : Prop := (n = 0 ∧ x = FV0) ∨ (n = 1 ∧ ∃ g o z, A = some ⟨g, o, none⟩ ∧ w.cell? ⟨g, o, none⟩ = some (.int .i64 z) ∧ x = ⟨16, (IntKind.u64.wrap z).toNat, ⟨#[]⟩, none, 0, 0, 0, none, 0⟩)
def SlotU (w : World) (A : Option Addr) (n : Nat) (x : FV) : Prop := (n = 0 ∧ x = FV0) ∨ (n = 1 ∧ ∃ g o z, A = some ⟨g, o, none⟩ ∧ w.cell? ⟨g, o, none⟩ = some (.int .u32 z) ∧ x = ⟨4, (IntKind.u64.wrap z).toNat, ⟨#[]⟩, none, 0, 0, 0, none, 0⟩)
def SlotBin (w : World) (A : Option Addr) (n c : Nat) (x : FV) : Prop := ∃ l, l.length = n ∧ Bs w (.slice A n c) l ∧ ((n = 0 ∧ x = FV0) ∨ (0 < n ∧ x = ⟨18, 0, ⟨l.toArray⟩, none, 0, 0, 0, none, 0⟩))
def SlotAt (j : Nat) (w : World) (A : Option Addr) (n c : Nat) (x : FV) : Prop :=
  match j with
  | 0 => SlotAny w A n x
  | 1 => SlotBin w A n c x
  | 2 => SlotText 19 w A n x
  | 3 => SlotText 19 w A n x
  | 4 => SlotText 19 w A n x
  | 5 => SlotAny w A n x
  | 6 => SlotText 20 w A n x
  | 7 => SlotText 20 w A n x
  | 8 => SlotI w A n x
  | 9 => SlotI w A n x
  | 10 => SlotText 19 w A n x
  | 11 => SlotU w A n x
  | 12 => SlotText 19 w A n x
  | _ => True
/-- A field, its default nothing. -/
abbrev fld (x : FV) : Value := .agg #[.int .i64 x.kd, .int .u64 (x.nm : Int), .string x.tx, .slice x.kA x.kN x.kC, .int .i64 x.of_, .slice x.dA 0 x.dC, .int .i64 0, .int .u64 0, .string ⟨#[]⟩, .slice none 0 0, .int .i64 0, .slice none 0 0]
theorem any_slot {w w1 : World} {A : Option Addr} {n c : Nat} {x : FV} (h : SlotAny w A n x) (hc : Chg (fun _ => False) w w1) : Calls Tryz.prog 29 #[.slice A n c] w1 fun e w' => e = .returned (fld x) ∧ Chg (fun _ => False) w1 w' := by
  rcases h with ⟨rfl, rfl⟩ | ⟨rfl, g, o, rfl, hx⟩
  · exact anyField_none A c w1
  · exact anyField_some (hx.chg hc (fun h => h))
theorem text_slot {w w1 : World} {K : Int} {A : Option Addr} {n c : Nat} {x : FV} (h : SlotText K w A n x) (hc : Chg (fun _ => False) w w1) : Calls Tryz.prog 30 #[.int .i64 K, .slice A n c] w1 fun e w' => e = .returned (fld x) ∧ Chg (fun _ => False) w1 w' := by
  rcases h with ⟨rfl, rfl⟩ | ⟨rfl, g, o, s, rfl, hx, rfl⟩
  · exact maybeText_none K A c w1
  · exact maybeText_some K (hc.cell hx (fun h => h))
theorem u64_nat (z : Int) : ((IntKind.u64.wrap z).toNat : Int) = IntKind.u64.wrap z := Int.toNat_of_nonneg (u64_range z).1
theorem maybeI_slot {w w1 : World} {A : Option Addr} {n c : Nat} {x : FV} (h : SlotI w A n x) (hc : Chg (fun _ => False) w w1) : Calls Tryz.prog 31 #[.int .i64 16, .slice A n c] w1 fun e w' => e = .returned (fld x) ∧ Chg (fun _ => False) w1 w' := by
  rcases h with ⟨rfl, rfl⟩ | ⟨rfl, g, o, z, rfl, hx, rfl⟩
  · exact maybeI_none 16 A c w1
  · unfold fld
    rw [show ((⟨16, (IntKind.u64.wrap z).toNat, ⟨#[]⟩, none, 0, 0, 0, none, 0⟩ : FV).nm : Int) = IntKind.u64.wrap z from u64_nat z]
    exact maybeI_some 16 (hc.cell hx (fun h => h))
theorem maybeU_slot {w w1 : World} {A : Option Addr} {n c : Nat} {x : FV} (h : SlotU w A n x) (hc : Chg (fun _ => False) w w1) : Calls Tryz.prog 32 #[.int .i64 4, .slice A n c] w1 fun e w' => e = .returned (fld x) ∧ Chg (fun _ => False) w1 w' := by
  rcases h with ⟨rfl, rfl⟩ | ⟨rfl, g, o, z, rfl, hx, rfl⟩
  · exact maybeU_none 4 A c w1
  · unfold fld
    rw [show ((⟨4, (IntKind.u64.wrap z).toNat, ⟨#[]⟩, none, 0, 0, 0, none, 0⟩ : FV).nm : Int) = IntKind.u64.wrap z from u64_nat z]
    exact maybeU_some 4 (hc.cell hx (fun h => h))
/-- The block of the fields. -/
def FieldsBlk (F : Nat → FV) (w : World) (g : Nat) : Prop := w.heap[g]? = some (.cells #[.int .i64 (F 0).kd, .int .u64 ((F 0).nm : Int), .string (F 0).tx, .slice (F 0).kA (F 0).kN (F 0).kC, .int .i64 (F 0).of_, .slice (F 0).dA 0 (F 0).dC, .int .i64 0, .int .u64 0, .string ⟨#[]⟩, .slice none 0 0, .int .i64 0, .slice none 0 0, .int .i64 (F 1).kd, .int .u64 ((F 1).nm : Int), .string (F 1).tx, .slice (F 1).kA (F 1).kN (F 1).kC, .int .i64 (F 1).of_, .slice (F 1).dA 0 (F 1).dC, .int .i64 0, .int .u64 0, .string ⟨#[]⟩, .slice none 0 0, .int .i64 0, .slice none 0 0, .int .i64 (F 2).kd, .int .u64 ((F 2).nm : Int), .string (F 2).tx, .slice (F 2).kA (F 2).kN (F 2).kC, .int .i64 (F 2).of_, .slice (F 2).dA 0 (F 2).dC, .int .i64 0, .int .u64 0, .string ⟨#[]⟩, .slice none 0 0, .int .i64 0, .slice none 0 0, .int .i64 (F 3).kd, .int .u64 ((F 3).nm : Int), .string (F 3).tx, .slice (F 3).kA (F 3).kN (F 3).kC, .int .i64 (F 3).of_, .slice (F 3).dA 0 (F 3).dC, .int .i64 0, .int .u64 0, .string ⟨#[]⟩, .slice none 0 0, .int .i64 0, .slice none 0 0, .int .i64 (F 4).kd, .int .u64 ((F 4).nm : Int), .string (F 4).tx, .slice (F 4).kA (F 4).kN (F 4).kC, .int .i64 (F 4).of_, .slice (F 4).dA 0 (F 4).dC, .int .i64 0, .int .u64 0, .string ⟨#[]⟩, .slice none 0 0, .int .i64 0, .slice none 0 0, .int .i64 (F 5).kd, .int .u64 ((F 5).nm : Int), .string (F 5).tx, .slice (F 5).kA (F 5).kN (F 5).kC, .int .i64 (F 5).of_, .slice (F 5).dA 0 (F 5).dC, .int .i64 0, .int .u64 0, .string ⟨#[]⟩, .slice none 0 0, .int .i64 0, .slice none 0 0, .int .i64 (F 6).kd, .int .u64 ((F 6).nm : Int), .string (F 6).tx, .slice (F 6).kA (F 6).kN (F 6).kC, .int .i64 (F 6).of_, .slice (F 6).dA 0 (F 6).dC, .int .i64 0, .int .u64 0, .string ⟨#[]⟩, .slice none 0 0, .int .i64 0, .slice none 0 0, .int .i64 (F 7).kd, .int .u64 ((F 7).nm : Int), .string (F 7).tx, .slice (F 7).kA (F 7).kN (F 7).kC, .int .i64 (F 7).of_, .slice (F 7).dA 0 (F 7).dC, .int .i64 0, .int .u64 0, .string ⟨#[]⟩, .slice none 0 0, .int .i64 0, .slice none 0 0, .int .i64 (F 8).kd, .int .u64 ((F 8).nm : Int), .string (F 8).tx, .slice (F 8).kA (F 8).kN (F 8).kC, .int .i64 (F 8).of_, .slice (F 8).dA 0 (F 8).dC, .int .i64 0, .int .u64 0, .string ⟨#[]⟩, .slice none 0 0, .int .i64 0, .slice none 0 0, .int .i64 (F 9).kd, .int .u64 ((F 9).nm : Int), .string (F 9).tx, .slice (F 9).kA (F 9).kN (F 9).kC, .int .i64 (F 9).of_, .slice (F 9).dA 0 (F 9).dC, .int .i64 0, .int .u64 0, .string ⟨#[]⟩, .slice none 0 0, .int .i64 0, .slice none 0 0, .int .i64 (F 10).kd, .int .u64 ((F 10).nm : Int), .string (F 10).tx, .slice (F 10).kA (F 10).kN (F 10).kC, .int .i64 (F 10).of_, .slice (F 10).dA 0 (F 10).dC, .int .i64 0, .int .u64 0, .string ⟨#[]⟩, .slice none 0 0, .int .i64 0, .slice none 0 0, .int .i64 (F 11).kd, .int .u64 ((F 11).nm : Int), .string (F 11).tx, .slice (F 11).kA (F 11).kN (F 11).kC, .int .i64 (F 11).of_, .slice (F 11).dA 0 (F 11).dC, .int .i64 0, .int .u64 0, .string ⟨#[]⟩, .slice none 0 0, .int .i64 0, .slice none 0 0, .int .i64 (F 12).kd, .int .u64 ((F 12).nm : Int), .string (F 12).tx, .slice (F 12).kA (F 12).kN (F 12).kC, .int .i64 (F 12).of_, .slice (F 12).dA 0 (F 12).dC, .int .i64 0, .int .u64 0, .string ⟨#[]⟩, .slice none 0 0, .int .i64 0, .slice none 0 0] 83 (0, 0))
theorem FieldsBlk.at {F : Nat → FV} {w : World} {g : Nat} (h : FieldsBlk F w g) : ∀ j, j < 13 → FVAt w g (j * 12) (F j) ∧ FVAt w g (j * 12 + 6) FV0 := by
  intro j hj
  have hcase : j = 0 ∨ j = 1 ∨ j = 2 ∨ j = 3 ∨ j = 4 ∨ j = 5 ∨ j = 6 ∨ j = 7 ∨ j = 8 ∨ j = 9 ∨ j = 10 ∨ j = 11 ∨ j = 12 := by omega
  rcases hcase with rfl | rfl | rfl | rfl | rfl | rfl | rfl | rfl | rfl | rfl | rfl | rfl | rfl <;>
    exact ⟨⟨blk_cell h rfl, blk_cell h rfl, blk_cell h rfl, blk_cell h rfl, blk_cell h rfl, blk_cell h rfl⟩, ⟨blk_cell h rfl, blk_cell h rfl, blk_cell h rfl, blk_cell h rfl, blk_cell h rfl, blk_cell h rfl⟩⟩
def RPO (A : Nat → Option Addr) (n b : Nat → Nat) (F : Nat → FV) (base b1 rs : Nat) (i : Nat) (v : Value) (m : Nat → Value) (c : Nat) (w : World) : Prop :=
  match i with
  | 0 => v = .pointer (some ⟨b1, 0, none⟩)
  | 1 => v = .slice (A 0) (n 0) (b 0)
  | 2 => v = .agg #[.int .i64 (F 0).kd, .int .u64 ((F 0).nm : Int), .string (F 0).tx, .slice (F 0).kA (F 0).kN (F 0).kC, .int .i64 (F 0).of_, .slice (F 0).dA 0 (F 0).dC, .int .i64 0, .int .u64 0, .string ⟨#[]⟩, .slice none 0 0, .int .i64 0, .slice none 0 0]
  | 3 => v = .agg #[.int .i64 (F 1).kd, .int .u64 ((F 1).nm : Int), .string (F 1).tx, .slice (F 1).kA (F 1).kN (F 1).kC, .int .i64 (F 1).of_, .slice (F 1).dA 0 (F 1).dC, .int .i64 0, .int .u64 0, .string ⟨#[]⟩, .slice none 0 0, .int .i64 0, .slice none 0 0]
  | 4 => v = .pointer (some ⟨b1, 2, none⟩)
  | 5 => v = .slice (A 2) (n 2) (b 2)
  | 6 => v = .agg #[.int .i64 (F 2).kd, .int .u64 ((F 2).nm : Int), .string (F 2).tx, .slice (F 2).kA (F 2).kN (F 2).kC, .int .i64 (F 2).of_, .slice (F 2).dA 0 (F 2).dC, .int .i64 0, .int .u64 0, .string ⟨#[]⟩, .slice none 0 0, .int .i64 0, .slice none 0 0]
  | 7 => v = .pointer (some ⟨b1, 3, none⟩)
  | 8 => v = .slice (A 3) (n 3) (b 3)
  | 9 => v = .agg #[.int .i64 (F 3).kd, .int .u64 ((F 3).nm : Int), .string (F 3).tx, .slice (F 3).kA (F 3).kN (F 3).kC, .int .i64 (F 3).of_, .slice (F 3).dA 0 (F 3).dC, .int .i64 0, .int .u64 0, .string ⟨#[]⟩, .slice none 0 0, .int .i64 0, .slice none 0 0]
  | 10 => v = .pointer (some ⟨b1, 4, none⟩)
  | 11 => v = .slice (A 4) (n 4) (b 4)
  | 12 => v = .agg #[.int .i64 (F 4).kd, .int .u64 ((F 4).nm : Int), .string (F 4).tx, .slice (F 4).kA (F 4).kN (F 4).kC, .int .i64 (F 4).of_, .slice (F 4).dA 0 (F 4).dC, .int .i64 0, .int .u64 0, .string ⟨#[]⟩, .slice none 0 0, .int .i64 0, .slice none 0 0]
  | 13 => v = .pointer (some ⟨b1, 5, none⟩)
  | 14 => v = .slice (A 5) (n 5) (b 5)
  | 15 => v = .agg #[.int .i64 (F 5).kd, .int .u64 ((F 5).nm : Int), .string (F 5).tx, .slice (F 5).kA (F 5).kN (F 5).kC, .int .i64 (F 5).of_, .slice (F 5).dA 0 (F 5).dC, .int .i64 0, .int .u64 0, .string ⟨#[]⟩, .slice none 0 0, .int .i64 0, .slice none 0 0]
  | 16 => v = .pointer (some ⟨b1, 6, none⟩)
  | 17 => v = .slice (A 6) (n 6) (b 6)
  | 18 => v = .agg #[.int .i64 (F 6).kd, .int .u64 ((F 6).nm : Int), .string (F 6).tx, .slice (F 6).kA (F 6).kN (F 6).kC, .int .i64 (F 6).of_, .slice (F 6).dA 0 (F 6).dC, .int .i64 0, .int .u64 0, .string ⟨#[]⟩, .slice none 0 0, .int .i64 0, .slice none 0 0]
  | 19 => v = .pointer (some ⟨b1, 7, none⟩)
  | 20 => v = .slice (A 7) (n 7) (b 7)
  | 21 => v = .agg #[.int .i64 (F 7).kd, .int .u64 ((F 7).nm : Int), .string (F 7).tx, .slice (F 7).kA (F 7).kN (F 7).kC, .int .i64 (F 7).of_, .slice (F 7).dA 0 (F 7).dC, .int .i64 0, .int .u64 0, .string ⟨#[]⟩, .slice none 0 0, .int .i64 0, .slice none 0 0]
  | 22 => v = .pointer (some ⟨b1, 8, none⟩)
  | 23 => v = .slice (A 8) (n 8) (b 8)
  | 24 => v = .agg #[.int .i64 (F 8).kd, .int .u64 ((F 8).nm : Int), .string (F 8).tx, .slice (F 8).kA (F 8).kN (F 8).kC, .int .i64 (F 8).of_, .slice (F 8).dA 0 (F 8).dC, .int .i64 0, .int .u64 0, .string ⟨#[]⟩, .slice none 0 0, .int .i64 0, .slice none 0 0]
  | 25 => v = .pointer (some ⟨b1, 9, none⟩)
  | 26 => v = .slice (A 9) (n 9) (b 9)
  | 27 => v = .agg #[.int .i64 (F 9).kd, .int .u64 ((F 9).nm : Int), .string (F 9).tx, .slice (F 9).kA (F 9).kN (F 9).kC, .int .i64 (F 9).of_, .slice (F 9).dA 0 (F 9).dC, .int .i64 0, .int .u64 0, .string ⟨#[]⟩, .slice none 0 0, .int .i64 0, .slice none 0 0]
  | 28 => v = .pointer (some ⟨b1, 10, none⟩)
  | 29 => v = .slice (A 10) (n 10) (b 10)
  | 30 => v = .agg #[.int .i64 (F 10).kd, .int .u64 ((F 10).nm : Int), .string (F 10).tx, .slice (F 10).kA (F 10).kN (F 10).kC, .int .i64 (F 10).of_, .slice (F 10).dA 0 (F 10).dC, .int .i64 0, .int .u64 0, .string ⟨#[]⟩, .slice none 0 0, .int .i64 0, .slice none 0 0]
  | 31 => v = .pointer (some ⟨b1, 11, none⟩)
  | 32 => v = .slice (A 11) (n 11) (b 11)
  | 33 => v = .agg #[.int .i64 (F 11).kd, .int .u64 ((F 11).nm : Int), .string (F 11).tx, .slice (F 11).kA (F 11).kN (F 11).kC, .int .i64 (F 11).of_, .slice (F 11).dA 0 (F 11).dC, .int .i64 0, .int .u64 0, .string ⟨#[]⟩, .slice none 0 0, .int .i64 0, .slice none 0 0]
  | 34 => v = .pointer (some ⟨b1, 12, none⟩)
  | 35 => v = .slice (A 12) (n 12) (b 12)
  | 36 => v = .agg #[.int .i64 (F 12).kd, .int .u64 ((F 12).nm : Int), .string (F 12).tx, .slice (F 12).kA (F 12).kN (F 12).kC, .int .i64 (F 12).of_, .slice (F 12).dA 0 (F 12).dC, .int .i64 0, .int .u64 0, .string ⟨#[]⟩, .slice none 0 0, .int .i64 0, .slice none 0 0]
  | 37 => ∃ g, v = .slice (some ⟨g, 0, none⟩) 13 13 ∧ base ≤ g ∧ FieldsBlk F w g
  | 38 => ∃ g, v = .agg #[.int .u64 115, .slice (some ⟨g, 0, none⟩) 13 13] ∧ base ≤ g ∧ FieldsBlk F w g
  | 39 => ∃ g, base ≤ g ∧ FieldsBlk F w g ∧ w.heap[rs]? = some (.cells #[.int .u64 115, .slice (some ⟨g, 0, none⟩) 13 13] 35 (0, 0))
  | _ => True
theorem RPO_ext (A : Nat → Option Addr) (n b : Nat → Nat) (F : Nat → FV) (base b1 rs : Nat) {i : Nat} {v : Value} {m : Nat → Value} {c : Nat} {w w1 : World} (h : RPO A n b F base b1 rs i v m c w) (hc : Chg (fun _ => False) w w1) : RPO A n b F base b1 rs i v m (c + 1) w1 := by
  unfold RPO at h ⊢
  split
  · exact h
  · exact h
  · exact h
  · exact h
  · exact h
  · exact h
  · exact h
  · exact h
  · exact h
  · exact h
  · exact h
  · exact h
  · exact h
  · exact h
  · exact h
  · exact h
  · exact h
  · exact h
  · exact h
  · exact h
  · exact h
  · exact h
  · exact h
  · exact h
  · exact h
  · exact h
  · exact h
  · exact h
  · exact h
  · exact h
  · exact h
  · exact h
  · exact h
  · exact h
  · exact h
  · exact h
  · exact h
  · obtain ⟨g, h1, h2, h3⟩ := h; exact ⟨g, h1, h2, hc.blkF h3⟩
  · obtain ⟨g, h1, h2, h3⟩ := h; exact ⟨g, h1, h2, hc.blkF h3⟩
  · obtain ⟨g, h2, h3, h4⟩ := h; exact ⟨g, h2, hc.blkF h3, hc.blkF h4⟩
  · trivial
set_option maxHeartbeats 8000000 in
set_option maxRecDepth 1000000 in
/-- PropertiesOf. -/
theorem props_of {A : Nat → Option Addr} {n b : Nat → Nat} {F : Nat → FV} {w : World} (h : ∀ j, j < 13 → SlotAt j w (A j) (n j) (b j) (F j)) :
    Calls Tryz.prog 8 #[.agg #[.slice (A 0) (n 0) (b 0), .slice (A 1) (n 1) (b 1), .slice (A 2) (n 2) (b 2), .slice (A 3) (n 3) (b 3), .slice (A 4) (n 4) (b 4), .slice (A 5) (n 5) (b 5), .slice (A 6) (n 6) (b 6), .slice (A 7) (n 7) (b 7), .slice (A 8) (n 8) (b 8), .slice (A 9) (n 9) (b 9), .slice (A 10) (n 10) (b 10), .slice (A 11) (n 11) (b 11), .slice (A 12) (n 12) (b 12)]] w fun e w' => ∃ g, e = .returned (.agg #[.int .u64 115, .slice (some ⟨g, 0, none⟩) 13 13]) ∧ w.heap.size ≤ g ∧ (∀ j, j < 13 → FVAt w' g (j * 12) (F j) ∧ FVAt w' g (j * 12 + 6) FV0) ∧ Chg (fun _ => False) w w' := by
  have s0 := h 0 (by decide)
  have s1 := h 1 (by decide)
  have s2 := h 2 (by decide)
  have s3 := h 3 (by decide)
  have s4 := h 4 (by decide)
  have s5 := h 5 (by decide)
  have s6 := h 6 (by decide)
  have s7 := h 7 (by decide)
  have s8 := h 8 (by decide)
  have s9 := h 9 (by decide)
  have s10 := h 10 (by decide)
  have s11 := h 11 (by decide)
  have s12 := h 12 (by decide)
  clear h
  obtain ⟨l, hln, hbs, hl⟩ := s1
  have hcv := fun (W : World) (hW : Chg (fun _ => False) w W) => conv_bs (w := W) (l := l) (v := .slice (A 1) (n 1) (b 1)) (hbs.chg hW)
  have HCV := Lib.hid hcv; have HL := Lib.hid hl; have HLN := Lib.hid hln
  have S0w := Lib.hid s0
  have S2w := Lib.hid s2
  have S3w := Lib.hid s3
  have S4w := Lib.hid s4
  have S5w := Lib.hid s5
  have S6w := Lib.hid s6
  have S7w := Lib.hid s7
  have S8w := Lib.hid s8
  have S9w := Lib.hid s9
  have S10w := Lib.hid s10
  have S11w := Lib.hid s11
  have S12w := Lib.hid s12
  clear hcv hbs hl hln s0 s2 s3 s4 s5 s6 s7 s8 s9 s10 s11 s12
  go_enter Tryz.func8, Tryz.ntmps8
  go_upto_region 1 with (fail)
  refine wp_any_world (fun w' => Chg (fun _ => False) w w' ∧ w'.heap.size = w.heap.size + 2 ∧ w'.heap[w.heap.size]? = some (.cells #[.slice (A 0) (n 0) (b 0), .slice (A 1) (n 1) (b 1), .slice (A 2) (n 2) (b 2), .slice (A 3) (n 3) (b 3), .slice (A 4) (n 4) (b 4), .slice (A 5) (n 5) (b 5), .slice (A 6) (n 6) (b 6), .slice (A 7) (n 7) (b 7), .slice (A 8) (n 8) (b 8), .slice (A 9) (n 9) (b 9), .slice (A 10) (n 10) (b 10), .slice (A 11) (n 11) (b 11), .slice (A 12) (n 12) (b 12)] 28 (0, 0)) ∧ w'.heap[w.heap.size + 1]? = some (.cells #[.int .u64 0, .slice none 0 0] 35 (0, 0))) ⟨((Chg.refl _ w).alloc _).alloc _, by simp, ((Chg.refl (fun _ => False) _).alloc _).blkF (heap_alloc_new _ _), by have := heap_alloc_new (w.alloc (.cells #[.slice (A 0) (n 0) (b 0), .slice (A 1) (n 1) (b 1), .slice (A 2) (n 2) (b 2), .slice (A 3) (n 3) (b 3), .slice (A 4) (n 4) (b 4), .slice (A 5) (n 5) (b 5), .slice (A 6) (n 6) (b 6), .slice (A 7) (n 7) (b 7), .slice (A 8) (n 8) (b 8), .slice (A 9) (n 9) (b 9), .slice (A 10) (n 10) (b 10), .slice (A 11) (n 11) (b 11), .slice (A 12) (n 12) (b 12)] 28)) (.cells #[.int .u64 0, .slice none 0 0] 35); rwa [show (w.alloc (.cells #[.slice (A 0) (n 0) (b 0), .slice (A 1) (n 1) (b 1), .slice (A 2) (n 2) (b 2), .slice (A 3) (n 3) (b 3), .slice (A 4) (n 4) (b 4), .slice (A 5) (n 5) (b 5), .slice (A 6) (n 6) (b 6), .slice (A 7) (n 7) (b 7), .slice (A 8) (n 8) (b 8), .slice (A 9) (n 9) (b 9), .slice (A 10) (n 10) (b 10), .slice (A 11) (n 11) (b 11), .slice (A 12) (n 12) (b 12)] 28)).heap.size = w.heap.size + 1 by simp] at this⟩ ?_
  rintro wa ⟨hCa, hsa, hba, hra⟩
  have HCA := Lib.hid hCa; have HBA := Lib.hid hba; have HRA := Lib.hid hra; have HSA := Lib.hid hsa
  clear hCa hsa hba hra
  go_upto_region 2 with (fail)
  refine wp_any_world (fun w' => Chg (fun _ => False) wa w' ∧ w'.heap[wa.heap.size]? = some (.cells #[.int .i64 0, .int .u64 0, .string ⟨#[]⟩, .slice none 0 0, .int .i64 0, .slice none 0 0, .int .i64 0, .int .u64 0, .string ⟨#[]⟩, .slice none 0 0, .int .i64 0, .slice none 0 0] 83 (0, 0))) ⟨(Chg.refl _ wa).alloc _, heap_alloc_new _ _⟩ ?_
  rintro wb ⟨hCb, hbb⟩
  have HCB := Lib.hid hCb; have HBB := Lib.hid hbb
  have HB1 := Lib.hid (hCb.blkF HBA.out); have HR1 := Lib.hid (hCb.blkF HRA.out)
  have a1 := blk_cell (k := 1) HB1.out rfl
  clear hCb hbb
  go_upto_if 8 with fail
  go_cut [8] (fun _ w' => Chg (fun x => x = wa.heap.size) wb w' ∧ w'.heap[wa.heap.size]? = some (.cells #[.int .i64 (F 1).kd, .int .u64 ((F 1).nm : Int), .string (F 1).tx, .slice (F 1).kA (F 1).kN (F 1).kC, .int .i64 (F 1).of_, .slice (F 1).dA 0 (F 1).dC, .int .i64 0, .int .u64 0, .string ⟨#[]⟩, .slice none 0 0, .int .i64 0, .slice none 0 0] 83 (0, 0)))
  case first =>
    rcases HL.out with ⟨h0, hF⟩ | ⟨h0, hF⟩
    · have h0' := h0
      go_wp2_with fail
      go_meet
      case rel => exact ⟨Chg.refl _ _, by rw [hF]; exact HBB.out⟩
    · have hcvw := HCV.out wb (HCA.out.reads HCB.out)
      have h0' : decide (0 < n 1) = true := by simpa using h0
      have f0 := blk_free (k := 0) HBB.out
      have z0 := blk_cell (k := 0) HBB.out rfl
      have f1 := blk_free (k := 1) HBB.out
      have z1 := blk_cell (k := 1) HBB.out rfl
      have f2 := blk_free (k := 2) HBB.out
      have z2 := blk_cell (k := 2) HBB.out rfl
      have f3 := blk_free (k := 3) HBB.out
      have z3 := blk_cell (k := 3) HBB.out rfl
      have f4 := blk_free (k := 4) HBB.out
      have z4 := blk_cell (k := 4) HBB.out rfl
      have f5 := blk_free (k := 5) HBB.out
      have z5 := blk_cell (k := 5) HBB.out rfl
      have HF := Lib.hid hF
      clear hF
      go_wp2_with fail
      go_meet
      case rel =>
        refine ⟨?_, ?_⟩
        · iterate 6 (refine Chg.setCell (X := fun x => x = wa.heap.size) ?_ (fun _ => by rfl) _)
          exact Chg.refl _ _
        · rw [HF.out]
          exact setCell_blk (k := 5) (setCell_blk (k := 4) (setCell_blk (k := 3) (setCell_blk (k := 2) (setCell_blk (k := 1) (setCell_blk (k := 0) HBB.out _) _) _) _) _) _
  case rest =>
    obtain ⟨hC0, hb3⟩ := hcut
    obtain ⟨w0, rfl⟩ : ∃ w0 : World, w0 = wc := ⟨_, rfl⟩
    have HCC : Hid (Chg (fun _ => False) w w0) := Lib.hid ((HCA.out.reads HCB.out).trans hC0 (fun i hi h => absurd hi (by have h' : i = wa.heap.size := h; have := HSA.out; omega)))
    have hbk := hC0.blk HB1.out (fun h => absurd (show w.heap.size = wa.heap.size from h) (by have := HSA.out; omega))
    have HRS := Lib.hid (hC0.blk HR1.out (fun h => absurd (show w.heap.size + 1 = wa.heap.size from h) (by have := HSA.out; omega)))
    have HRL : Hid (w.heap.size + 2 < w0.heap.size) := Lib.hid (by have h1 := (Array.getElem?_eq_some_iff.1 hb3).1; have := HSA.out; omega)
    have HU : Hid (FVAt w0 (wa.heap.size) 0 (F 1) ∧ FVAt w0 (wa.heap.size) (0 + 6) FV0) := Lib.hid ⟨⟨blk_cell hb3 rfl, blk_cell hb3 rfl, blk_cell hb3 rfl, blk_cell hb3 rfl, blk_cell hb3 rfl, blk_cell hb3 rfl⟩, ⟨blk_cell hb3 rfl, blk_cell hb3 rfl, blk_cell hb3 rfl, blk_cell hb3 rfl, blk_cell hb3 rfl, blk_cell hb3 rfl⟩⟩
    have K0 := Lib.hid (blk_cell (k := 0) hbk rfl)
    have K1 := Lib.hid (blk_cell (k := 1) hbk rfl)
    have K2 := Lib.hid (blk_cell (k := 2) hbk rfl)
    have K3 := Lib.hid (blk_cell (k := 3) hbk rfl)
    have K4 := Lib.hid (blk_cell (k := 4) hbk rfl)
    have K5 := Lib.hid (blk_cell (k := 5) hbk rfl)
    have K6 := Lib.hid (blk_cell (k := 6) hbk rfl)
    have K7 := Lib.hid (blk_cell (k := 7) hbk rfl)
    have K8 := Lib.hid (blk_cell (k := 8) hbk rfl)
    have K9 := Lib.hid (blk_cell (k := 9) hbk rfl)
    have K10 := Lib.hid (blk_cell (k := 10) hbk rfl)
    have K11 := Lib.hid (blk_cell (k := 11) hbk rfl)
    have K12 := Lib.hid (blk_cell (k := 12) hbk rfl)
    clear hC0 hb3 hbk a1
    go_wp2_with fail
    refine wp_region_relZ (RPO A n b F w0.heap.size w.heap.size (w.heap.size + 1)) 39 (fun b_ w' => Chg (fun x => b_ = true ∧ x = w.heap.size + 1) w0 w') [39] (by kernel_rfl) (by kernel_rfl) (by kernel_rfl) (by kernel_rfl) ((Chg.refl _ w0).drewN 1) ?steps ?fin
    case steps =>
      refine ⟨⟨rfl, ?_⟩, ⟨rfl, ?_⟩, ⟨rfl, ?_⟩, ⟨rfl, ?_⟩, ⟨rfl, ?_⟩, ⟨rfl, ?_⟩, ⟨rfl, ?_⟩, ⟨rfl, ?_⟩, ⟨rfl, ?_⟩, ⟨rfl, ?_⟩, ⟨rfl, ?_⟩, ⟨rfl, ?_⟩, ⟨rfl, ?_⟩, ⟨rfl, ?_⟩, ⟨rfl, ?_⟩, ⟨rfl, ?_⟩, ⟨rfl, ?_⟩, ⟨rfl, ?_⟩, ⟨rfl, ?_⟩, ⟨rfl, ?_⟩, ⟨rfl, ?_⟩, ⟨rfl, ?_⟩, ⟨rfl, ?_⟩, ⟨rfl, ?_⟩, ⟨rfl, ?_⟩, ⟨rfl, ?_⟩, ⟨rfl, ?_⟩, ⟨rfl, ?_⟩, ⟨rfl, ?_⟩, ⟨rfl, ?_⟩, ⟨rfl, ?_⟩, ⟨rfl, ?_⟩, ⟨rfl, ?_⟩, ⟨rfl, ?_⟩, ⟨rfl, ?_⟩, ⟨rfl, ?_⟩, ⟨rfl, ?_⟩, ⟨rfl, ?_⟩, ⟨rfl, ?_⟩, ⟨rfl, ?_⟩, trivial⟩
      all_goals (intro vals ev c w1 b_ hz1 hz2 hz3 hc hI0 hR hv h0 hcst hfn hgl)
      · obtain rfl : b_ = false := hz1 (by kernel_rfl)
        have hI : Chg (fun _ => False) w0 w1 := hI0.mono (fun k h => Bool.noConfusion h.1)
        have e1 : ev (.tmp 1) = .pointer (some ⟨w.heap.size, 0, none⟩) := h0 1 (by kernel_rfl)
        clear hR hv h0 hc
        refine Step.fixed (x := .pointer (some ⟨w.heap.size, 0, none⟩)) ?_ ⟨rfl, hI.any, fun i_ x_ m_ _ _ h_ => RPO_ext A n b F w0.heap.size w.heap.size (w.heap.size + 1) h_ (Chg.refl _ _)⟩
        unfold OpDoes
        go_simp
      · obtain rfl : b_ = false := hz1 (by kernel_rfl)
        have hI : Chg (fun _ => False) w0 w1 := hI0.mono (fun k h => Bool.noConfusion h.1)
        have e14 : ev (.tmp 14) = .pointer (some ⟨w.heap.size, 0, none⟩) := (hv 0 14 (by kernel_rfl) (by kernel_rfl) (Nat.le_of_ble_eq_true (by kernel_rfl))).trans (hR 0 (by kernel_rfl))
        have l_k := hI.cell K0.out (fun h => h)
        clear hR hv h0 hc
        refine Step.fixed (x := .slice (A 0) (n 0) (b 0)) ?_ ⟨rfl, hI.any, fun i_ x_ m_ _ _ h_ => RPO_ext A n b F w0.heap.size w.heap.size (w.heap.size + 1) h_ (Chg.refl _ _)⟩
        unfold OpDoes
        go_simp
      · obtain rfl : b_ = false := hz1 (by kernel_rfl)
        have hI : Chg (fun _ => False) w0 w1 := hI0.mono (fun k h => Bool.noConfusion h.1)
        have e15 : ev (.tmp 15) = .slice (A 0) (n 0) (b 0) := (hv 1 15 (by kernel_rfl) (by kernel_rfl) (Nat.le_of_ble_eq_true (by kernel_rfl))).trans (hR 1 (by kernel_rfl))
        have hf := hfn 29
        clear hR hv h0 hc
        unfold OpDoes
        go_simp
        refine (any_slot S0w.out (HCC.out.reads hI)).mono ?_
        rintro _ w2 ⟨rfl, hC⟩
        exact ⟨_, rfl, rfl, (hI.reads hC).any, fun i_ x_ m_ _ _ h_ => RPO_ext A n b F w0.heap.size w.heap.size (w.heap.size + 1) h_ hC⟩
      · obtain rfl : b_ = false := hz1 (by kernel_rfl)
        have hI : Chg (fun _ => False) w0 w1 := hI0.mono (fun k h => Bool.noConfusion h.1)
        have e3 : ev (.tmp 3) = .pointer (some ⟨wa.heap.size, 0, none⟩) := h0 3 (by kernel_rfl)
        obtain ⟨q0, q1, q2, q3, q4, q5⟩ := HU.out.1.chg hI (fun h => h)
        obtain ⟨p0, p1, p2, p3, p4, p5⟩ := HU.out.2.chg hI (fun h => h)
        simp only [Nat.zero_add] at q1 q2 q3 q4 q5
        simp only [Nat.reduceAdd, FV0] at p0 p1 p2 p3 p4 p5
        clear hR hv h0 hc
        refine Step.fixed (x := .agg #[.int .i64 (F 1).kd, .int .u64 ((F 1).nm : Int), .string (F 1).tx, .slice (F 1).kA (F 1).kN (F 1).kC, .int .i64 (F 1).of_, .slice (F 1).dA 0 (F 1).dC, .int .i64 0, .int .u64 0, .string ⟨#[]⟩, .slice none 0 0, .int .i64 0, .slice none 0 0]) ?_ ⟨rfl, hI.any, fun i_ x_ m_ _ _ h_ => RPO_ext A n b F w0.heap.size w.heap.size (w.heap.size + 1) h_ (Chg.refl _ _)⟩
        unfold OpDoes
        go_simp
      · obtain rfl : b_ = false := hz1 (by kernel_rfl)
        have hI : Chg (fun _ => False) w0 w1 := hI0.mono (fun k h => Bool.noConfusion h.1)
        have e1 : ev (.tmp 1) = .pointer (some ⟨w.heap.size, 0, none⟩) := h0 1 (by kernel_rfl)
        clear hR hv h0 hc
        refine Step.fixed (x := .pointer (some ⟨w.heap.size, 2, none⟩)) ?_ ⟨rfl, hI.any, fun i_ x_ m_ _ _ h_ => RPO_ext A n b F w0.heap.size w.heap.size (w.heap.size + 1) h_ (Chg.refl _ _)⟩
        unfold OpDoes
        go_simp
      · obtain rfl : b_ = false := hz1 (by kernel_rfl)
        have hI : Chg (fun _ => False) w0 w1 := hI0.mono (fun k h => Bool.noConfusion h.1)
        have e18 : ev (.tmp 18) = .pointer (some ⟨w.heap.size, 2, none⟩) := (hv 4 18 (by kernel_rfl) (by kernel_rfl) (Nat.le_of_ble_eq_true (by kernel_rfl))).trans (hR 4 (by kernel_rfl))
        have l_k := hI.cell K2.out (fun h => h)
        clear hR hv h0 hc
        refine Step.fixed (x := .slice (A 2) (n 2) (b 2)) ?_ ⟨rfl, hI.any, fun i_ x_ m_ _ _ h_ => RPO_ext A n b F w0.heap.size w.heap.size (w.heap.size + 1) h_ (Chg.refl _ _)⟩
        unfold OpDoes
        go_simp
      · obtain rfl : b_ = false := hz1 (by kernel_rfl)
        have hI : Chg (fun _ => False) w0 w1 := hI0.mono (fun k h => Bool.noConfusion h.1)
        have e19 : ev (.tmp 19) = .slice (A 2) (n 2) (b 2) := (hv 5 19 (by kernel_rfl) (by kernel_rfl) (Nat.le_of_ble_eq_true (by kernel_rfl))).trans (hR 5 (by kernel_rfl))
        have hf := hfn 30
        clear hR hv h0 hc
        unfold OpDoes
        go_simp
        refine (text_slot S2w.out (HCC.out.reads hI)).mono ?_
        rintro _ w2 ⟨rfl, hC⟩
        exact ⟨_, rfl, rfl, (hI.reads hC).any, fun i_ x_ m_ _ _ h_ => RPO_ext A n b F w0.heap.size w.heap.size (w.heap.size + 1) h_ hC⟩
      · obtain rfl : b_ = false := hz1 (by kernel_rfl)
        have hI : Chg (fun _ => False) w0 w1 := hI0.mono (fun k h => Bool.noConfusion h.1)
        have e1 : ev (.tmp 1) = .pointer (some ⟨w.heap.size, 0, none⟩) := h0 1 (by kernel_rfl)
        clear hR hv h0 hc
        refine Step.fixed (x := .pointer (some ⟨w.heap.size, 3, none⟩)) ?_ ⟨rfl, hI.any, fun i_ x_ m_ _ _ h_ => RPO_ext A n b F w0.heap.size w.heap.size (w.heap.size + 1) h_ (Chg.refl _ _)⟩
        unfold OpDoes
        go_simp
      · obtain rfl : b_ = false := hz1 (by kernel_rfl)
        have hI : Chg (fun _ => False) w0 w1 := hI0.mono (fun k h => Bool.noConfusion h.1)
        have e21 : ev (.tmp 21) = .pointer (some ⟨w.heap.size, 3, none⟩) := (hv 7 21 (by kernel_rfl) (by kernel_rfl) (Nat.le_of_ble_eq_true (by kernel_rfl))).trans (hR 7 (by kernel_rfl))
        have l_k := hI.cell K3.out (fun h => h)
        clear hR hv h0 hc
        refine Step.fixed (x := .slice (A 3) (n 3) (b 3)) ?_ ⟨rfl, hI.any, fun i_ x_ m_ _ _ h_ => RPO_ext A n b F w0.heap.size w.heap.size (w.heap.size + 1) h_ (Chg.refl _ _)⟩
        unfold OpDoes
        go_simp
      · obtain rfl : b_ = false := hz1 (by kernel_rfl)
        have hI : Chg (fun _ => False) w0 w1 := hI0.mono (fun k h => Bool.noConfusion h.1)
        have e22 : ev (.tmp 22) = .slice (A 3) (n 3) (b 3) := (hv 8 22 (by kernel_rfl) (by kernel_rfl) (Nat.le_of_ble_eq_true (by kernel_rfl))).trans (hR 8 (by kernel_rfl))
        have hf := hfn 30
        clear hR hv h0 hc
        unfold OpDoes
        go_simp
        refine (text_slot S3w.out (HCC.out.reads hI)).mono ?_
        rintro _ w2 ⟨rfl, hC⟩
        exact ⟨_, rfl, rfl, (hI.reads hC).any, fun i_ x_ m_ _ _ h_ => RPO_ext A n b F w0.heap.size w.heap.size (w.heap.size + 1) h_ hC⟩
      · obtain rfl : b_ = false := hz1 (by kernel_rfl)
        have hI : Chg (fun _ => False) w0 w1 := hI0.mono (fun k h => Bool.noConfusion h.1)
        have e1 : ev (.tmp 1) = .pointer (some ⟨w.heap.size, 0, none⟩) := h0 1 (by kernel_rfl)
        clear hR hv h0 hc
        refine Step.fixed (x := .pointer (some ⟨w.heap.size, 4, none⟩)) ?_ ⟨rfl, hI.any, fun i_ x_ m_ _ _ h_ => RPO_ext A n b F w0.heap.size w.heap.size (w.heap.size + 1) h_ (Chg.refl _ _)⟩
        unfold OpDoes
        go_simp
      · obtain rfl : b_ = false := hz1 (by kernel_rfl)
        have hI : Chg (fun _ => False) w0 w1 := hI0.mono (fun k h => Bool.noConfusion h.1)
        have e24 : ev (.tmp 24) = .pointer (some ⟨w.heap.size, 4, none⟩) := (hv 10 24 (by kernel_rfl) (by kernel_rfl) (Nat.le_of_ble_eq_true (by kernel_rfl))).trans (hR 10 (by kernel_rfl))
        have l_k := hI.cell K4.out (fun h => h)
        clear hR hv h0 hc
        refine Step.fixed (x := .slice (A 4) (n 4) (b 4)) ?_ ⟨rfl, hI.any, fun i_ x_ m_ _ _ h_ => RPO_ext A n b F w0.heap.size w.heap.size (w.heap.size + 1) h_ (Chg.refl _ _)⟩
        unfold OpDoes
        go_simp
      · obtain rfl : b_ = false := hz1 (by kernel_rfl)
        have hI : Chg (fun _ => False) w0 w1 := hI0.mono (fun k h => Bool.noConfusion h.1)
        have e25 : ev (.tmp 25) = .slice (A 4) (n 4) (b 4) := (hv 11 25 (by kernel_rfl) (by kernel_rfl) (Nat.le_of_ble_eq_true (by kernel_rfl))).trans (hR 11 (by kernel_rfl))
        have hf := hfn 30
        clear hR hv h0 hc
        unfold OpDoes
        go_simp
        refine (text_slot S4w.out (HCC.out.reads hI)).mono ?_
        rintro _ w2 ⟨rfl, hC⟩
        exact ⟨_, rfl, rfl, (hI.reads hC).any, fun i_ x_ m_ _ _ h_ => RPO_ext A n b F w0.heap.size w.heap.size (w.heap.size + 1) h_ hC⟩
      · obtain rfl : b_ = false := hz1 (by kernel_rfl)
        have hI : Chg (fun _ => False) w0 w1 := hI0.mono (fun k h => Bool.noConfusion h.1)
        have e1 : ev (.tmp 1) = .pointer (some ⟨w.heap.size, 0, none⟩) := h0 1 (by kernel_rfl)
        clear hR hv h0 hc
        refine Step.fixed (x := .pointer (some ⟨w.heap.size, 5, none⟩)) ?_ ⟨rfl, hI.any, fun i_ x_ m_ _ _ h_ => RPO_ext A n b F w0.heap.size w.heap.size (w.heap.size + 1) h_ (Chg.refl _ _)⟩
        unfold OpDoes
        go_simp
      · obtain rfl : b_ = false := hz1 (by kernel_rfl)
        have hI : Chg (fun _ => False) w0 w1 := hI0.mono (fun k h => Bool.noConfusion h.1)
        have e27 : ev (.tmp 27) = .pointer (some ⟨w.heap.size, 5, none⟩) := (hv 13 27 (by kernel_rfl) (by kernel_rfl) (Nat.le_of_ble_eq_true (by kernel_rfl))).trans (hR 13 (by kernel_rfl))
        have l_k := hI.cell K5.out (fun h => h)
        clear hR hv h0 hc
        refine Step.fixed (x := .slice (A 5) (n 5) (b 5)) ?_ ⟨rfl, hI.any, fun i_ x_ m_ _ _ h_ => RPO_ext A n b F w0.heap.size w.heap.size (w.heap.size + 1) h_ (Chg.refl _ _)⟩
        unfold OpDoes
        go_simp
      · obtain rfl : b_ = false := hz1 (by kernel_rfl)
        have hI : Chg (fun _ => False) w0 w1 := hI0.mono (fun k h => Bool.noConfusion h.1)
        have e28 : ev (.tmp 28) = .slice (A 5) (n 5) (b 5) := (hv 14 28 (by kernel_rfl) (by kernel_rfl) (Nat.le_of_ble_eq_true (by kernel_rfl))).trans (hR 14 (by kernel_rfl))
        have hf := hfn 29
        clear hR hv h0 hc
        unfold OpDoes
        go_simp
        refine (any_slot S5w.out (HCC.out.reads hI)).mono ?_
        rintro _ w2 ⟨rfl, hC⟩
        exact ⟨_, rfl, rfl, (hI.reads hC).any, fun i_ x_ m_ _ _ h_ => RPO_ext A n b F w0.heap.size w.heap.size (w.heap.size + 1) h_ hC⟩
      · obtain rfl : b_ = false := hz1 (by kernel_rfl)
        have hI : Chg (fun _ => False) w0 w1 := hI0.mono (fun k h => Bool.noConfusion h.1)
        have e1 : ev (.tmp 1) = .pointer (some ⟨w.heap.size, 0, none⟩) := h0 1 (by kernel_rfl)
        clear hR hv h0 hc
        refine Step.fixed (x := .pointer (some ⟨w.heap.size, 6, none⟩)) ?_ ⟨rfl, hI.any, fun i_ x_ m_ _ _ h_ => RPO_ext A n b F w0.heap.size w.heap.size (w.heap.size + 1) h_ (Chg.refl _ _)⟩
        unfold OpDoes
        go_simp
      · obtain rfl : b_ = false := hz1 (by kernel_rfl)
        have hI : Chg (fun _ => False) w0 w1 := hI0.mono (fun k h => Bool.noConfusion h.1)
        have e30 : ev (.tmp 30) = .pointer (some ⟨w.heap.size, 6, none⟩) := (hv 16 30 (by kernel_rfl) (by kernel_rfl) (Nat.le_of_ble_eq_true (by kernel_rfl))).trans (hR 16 (by kernel_rfl))
        have l_k := hI.cell K6.out (fun h => h)
        clear hR hv h0 hc
        refine Step.fixed (x := .slice (A 6) (n 6) (b 6)) ?_ ⟨rfl, hI.any, fun i_ x_ m_ _ _ h_ => RPO_ext A n b F w0.heap.size w.heap.size (w.heap.size + 1) h_ (Chg.refl _ _)⟩
        unfold OpDoes
        go_simp
      · obtain rfl : b_ = false := hz1 (by kernel_rfl)
        have hI : Chg (fun _ => False) w0 w1 := hI0.mono (fun k h => Bool.noConfusion h.1)
        have e31 : ev (.tmp 31) = .slice (A 6) (n 6) (b 6) := (hv 17 31 (by kernel_rfl) (by kernel_rfl) (Nat.le_of_ble_eq_true (by kernel_rfl))).trans (hR 17 (by kernel_rfl))
        have hf := hfn 30
        clear hR hv h0 hc
        unfold OpDoes
        go_simp
        refine (text_slot S6w.out (HCC.out.reads hI)).mono ?_
        rintro _ w2 ⟨rfl, hC⟩
        exact ⟨_, rfl, rfl, (hI.reads hC).any, fun i_ x_ m_ _ _ h_ => RPO_ext A n b F w0.heap.size w.heap.size (w.heap.size + 1) h_ hC⟩
      · obtain rfl : b_ = false := hz1 (by kernel_rfl)
        have hI : Chg (fun _ => False) w0 w1 := hI0.mono (fun k h => Bool.noConfusion h.1)
        have e1 : ev (.tmp 1) = .pointer (some ⟨w.heap.size, 0, none⟩) := h0 1 (by kernel_rfl)
        clear hR hv h0 hc
        refine Step.fixed (x := .pointer (some ⟨w.heap.size, 7, none⟩)) ?_ ⟨rfl, hI.any, fun i_ x_ m_ _ _ h_ => RPO_ext A n b F w0.heap.size w.heap.size (w.heap.size + 1) h_ (Chg.refl _ _)⟩
        unfold OpDoes
        go_simp
      · obtain rfl : b_ = false := hz1 (by kernel_rfl)
        have hI : Chg (fun _ => False) w0 w1 := hI0.mono (fun k h => Bool.noConfusion h.1)
        have e33 : ev (.tmp 33) = .pointer (some ⟨w.heap.size, 7, none⟩) := (hv 19 33 (by kernel_rfl) (by kernel_rfl) (Nat.le_of_ble_eq_true (by kernel_rfl))).trans (hR 19 (by kernel_rfl))
        have l_k := hI.cell K7.out (fun h => h)
        clear hR hv h0 hc
        refine Step.fixed (x := .slice (A 7) (n 7) (b 7)) ?_ ⟨rfl, hI.any, fun i_ x_ m_ _ _ h_ => RPO_ext A n b F w0.heap.size w.heap.size (w.heap.size + 1) h_ (Chg.refl _ _)⟩
        unfold OpDoes
        go_simp
      · obtain rfl : b_ = false := hz1 (by kernel_rfl)
        have hI : Chg (fun _ => False) w0 w1 := hI0.mono (fun k h => Bool.noConfusion h.1)
        have e34 : ev (.tmp 34) = .slice (A 7) (n 7) (b 7) := (hv 20 34 (by kernel_rfl) (by kernel_rfl) (Nat.le_of_ble_eq_true (by kernel_rfl))).trans (hR 20 (by kernel_rfl))
        have hf := hfn 30
        clear hR hv h0 hc
        unfold OpDoes
        go_simp
        refine (text_slot S7w.out (HCC.out.reads hI)).mono ?_
        rintro _ w2 ⟨rfl, hC⟩
        exact ⟨_, rfl, rfl, (hI.reads hC).any, fun i_ x_ m_ _ _ h_ => RPO_ext A n b F w0.heap.size w.heap.size (w.heap.size + 1) h_ hC⟩
      · obtain rfl : b_ = false := hz1 (by kernel_rfl)
        have hI : Chg (fun _ => False) w0 w1 := hI0.mono (fun k h => Bool.noConfusion h.1)
        have e1 : ev (.tmp 1) = .pointer (some ⟨w.heap.size, 0, none⟩) := h0 1 (by kernel_rfl)
        clear hR hv h0 hc
        refine Step.fixed (x := .pointer (some ⟨w.heap.size, 8, none⟩)) ?_ ⟨rfl, hI.any, fun i_ x_ m_ _ _ h_ => RPO_ext A n b F w0.heap.size w.heap.size (w.heap.size + 1) h_ (Chg.refl _ _)⟩
        unfold OpDoes
        go_simp
      · obtain rfl : b_ = false := hz1 (by kernel_rfl)
        have hI : Chg (fun _ => False) w0 w1 := hI0.mono (fun k h => Bool.noConfusion h.1)
        have e36 : ev (.tmp 36) = .pointer (some ⟨w.heap.size, 8, none⟩) := (hv 22 36 (by kernel_rfl) (by kernel_rfl) (Nat.le_of_ble_eq_true (by kernel_rfl))).trans (hR 22 (by kernel_rfl))
        have l_k := hI.cell K8.out (fun h => h)
        clear hR hv h0 hc
        refine Step.fixed (x := .slice (A 8) (n 8) (b 8)) ?_ ⟨rfl, hI.any, fun i_ x_ m_ _ _ h_ => RPO_ext A n b F w0.heap.size w.heap.size (w.heap.size + 1) h_ (Chg.refl _ _)⟩
        unfold OpDoes
        go_simp
      · obtain rfl : b_ = false := hz1 (by kernel_rfl)
        have hI : Chg (fun _ => False) w0 w1 := hI0.mono (fun k h => Bool.noConfusion h.1)
        have e37 : ev (.tmp 37) = .slice (A 8) (n 8) (b 8) := (hv 23 37 (by kernel_rfl) (by kernel_rfl) (Nat.le_of_ble_eq_true (by kernel_rfl))).trans (hR 23 (by kernel_rfl))
        have hf := hfn 31
        clear hR hv h0 hc
        unfold OpDoes
        go_simp
        refine (maybeI_slot S8w.out (HCC.out.reads hI)).mono ?_
        rintro _ w2 ⟨rfl, hC⟩
        exact ⟨_, rfl, rfl, (hI.reads hC).any, fun i_ x_ m_ _ _ h_ => RPO_ext A n b F w0.heap.size w.heap.size (w.heap.size + 1) h_ hC⟩
      · obtain rfl : b_ = false := hz1 (by kernel_rfl)
        have hI : Chg (fun _ => False) w0 w1 := hI0.mono (fun k h => Bool.noConfusion h.1)
        have e1 : ev (.tmp 1) = .pointer (some ⟨w.heap.size, 0, none⟩) := h0 1 (by kernel_rfl)
        clear hR hv h0 hc
        refine Step.fixed (x := .pointer (some ⟨w.heap.size, 9, none⟩)) ?_ ⟨rfl, hI.any, fun i_ x_ m_ _ _ h_ => RPO_ext A n b F w0.heap.size w.heap.size (w.heap.size + 1) h_ (Chg.refl _ _)⟩
        unfold OpDoes
        go_simp
      · obtain rfl : b_ = false := hz1 (by kernel_rfl)
        have hI : Chg (fun _ => False) w0 w1 := hI0.mono (fun k h => Bool.noConfusion h.1)
        have e39 : ev (.tmp 39) = .pointer (some ⟨w.heap.size, 9, none⟩) := (hv 25 39 (by kernel_rfl) (by kernel_rfl) (Nat.le_of_ble_eq_true (by kernel_rfl))).trans (hR 25 (by kernel_rfl))
        have l_k := hI.cell K9.out (fun h => h)
        clear hR hv h0 hc
        refine Step.fixed (x := .slice (A 9) (n 9) (b 9)) ?_ ⟨rfl, hI.any, fun i_ x_ m_ _ _ h_ => RPO_ext A n b F w0.heap.size w.heap.size (w.heap.size + 1) h_ (Chg.refl _ _)⟩
        unfold OpDoes
        go_simp
      · obtain rfl : b_ = false := hz1 (by kernel_rfl)
        have hI : Chg (fun _ => False) w0 w1 := hI0.mono (fun k h => Bool.noConfusion h.1)
        have e40 : ev (.tmp 40) = .slice (A 9) (n 9) (b 9) := (hv 26 40 (by kernel_rfl) (by kernel_rfl) (Nat.le_of_ble_eq_true (by kernel_rfl))).trans (hR 26 (by kernel_rfl))
        have hf := hfn 31
        clear hR hv h0 hc
        unfold OpDoes
        go_simp
        refine (maybeI_slot S9w.out (HCC.out.reads hI)).mono ?_
        rintro _ w2 ⟨rfl, hC⟩
        exact ⟨_, rfl, rfl, (hI.reads hC).any, fun i_ x_ m_ _ _ h_ => RPO_ext A n b F w0.heap.size w.heap.size (w.heap.size + 1) h_ hC⟩
      · obtain rfl : b_ = false := hz1 (by kernel_rfl)
        have hI : Chg (fun _ => False) w0 w1 := hI0.mono (fun k h => Bool.noConfusion h.1)
        have e1 : ev (.tmp 1) = .pointer (some ⟨w.heap.size, 0, none⟩) := h0 1 (by kernel_rfl)
        clear hR hv h0 hc
        refine Step.fixed (x := .pointer (some ⟨w.heap.size, 10, none⟩)) ?_ ⟨rfl, hI.any, fun i_ x_ m_ _ _ h_ => RPO_ext A n b F w0.heap.size w.heap.size (w.heap.size + 1) h_ (Chg.refl _ _)⟩
        unfold OpDoes
        go_simp
      · obtain rfl : b_ = false := hz1 (by kernel_rfl)
        have hI : Chg (fun _ => False) w0 w1 := hI0.mono (fun k h => Bool.noConfusion h.1)
        have e42 : ev (.tmp 42) = .pointer (some ⟨w.heap.size, 10, none⟩) := (hv 28 42 (by kernel_rfl) (by kernel_rfl) (Nat.le_of_ble_eq_true (by kernel_rfl))).trans (hR 28 (by kernel_rfl))
        have l_k := hI.cell K10.out (fun h => h)
        clear hR hv h0 hc
        refine Step.fixed (x := .slice (A 10) (n 10) (b 10)) ?_ ⟨rfl, hI.any, fun i_ x_ m_ _ _ h_ => RPO_ext A n b F w0.heap.size w.heap.size (w.heap.size + 1) h_ (Chg.refl _ _)⟩
        unfold OpDoes
        go_simp
      · obtain rfl : b_ = false := hz1 (by kernel_rfl)
        have hI : Chg (fun _ => False) w0 w1 := hI0.mono (fun k h => Bool.noConfusion h.1)
        have e43 : ev (.tmp 43) = .slice (A 10) (n 10) (b 10) := (hv 29 43 (by kernel_rfl) (by kernel_rfl) (Nat.le_of_ble_eq_true (by kernel_rfl))).trans (hR 29 (by kernel_rfl))
        have hf := hfn 30
        clear hR hv h0 hc
        unfold OpDoes
        go_simp
        refine (text_slot S10w.out (HCC.out.reads hI)).mono ?_
        rintro _ w2 ⟨rfl, hC⟩
        exact ⟨_, rfl, rfl, (hI.reads hC).any, fun i_ x_ m_ _ _ h_ => RPO_ext A n b F w0.heap.size w.heap.size (w.heap.size + 1) h_ hC⟩
      · obtain rfl : b_ = false := hz1 (by kernel_rfl)
        have hI : Chg (fun _ => False) w0 w1 := hI0.mono (fun k h => Bool.noConfusion h.1)
        have e1 : ev (.tmp 1) = .pointer (some ⟨w.heap.size, 0, none⟩) := h0 1 (by kernel_rfl)
        clear hR hv h0 hc
        refine Step.fixed (x := .pointer (some ⟨w.heap.size, 11, none⟩)) ?_ ⟨rfl, hI.any, fun i_ x_ m_ _ _ h_ => RPO_ext A n b F w0.heap.size w.heap.size (w.heap.size + 1) h_ (Chg.refl _ _)⟩
        unfold OpDoes
        go_simp
      · obtain rfl : b_ = false := hz1 (by kernel_rfl)
        have hI : Chg (fun _ => False) w0 w1 := hI0.mono (fun k h => Bool.noConfusion h.1)
        have e45 : ev (.tmp 45) = .pointer (some ⟨w.heap.size, 11, none⟩) := (hv 31 45 (by kernel_rfl) (by kernel_rfl) (Nat.le_of_ble_eq_true (by kernel_rfl))).trans (hR 31 (by kernel_rfl))
        have l_k := hI.cell K11.out (fun h => h)
        clear hR hv h0 hc
        refine Step.fixed (x := .slice (A 11) (n 11) (b 11)) ?_ ⟨rfl, hI.any, fun i_ x_ m_ _ _ h_ => RPO_ext A n b F w0.heap.size w.heap.size (w.heap.size + 1) h_ (Chg.refl _ _)⟩
        unfold OpDoes
        go_simp
      · obtain rfl : b_ = false := hz1 (by kernel_rfl)
        have hI : Chg (fun _ => False) w0 w1 := hI0.mono (fun k h => Bool.noConfusion h.1)
        have e46 : ev (.tmp 46) = .slice (A 11) (n 11) (b 11) := (hv 32 46 (by kernel_rfl) (by kernel_rfl) (Nat.le_of_ble_eq_true (by kernel_rfl))).trans (hR 32 (by kernel_rfl))
        have hf := hfn 32
        clear hR hv h0 hc
        unfold OpDoes
        go_simp
        refine (maybeU_slot S11w.out (HCC.out.reads hI)).mono ?_
        rintro _ w2 ⟨rfl, hC⟩
        exact ⟨_, rfl, rfl, (hI.reads hC).any, fun i_ x_ m_ _ _ h_ => RPO_ext A n b F w0.heap.size w.heap.size (w.heap.size + 1) h_ hC⟩
      · obtain rfl : b_ = false := hz1 (by kernel_rfl)
        have hI : Chg (fun _ => False) w0 w1 := hI0.mono (fun k h => Bool.noConfusion h.1)
        have e1 : ev (.tmp 1) = .pointer (some ⟨w.heap.size, 0, none⟩) := h0 1 (by kernel_rfl)
        clear hR hv h0 hc
        refine Step.fixed (x := .pointer (some ⟨w.heap.size, 12, none⟩)) ?_ ⟨rfl, hI.any, fun i_ x_ m_ _ _ h_ => RPO_ext A n b F w0.heap.size w.heap.size (w.heap.size + 1) h_ (Chg.refl _ _)⟩
        unfold OpDoes
        go_simp
      · obtain rfl : b_ = false := hz1 (by kernel_rfl)
        have hI : Chg (fun _ => False) w0 w1 := hI0.mono (fun k h => Bool.noConfusion h.1)
        have e48 : ev (.tmp 48) = .pointer (some ⟨w.heap.size, 12, none⟩) := (hv 34 48 (by kernel_rfl) (by kernel_rfl) (Nat.le_of_ble_eq_true (by kernel_rfl))).trans (hR 34 (by kernel_rfl))
        have l_k := hI.cell K12.out (fun h => h)
        clear hR hv h0 hc
        refine Step.fixed (x := .slice (A 12) (n 12) (b 12)) ?_ ⟨rfl, hI.any, fun i_ x_ m_ _ _ h_ => RPO_ext A n b F w0.heap.size w.heap.size (w.heap.size + 1) h_ (Chg.refl _ _)⟩
        unfold OpDoes
        go_simp
      · obtain rfl : b_ = false := hz1 (by kernel_rfl)
        have hI : Chg (fun _ => False) w0 w1 := hI0.mono (fun k h => Bool.noConfusion h.1)
        have e49 : ev (.tmp 49) = .slice (A 12) (n 12) (b 12) := (hv 35 49 (by kernel_rfl) (by kernel_rfl) (Nat.le_of_ble_eq_true (by kernel_rfl))).trans (hR 35 (by kernel_rfl))
        have hf := hfn 30
        clear hR hv h0 hc
        unfold OpDoes
        go_simp
        refine (text_slot S12w.out (HCC.out.reads hI)).mono ?_
        rintro _ w2 ⟨rfl, hC⟩
        exact ⟨_, rfl, rfl, (hI.reads hC).any, fun i_ x_ m_ _ _ h_ => RPO_ext A n b F w0.heap.size w.heap.size (w.heap.size + 1) h_ hC⟩
      · obtain rfl : b_ = false := hz1 (by kernel_rfl)
        have hI : Chg (fun _ => False) w0 w1 := hI0.mono (fun k h => Bool.noConfusion h.1)
        have e16 : ev (.tmp 16) = vals 2 := hv 2 16 (by kernel_rfl) (by kernel_rfl) (Nat.le_of_ble_eq_true (by kernel_rfl))
        have e17 : ev (.tmp 17) = .agg #[.int .i64 (F 1).kd, .int .u64 ((F 1).nm : Int), .string (F 1).tx, .slice (F 1).kA (F 1).kN (F 1).kC, .int .i64 (F 1).of_, .slice (F 1).dA 0 (F 1).dC, .int .i64 0, .int .u64 0, .string ⟨#[]⟩, .slice none 0 0, .int .i64 0, .slice none 0 0] := (hv 3 17 (by kernel_rfl) (by kernel_rfl) (Nat.le_of_ble_eq_true (by kernel_rfl))).trans (hR 3 (by kernel_rfl))
        have e20 : ev (.tmp 20) = vals 6 := hv 6 20 (by kernel_rfl) (by kernel_rfl) (Nat.le_of_ble_eq_true (by kernel_rfl))
        have e23 : ev (.tmp 23) = vals 9 := hv 9 23 (by kernel_rfl) (by kernel_rfl) (Nat.le_of_ble_eq_true (by kernel_rfl))
        have e26 : ev (.tmp 26) = vals 12 := hv 12 26 (by kernel_rfl) (by kernel_rfl) (Nat.le_of_ble_eq_true (by kernel_rfl))
        have e29 : ev (.tmp 29) = vals 15 := hv 15 29 (by kernel_rfl) (by kernel_rfl) (Nat.le_of_ble_eq_true (by kernel_rfl))
        have e32 : ev (.tmp 32) = vals 18 := hv 18 32 (by kernel_rfl) (by kernel_rfl) (Nat.le_of_ble_eq_true (by kernel_rfl))
        have e35 : ev (.tmp 35) = vals 21 := hv 21 35 (by kernel_rfl) (by kernel_rfl) (Nat.le_of_ble_eq_true (by kernel_rfl))
        have e38 : ev (.tmp 38) = vals 24 := hv 24 38 (by kernel_rfl) (by kernel_rfl) (Nat.le_of_ble_eq_true (by kernel_rfl))
        have e41 : ev (.tmp 41) = vals 27 := hv 27 41 (by kernel_rfl) (by kernel_rfl) (Nat.le_of_ble_eq_true (by kernel_rfl))
        have e44 : ev (.tmp 44) = vals 30 := hv 30 44 (by kernel_rfl) (by kernel_rfl) (Nat.le_of_ble_eq_true (by kernel_rfl))
        have e47 : ev (.tmp 47) = vals 33 := hv 33 47 (by kernel_rfl) (by kernel_rfl) (Nat.le_of_ble_eq_true (by kernel_rfl))
        have e50 : ev (.tmp 50) = vals 36 := hv 36 50 (by kernel_rfl) (by kernel_rfl) (Nat.le_of_ble_eq_true (by kernel_rfl))
        have e16x : ev (.tmp 16) = .agg #[.int .i64 (F 0).kd, .int .u64 ((F 0).nm : Int), .string (F 0).tx, .slice (F 0).kA (F 0).kN (F 0).kC, .int .i64 (F 0).of_, .slice (F 0).dA 0 (F 0).dC, .int .i64 0, .int .u64 0, .string ⟨#[]⟩, .slice none 0 0, .int .i64 0, .slice none 0 0] := e16.trans (hR 2 (by kernel_rfl))
        have e20x : ev (.tmp 20) = .agg #[.int .i64 (F 2).kd, .int .u64 ((F 2).nm : Int), .string (F 2).tx, .slice (F 2).kA (F 2).kN (F 2).kC, .int .i64 (F 2).of_, .slice (F 2).dA 0 (F 2).dC, .int .i64 0, .int .u64 0, .string ⟨#[]⟩, .slice none 0 0, .int .i64 0, .slice none 0 0] := e20.trans (hR 6 (by kernel_rfl))
        have e23x : ev (.tmp 23) = .agg #[.int .i64 (F 3).kd, .int .u64 ((F 3).nm : Int), .string (F 3).tx, .slice (F 3).kA (F 3).kN (F 3).kC, .int .i64 (F 3).of_, .slice (F 3).dA 0 (F 3).dC, .int .i64 0, .int .u64 0, .string ⟨#[]⟩, .slice none 0 0, .int .i64 0, .slice none 0 0] := e23.trans (hR 9 (by kernel_rfl))
        have e26x : ev (.tmp 26) = .agg #[.int .i64 (F 4).kd, .int .u64 ((F 4).nm : Int), .string (F 4).tx, .slice (F 4).kA (F 4).kN (F 4).kC, .int .i64 (F 4).of_, .slice (F 4).dA 0 (F 4).dC, .int .i64 0, .int .u64 0, .string ⟨#[]⟩, .slice none 0 0, .int .i64 0, .slice none 0 0] := e26.trans (hR 12 (by kernel_rfl))
        have e29x : ev (.tmp 29) = .agg #[.int .i64 (F 5).kd, .int .u64 ((F 5).nm : Int), .string (F 5).tx, .slice (F 5).kA (F 5).kN (F 5).kC, .int .i64 (F 5).of_, .slice (F 5).dA 0 (F 5).dC, .int .i64 0, .int .u64 0, .string ⟨#[]⟩, .slice none 0 0, .int .i64 0, .slice none 0 0] := e29.trans (hR 15 (by kernel_rfl))
        have e32x : ev (.tmp 32) = .agg #[.int .i64 (F 6).kd, .int .u64 ((F 6).nm : Int), .string (F 6).tx, .slice (F 6).kA (F 6).kN (F 6).kC, .int .i64 (F 6).of_, .slice (F 6).dA 0 (F 6).dC, .int .i64 0, .int .u64 0, .string ⟨#[]⟩, .slice none 0 0, .int .i64 0, .slice none 0 0] := e32.trans (hR 18 (by kernel_rfl))
        have e35x : ev (.tmp 35) = .agg #[.int .i64 (F 7).kd, .int .u64 ((F 7).nm : Int), .string (F 7).tx, .slice (F 7).kA (F 7).kN (F 7).kC, .int .i64 (F 7).of_, .slice (F 7).dA 0 (F 7).dC, .int .i64 0, .int .u64 0, .string ⟨#[]⟩, .slice none 0 0, .int .i64 0, .slice none 0 0] := e35.trans (hR 21 (by kernel_rfl))
        have e38x : ev (.tmp 38) = .agg #[.int .i64 (F 8).kd, .int .u64 ((F 8).nm : Int), .string (F 8).tx, .slice (F 8).kA (F 8).kN (F 8).kC, .int .i64 (F 8).of_, .slice (F 8).dA 0 (F 8).dC, .int .i64 0, .int .u64 0, .string ⟨#[]⟩, .slice none 0 0, .int .i64 0, .slice none 0 0] := e38.trans (hR 24 (by kernel_rfl))
        have e41x : ev (.tmp 41) = .agg #[.int .i64 (F 9).kd, .int .u64 ((F 9).nm : Int), .string (F 9).tx, .slice (F 9).kA (F 9).kN (F 9).kC, .int .i64 (F 9).of_, .slice (F 9).dA 0 (F 9).dC, .int .i64 0, .int .u64 0, .string ⟨#[]⟩, .slice none 0 0, .int .i64 0, .slice none 0 0] := e41.trans (hR 27 (by kernel_rfl))
        have e44x : ev (.tmp 44) = .agg #[.int .i64 (F 10).kd, .int .u64 ((F 10).nm : Int), .string (F 10).tx, .slice (F 10).kA (F 10).kN (F 10).kC, .int .i64 (F 10).of_, .slice (F 10).dA 0 (F 10).dC, .int .i64 0, .int .u64 0, .string ⟨#[]⟩, .slice none 0 0, .int .i64 0, .slice none 0 0] := e44.trans (hR 30 (by kernel_rfl))
        have e47x : ev (.tmp 47) = .agg #[.int .i64 (F 11).kd, .int .u64 ((F 11).nm : Int), .string (F 11).tx, .slice (F 11).kA (F 11).kN (F 11).kC, .int .i64 (F 11).of_, .slice (F 11).dA 0 (F 11).dC, .int .i64 0, .int .u64 0, .string ⟨#[]⟩, .slice none 0 0, .int .i64 0, .slice none 0 0] := e47.trans (hR 33 (by kernel_rfl))
        have e50x : ev (.tmp 50) = .agg #[.int .i64 (F 12).kd, .int .u64 ((F 12).nm : Int), .string (F 12).tx, .slice (F 12).kA (F 12).kN (F 12).kC, .int .i64 (F 12).of_, .slice (F 12).dA 0 (F 12).dC, .int .i64 0, .int .u64 0, .string ⟨#[]⟩, .slice none 0 0, .int .i64 0, .slice none 0 0] := e50.trans (hR 36 (by kernel_rfl))
        clear e16 e20 e23 e26 e29 e32 e35 e38 e41 e44 e47 e50
        clear hR hv h0 hc
        refine OpDoes.mono (p := fun v w2 => v = .slice (some ⟨w1.heap.size, 0, none⟩) 13 13 ∧ w2 = w1.alloc (.cells #[.int .i64 (F 0).kd, .int .u64 ((F 0).nm : Int), .string (F 0).tx, .slice (F 0).kA (F 0).kN (F 0).kC, .int .i64 (F 0).of_, .slice (F 0).dA 0 (F 0).dC, .int .i64 0, .int .u64 0, .string ⟨#[]⟩, .slice none 0 0, .int .i64 0, .slice none 0 0, .int .i64 (F 1).kd, .int .u64 ((F 1).nm : Int), .string (F 1).tx, .slice (F 1).kA (F 1).kN (F 1).kC, .int .i64 (F 1).of_, .slice (F 1).dA 0 (F 1).dC, .int .i64 0, .int .u64 0, .string ⟨#[]⟩, .slice none 0 0, .int .i64 0, .slice none 0 0, .int .i64 (F 2).kd, .int .u64 ((F 2).nm : Int), .string (F 2).tx, .slice (F 2).kA (F 2).kN (F 2).kC, .int .i64 (F 2).of_, .slice (F 2).dA 0 (F 2).dC, .int .i64 0, .int .u64 0, .string ⟨#[]⟩, .slice none 0 0, .int .i64 0, .slice none 0 0, .int .i64 (F 3).kd, .int .u64 ((F 3).nm : Int), .string (F 3).tx, .slice (F 3).kA (F 3).kN (F 3).kC, .int .i64 (F 3).of_, .slice (F 3).dA 0 (F 3).dC, .int .i64 0, .int .u64 0, .string ⟨#[]⟩, .slice none 0 0, .int .i64 0, .slice none 0 0, .int .i64 (F 4).kd, .int .u64 ((F 4).nm : Int), .string (F 4).tx, .slice (F 4).kA (F 4).kN (F 4).kC, .int .i64 (F 4).of_, .slice (F 4).dA 0 (F 4).dC, .int .i64 0, .int .u64 0, .string ⟨#[]⟩, .slice none 0 0, .int .i64 0, .slice none 0 0, .int .i64 (F 5).kd, .int .u64 ((F 5).nm : Int), .string (F 5).tx, .slice (F 5).kA (F 5).kN (F 5).kC, .int .i64 (F 5).of_, .slice (F 5).dA 0 (F 5).dC, .int .i64 0, .int .u64 0, .string ⟨#[]⟩, .slice none 0 0, .int .i64 0, .slice none 0 0, .int .i64 (F 6).kd, .int .u64 ((F 6).nm : Int), .string (F 6).tx, .slice (F 6).kA (F 6).kN (F 6).kC, .int .i64 (F 6).of_, .slice (F 6).dA 0 (F 6).dC, .int .i64 0, .int .u64 0, .string ⟨#[]⟩, .slice none 0 0, .int .i64 0, .slice none 0 0, .int .i64 (F 7).kd, .int .u64 ((F 7).nm : Int), .string (F 7).tx, .slice (F 7).kA (F 7).kN (F 7).kC, .int .i64 (F 7).of_, .slice (F 7).dA 0 (F 7).dC, .int .i64 0, .int .u64 0, .string ⟨#[]⟩, .slice none 0 0, .int .i64 0, .slice none 0 0, .int .i64 (F 8).kd, .int .u64 ((F 8).nm : Int), .string (F 8).tx, .slice (F 8).kA (F 8).kN (F 8).kC, .int .i64 (F 8).of_, .slice (F 8).dA 0 (F 8).dC, .int .i64 0, .int .u64 0, .string ⟨#[]⟩, .slice none 0 0, .int .i64 0, .slice none 0 0, .int .i64 (F 9).kd, .int .u64 ((F 9).nm : Int), .string (F 9).tx, .slice (F 9).kA (F 9).kN (F 9).kC, .int .i64 (F 9).of_, .slice (F 9).dA 0 (F 9).dC, .int .i64 0, .int .u64 0, .string ⟨#[]⟩, .slice none 0 0, .int .i64 0, .slice none 0 0, .int .i64 (F 10).kd, .int .u64 ((F 10).nm : Int), .string (F 10).tx, .slice (F 10).kA (F 10).kN (F 10).kC, .int .i64 (F 10).of_, .slice (F 10).dA 0 (F 10).dC, .int .i64 0, .int .u64 0, .string ⟨#[]⟩, .slice none 0 0, .int .i64 0, .slice none 0 0, .int .i64 (F 11).kd, .int .u64 ((F 11).nm : Int), .string (F 11).tx, .slice (F 11).kA (F 11).kN (F 11).kC, .int .i64 (F 11).of_, .slice (F 11).dA 0 (F 11).dC, .int .i64 0, .int .u64 0, .string ⟨#[]⟩, .slice none 0 0, .int .i64 0, .slice none 0 0, .int .i64 (F 12).kd, .int .u64 ((F 12).nm : Int), .string (F 12).tx, .slice (F 12).kA (F 12).kN (F 12).kC, .int .i64 (F 12).of_, .slice (F 12).dA 0 (F 12).dC, .int .i64 0, .int .u64 0, .string ⟨#[]⟩, .slice none 0 0, .int .i64 0, .slice none 0 0] 83)) ?_ ?_
        · clear hI
          unfold OpDoes
          go_simp
        · rintro v w2 ⟨rfl, rfl⟩
          exact ⟨⟨_, rfl, hI.size, heap_alloc_new _ _⟩, (hI.alloc _).any, fun i_ x_ m_ _ _ h_ => RPO_ext A n b F w0.heap.size w.heap.size (w.heap.size + 1) h_ ((Chg.refl _ _).alloc _)⟩
      · obtain rfl : b_ = false := hz1 (by kernel_rfl)
        have hI : Chg (fun _ => False) w0 w1 := hI0.mono (fun k h => Bool.noConfusion h.1)
        have e51 : ev (.tmp 51) = vals 37 := hv 37 51 (by kernel_rfl) (by kernel_rfl) (Nat.le_of_ble_eq_true (by kernel_rfl))
        obtain ⟨g, b1_, b2_, b3_⟩ := (hR 37 (by kernel_rfl) : ∃ g, vals 37 = .slice (some ⟨g, 0, none⟩) 13 13 ∧ w0.heap.size ≤ g ∧ FieldsBlk F w1 g)
        rw [b1_] at e51
        have B3 := Lib.hid b3_; clear b1_ b3_
        clear hR hv h0 hc
        refine Step.fixed (x := .agg #[.int .u64 115, .slice (some ⟨g, 0, none⟩) 13 13]) ?_ ⟨⟨g, rfl, b2_, B3.out⟩, hI.any, fun i_ x_ m_ _ _ h_ => RPO_ext A n b F w0.heap.size w.heap.size (w.heap.size + 1) h_ (Chg.refl _ _)⟩
        unfold OpDoes
        go_simp
      · obtain rfl : b_ = false := hz2 rfl
        have hI : Chg (fun _ => False) w0 w1 := hI0.mono (fun k h => Bool.noConfusion h.1)
        have e2 : ev (.tmp 2) = .pointer (some ⟨(w.heap.size + 1), 0, none⟩) := h0 2 (by kernel_rfl)
        have e52 : ev (.tmp 52) = vals 38 := hv 38 52 (by kernel_rfl) (by kernel_rfl) (Nat.le_of_ble_eq_true (by kernel_rfl))
        obtain ⟨g, b1_, b2_, b3_⟩ := (hR 38 (by kernel_rfl) : ∃ g, vals 38 = .agg #[.int .u64 115, .slice (some ⟨g, 0, none⟩) 13 13] ∧ w0.heap.size ≤ g ∧ FieldsBlk F w1 g)
        rw [b1_] at e52
        have B3 := Lib.hid b3_; clear b1_ b3_
        have hrs := Chg.blkF hI HRS.out
        have r0 := blk_cell (k := 0) hrs rfl; have r1 := blk_cell (k := 1) hrs rfl; have f0 := blk_free (k := 0) hrs; have f1 := blk_free (k := 1) hrs
        have HR0 := Lib.hid hrs; clear hrs
        clear hR hv h0 hc
        refine OpDoes.mono (p := fun v w2 => v = undef ∧ w2 = ((w1.setCell ⟨(w.heap.size + 1), 0, none⟩ (.int .u64 115)).setCell ⟨(w.heap.size + 1), 1, none⟩ (.slice (some ⟨g, 0, none⟩) 13 13))) ?_ ?_
        · unfold OpDoes
          go_simp
        · rintro v w2 ⟨rfl, rfl⟩
          have hb2 := setCell_blk (k := 1) (setCell_blk (k := 0) HR0.out (.int .u64 115)) (.slice (some ⟨g, 0, none⟩) 13 13)
          have hS : Chg (· = (w.heap.size + 1)) w1 ((w1.setCell ⟨(w.heap.size + 1), 0, none⟩ (.int .u64 115)).setCell ⟨(w.heap.size + 1), 1, none⟩ (.slice (some ⟨g, 0, none⟩) 13 13)) := Chg.setCell (X := (· = (w.heap.size + 1))) (p := ⟨(w.heap.size + 1), 1, none⟩) (Chg.setCell (X := (· = (w.heap.size + 1))) (p := ⟨(w.heap.size + 1), 0, none⟩) (Chg.refl _ w1) (fun _ => rfl) _) (fun _ => rfl) _
          exact ⟨⟨g, b2_, hS.blk B3.out (fun e => absurd (show g = (w.heap.size + 1) from e) (by have := HRL.out; omega)), hb2⟩, ((hI.any (X := fun k => k = (w.heap.size + 1))).reads hS).mono (fun k h => ⟨rfl, h⟩), fun i_ x_ m_ hne hk h_ => absurd (by simpa using keep_fin hk (by kernel_rfl)) hne⟩
    case fin =>
      intro vals c w2 hIb hfin
      obtain ⟨bb, hI⟩ := hIb
      obtain ⟨g, g1, g2, g3⟩ := (hfin 39 (by kernel_rfl) (by decide) : ∃ g, w0.heap.size ≤ g ∧ FieldsBlk F w2 g ∧ w2.heap[w.heap.size + 1]? = some (.cells #[.int .u64 115, .slice (some ⟨g, 0, none⟩) 13 13] 35 (0, 0)))
      have HI : Hid (Chg (fun _ => False) w w2) := Lib.hid (HCC.out.trans hI (fun i hi h => absurd hi (by have h' : i = w.heap.size + 1 := h.2; omega)))
      have HG : Hid (w.heap.size ≤ g) := Lib.hid (Nat.le_trans HCC.out.size g1)
      have HF2 := Lib.hid g2.at
      have r0 := blk_cell (k := 0) g3 rfl
      have r1 := blk_cell (k := 1) g3 rfl
      clear hfin hI g1 g2 g3
      simp only [putAll, Act.put, List.setIfInBounds_toArray, List.set_cons_zero, List.set_cons_succ, Nat.reduceAdd]
      go_wp2_with fail
      exact bodyPost_ret (v := .agg #[.int .u64 115, .slice (some ⟨g, 0, none⟩) 13 13]) (by simp [results, Tryz.results8, go_sem, r0, r1]) rfl ⟨g, rfl, HG.out, HF2.out, HI.out⟩
end Go.Proofs.S
