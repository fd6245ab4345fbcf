/- Whether a content fits its kind: for plain kinds. -/
import Derived.Test.YtoilepadamfacaaGreatDoorD25
set_option linter.unusedVariables false
set_option linter.unusedSimpArgs false
namespace Go.Proofs.S
open Go.RowKit Go.Maps
/-- A bool is handed back; nothing that was there has turned. -/
def AnyB (w : World) (e : Ending) (w' : World) : Prop := ∃ b, e = .returned (.bool b) ∧ Chg (fun _ => False) w w'
/-- What valueFits takes of a flat kind. -/
def FitOk (kd : Int) (u : Nat) (tx : ByteArray) (kN : Nat) : Prop := kN = 0 ∧ tx.size ≤ 131072 ∧ (kd = 17 → tx.size = 16) ∧ (17 ≤ kd ∨ kd = 0 → u = 0) ∧ (kd < 17 → tx = ⟨#[]⟩)
def FitB (kd : Int) (u : Nat) (tx : ByteArray) (kN : Nat) (w : World) (e : Ending) (w' : World) : Prop := ∃ b, e = .returned (.bool b) ∧ Chg (fun _ => False) w w' ∧ (b = true → FitOk kd u tx kN)
def UuB (tx : ByteArray) (w : World) (e : Ending) (w' : World) : Prop := ∃ b, e = .returned (.bool b) ∧ Chg (fun _ => False) w w' ∧ (b = true → tx.size = 16)
set_option maxHeartbeats 4000000 in
set_option maxRecDepth 1000000 in
theorem cf_0 (u : Nat) (tx : ByteArray) (kA dA : Option Addr) (kN kC dC : Nat) (o : Int) (w : World) : Calls Tryz.prog 126 #[.agg #[.int .i64 0, .int .u64 (u : Int), .string tx, .slice kA kN kC, .int .i64 o, .slice dA 0 dC]] w (AnyB w) := by
  have hc0 : Chg (fun _ => False) w (w.alloc (.cells #[.int .i64 0, .int .u64 (u : Int), .string tx, .slice kA kN kC, .int .i64 o, .slice dA 0 dC] 81)) := (Chg.refl _ w).alloc _
  have HC0 := Lib.hid hc0
  have hb0 := heap_alloc_new w (.cells #[.int .i64 0, .int .u64 (u : Int), .string tx, .slice kA kN kC, .int .i64 o, .slice dA 0 dC] 81)
  have HB0 := Lib.hid hb0
  clear hc0 hb0
  go_enter Tryz.func126, Tryz.ntmps126
  go_wp2_with fail
  refine (fixed_any 0 (by decide) _).mono ?_
  rintro _ w1 ⟨rfl, hC⟩
  rw [show IntKind.i64.wrap (tbl fixedKv 0 - if (0 : Int) = 0 ∨ (0 : Int) = 1 ∨ 18 ≤ (0 : Int) then 1 else 0) = -1 by decide]
  have hb1 := hC.blkF HB0.out
  have c0 := blk_cell (k := 0) hb1 rfl
  have c1 := blk_cell (k := 1) hb1 rfl
  have c2 := blk_cell (k := 2) hb1 rfl
  have c4 := blk_cell (k := 4) hb1 rfl
  have HC1 := Lib.hid (HC0.out.reads hC)
  clear hC hb1 HB0 HC0
  go_wp2_with fail
  go_ret
  exact ⟨_, rfl, HC1.out⟩
set_option maxHeartbeats 4000000 in
set_option maxRecDepth 1000000 in
theorem cf_18 (u : Nat) (tx : ByteArray) (kA dA : Option Addr) (kN kC dC : Nat) (o : Int) (w : World) : Calls Tryz.prog 126 #[.agg #[.int .i64 18, .int .u64 (u : Int), .string tx, .slice kA kN kC, .int .i64 o, .slice dA 0 dC]] w (AnyB w) := by
  have hc0 : Chg (fun _ => False) w (w.alloc (.cells #[.int .i64 18, .int .u64 (u : Int), .string tx, .slice kA kN kC, .int .i64 o, .slice dA 0 dC] 81)) := (Chg.refl _ w).alloc _
  have HC0 := Lib.hid hc0
  have hb0 := heap_alloc_new w (.cells #[.int .i64 18, .int .u64 (u : Int), .string tx, .slice kA kN kC, .int .i64 o, .slice dA 0 dC] 81)
  have HB0 := Lib.hid hb0
  clear hc0 hb0
  go_enter Tryz.func126, Tryz.ntmps126
  go_wp2_with fail
  refine (fixed_any 18 (by decide) _).mono ?_
  rintro _ w1 ⟨rfl, hC⟩
  rw [show IntKind.i64.wrap (tbl fixedKv 18 - if (18 : Int) = 0 ∨ (18 : Int) = 1 ∨ 18 ≤ (18 : Int) then 1 else 0) = -1 by decide]
  have hb1 := hC.blkF HB0.out
  have c0 := blk_cell (k := 0) hb1 rfl
  have c1 := blk_cell (k := 1) hb1 rfl
  have c2 := blk_cell (k := 2) hb1 rfl
  have c4 := blk_cell (k := 4) hb1 rfl
  have HC1 := Lib.hid (HC0.out.reads hC)
  clear hC hb1 HB0 HC0
  go_wp2_with fail
  go_ret
  exact ⟨_, rfl, HC1.out⟩
set_option maxHeartbeats 4000000 in
set_option maxRecDepth 1000000 in
theorem cf_17 (u : Nat) (tx : ByteArray) (kA dA : Option Addr) (kN kC dC : Nat) (o : Int) (w : World) : Calls Tryz.prog 126 #[.agg #[.int .i64 17, .int .u64 (u : Int), .string tx, .slice kA kN kC, .int .i64 o, .slice dA 0 dC]] w (UuB tx w) := by
  have hc0 : Chg (fun _ => False) w (w.alloc (.cells #[.int .i64 17, .int .u64 (u : Int), .string tx, .slice kA kN kC, .int .i64 o, .slice dA 0 dC] 81)) := (Chg.refl _ w).alloc _
  have HC0 := Lib.hid hc0
  have hb0 := heap_alloc_new w (.cells #[.int .i64 17, .int .u64 (u : Int), .string tx, .slice kA kN kC, .int .i64 o, .slice dA 0 dC] 81)
  have HB0 := Lib.hid hb0
  clear hc0 hb0
  go_enter Tryz.func126, Tryz.ntmps126
  go_wp2_with fail
  refine (fixed_any 17 (by decide) _).mono ?_
  rintro _ w1 ⟨rfl, hC⟩
  rw [show IntKind.i64.wrap (tbl fixedKv 17 - if (17 : Int) = 0 ∨ (17 : Int) = 1 ∨ 18 ≤ (17 : Int) then 1 else 0) = 16 by decide]
  have hb1 := hC.blkF HB0.out
  have c0 := blk_cell (k := 0) hb1 rfl
  have c1 := blk_cell (k := 1) hb1 rfl
  have c2 := blk_cell (k := 2) hb1 rfl
  have c4 := blk_cell (k := 4) hb1 rfl
  have HC1 := Lib.hid (HC0.out.reads hC)
  clear hC hb1 HB0 HC0
  go_wp2_with fail
  go_ret
  exact ⟨_, rfl, HC1.out, fun h => by simp at h; omega⟩
set_option maxHeartbeats 4000000 in
set_option maxRecDepth 1000000 in
theorem cf_4 (u : Nat) (tx : ByteArray) (kA dA : Option Addr) (kN kC dC : Nat) (o : Int) (w : World) (hu : u < U64) : Calls Tryz.prog 126 #[.agg #[.int .i64 4, .int .u64 (u : Int), .string tx, .slice kA kN kC, .int .i64 o, .slice dA 0 dC]] w (AnyB w) := by
  have hc0 : Chg (fun _ => False) w (w.alloc (.cells #[.int .i64 4, .int .u64 (u : Int), .string tx, .slice kA kN kC, .int .i64 o, .slice dA 0 dC] 81)) := (Chg.refl _ w).alloc _
  have HC0 := Lib.hid hc0
  have hb0 := heap_alloc_new w (.cells #[.int .i64 4, .int .u64 (u : Int), .string tx, .slice kA kN kC, .int .i64 o, .slice dA 0 dC] 81)
  have HB0 := Lib.hid hb0
  clear hc0 hb0
  go_enter Tryz.func126, Tryz.ntmps126
  go_wp2_with fail
  refine (fixed_any 4 (by decide) _).mono ?_
  rintro _ w1 ⟨rfl, hC⟩
  rw [show IntKind.i64.wrap (tbl fixedKv 4 - if (4 : Int) = 0 ∨ (4 : Int) = 1 ∨ 18 ≤ (4 : Int) then 1 else 0) = 4 by decide]
  have hb1 := hC.blkF HB0.out
  have c0 := blk_cell (k := 0) hb1 rfl
  have c1 := blk_cell (k := 1) hb1 rfl
  have c2 := blk_cell (k := 2) hb1 rfl
  have c4 := blk_cell (k := 4) hb1 rfl
  have HC1 := Lib.hid (HC0.out.reads hC)
  clear hC hb1 HB0 HC0
  go_wp2_with fail
  go_quiet (fail)
  all_goals (go_wp2_with fail)
  all_goals go_ret
  all_goals exact ⟨_, rfl, HC1.out.drewN _⟩
set_option maxHeartbeats 4000000 in
set_option maxRecDepth 1000000 in
theorem cf_5 (u : Nat) (tx : ByteArray) (kA dA : Option Addr) (kN kC dC : Nat) (o : Int) (w : World) (hu : u < U64) : Calls Tryz.prog 126 #[.agg #[.int .i64 5, .int .u64 (u : Int), .string tx, .slice kA kN kC, .int .i64 o, .slice dA 0 dC]] w (AnyB w) := by
  have hc0 : Chg (fun _ => False) w (w.alloc (.cells #[.int .i64 5, .int .u64 (u : Int), .string tx, .slice kA kN kC, .int .i64 o, .slice dA 0 dC] 81)) := (Chg.refl _ w).alloc _
  have HC0 := Lib.hid hc0
  have hb0 := heap_alloc_new w (.cells #[.int .i64 5, .int .u64 (u : Int), .string tx, .slice kA kN kC, .int .i64 o, .slice dA 0 dC] 81)
  have HB0 := Lib.hid hb0
  clear hc0 hb0
  go_enter Tryz.func126, Tryz.ntmps126
  go_wp2_with fail
  refine (fixed_any 5 (by decide) _).mono ?_
  rintro _ w1 ⟨rfl, hC⟩
  rw [show IntKind.i64.wrap (tbl fixedKv 5 - if (5 : Int) = 0 ∨ (5 : Int) = 1 ∨ 18 ≤ (5 : Int) then 1 else 0) = 8 by decide]
  have hb1 := hC.blkF HB0.out
  have c0 := blk_cell (k := 0) hb1 rfl
  have c1 := blk_cell (k := 1) hb1 rfl
  have c2 := blk_cell (k := 2) hb1 rfl
  have c4 := blk_cell (k := 4) hb1 rfl
  have HC1 := Lib.hid (HC0.out.reads hC)
  clear hC hb1 HB0 HC0
  go_wp2_with fail
  go_quiet (fail)
  all_goals (go_wp2_with fail)
  all_goals go_ret
  all_goals exact ⟨_, rfl, HC1.out.drewN _⟩
set_option maxHeartbeats 4000000 in
set_option maxRecDepth 1000000 in
theorem cf_16 (u : Nat) (tx : ByteArray) (kA dA : Option Addr) (kN kC dC : Nat) (o : Int) (w : World) (hu : u < U64) : Calls Tryz.prog 126 #[.agg #[.int .i64 16, .int .u64 (u : Int), .string tx, .slice kA kN kC, .int .i64 o, .slice dA 0 dC]] w (AnyB w) := by
  have hc0 : Chg (fun _ => False) w (w.alloc (.cells #[.int .i64 16, .int .u64 (u : Int), .string tx, .slice kA kN kC, .int .i64 o, .slice dA 0 dC] 81)) := (Chg.refl _ w).alloc _
  have HC0 := Lib.hid hc0
  have hb0 := heap_alloc_new w (.cells #[.int .i64 16, .int .u64 (u : Int), .string tx, .slice kA kN kC, .int .i64 o, .slice dA 0 dC] 81)
  have HB0 := Lib.hid hb0
  clear hc0 hb0
  go_enter Tryz.func126, Tryz.ntmps126
  go_wp2_with fail
  refine (fixed_any 16 (by decide) _).mono ?_
  rintro _ w1 ⟨rfl, hC⟩
  rw [show IntKind.i64.wrap (tbl fixedKv 16 - if (16 : Int) = 0 ∨ (16 : Int) = 1 ∨ 18 ≤ (16 : Int) then 1 else 0) = 8 by decide]
  have hb1 := hC.blkF HB0.out
  have c0 := blk_cell (k := 0) hb1 rfl
  have c1 := blk_cell (k := 1) hb1 rfl
  have c2 := blk_cell (k := 2) hb1 rfl
  have c4 := blk_cell (k := 4) hb1 rfl
  have HC1 := Lib.hid (HC0.out.reads hC)
  clear hC hb1 HB0 HC0
  go_wp2_with fail
  go_quiet (fail)
  all_goals (go_wp2_with fail)
  all_goals go_ret
  all_goals exact ⟨_, rfl, HC1.out.drewN _⟩
set_option maxHeartbeats 4000000 in
set_option maxRecDepth 1000000 in
theorem ascii_calls (s : ByteArray) (hs : s.size ≤ 9223372036854775807) (w : World) : Calls Tryz.prog 181 #[.string s] w (SomeB w) := by
  go_enter Tryz.func181, Tryz.ntmps181
  go_wp2_with fail
  go_loop [3] (fun i => ∃ k : Nat, k ≤ s.size ∧ i = .int .i64 (k : Int)) (fun i => s.size - (intOf i).toNat)
  case atStart => exact ⟨0, Nat.zero_le _, rfl⟩
  case round =>
    obtain ⟨k, hk, rfl⟩ := hrel
    rcases Nat.lt_or_ge k s.size with hlt | hge
    · have d1 : decide ((k : Int) < (s.size : Int)) = true := by simp; omega
      have k0 : (0 : Int) ≤ (k : Int) := by omega
      have kl : (k : Int) < (s.size : Int) := by omega
      go_wp2_with fail
      · go_ret
        exact ⟨_, rfl, rfl⟩
      · go_round
        case rel => exact ⟨k + 1, hlt, by go_num⟩
        case measure => simp [intOf]; omega
    · obtain rfl : k = s.size := by omega
      have d1 : decide ((s.size : Int) < (s.size : Int)) = false := by simp
      go_wp2_with fail
      go_ret
      exact ⟨_, rfl, rfl⟩
set_option maxHeartbeats 4000000 in
set_option maxRecDepth 1000000 in
theorem cf_20 (u : Nat) (tx : ByteArray) (kA dA : Option Addr) (kN kC dC : Nat) (o : Int) (w : World) (hs : tx.size ≤ 9223372036854775807) : Calls Tryz.prog 126 #[.agg #[.int .i64 20, .int .u64 (u : Int), .string tx, .slice kA kN kC, .int .i64 o, .slice dA 0 dC]] w (AnyB w) := by
  have hc0 : Chg (fun _ => False) w (w.alloc (.cells #[.int .i64 20, .int .u64 (u : Int), .string tx, .slice kA kN kC, .int .i64 o, .slice dA 0 dC] 81)) := (Chg.refl _ w).alloc _
  have HC0 := Lib.hid hc0
  have hb0 := heap_alloc_new w (.cells #[.int .i64 20, .int .u64 (u : Int), .string tx, .slice kA kN kC, .int .i64 o, .slice dA 0 dC] 81)
  have HB0 := Lib.hid hb0
  clear hc0 hb0
  go_enter Tryz.func126, Tryz.ntmps126
  go_wp2_with fail
  refine (fixed_any 20 (by decide) _).mono ?_
  rintro _ w1 ⟨rfl, hC⟩
  rw [show IntKind.i64.wrap (tbl fixedKv 20 - if (20 : Int) = 0 ∨ (20 : Int) = 1 ∨ 18 ≤ (20 : Int) then 1 else 0) = -1 by decide]
  have hb1 := hC.blkF HB0.out
  have c0 := blk_cell (k := 0) hb1 rfl
  have c1 := blk_cell (k := 1) hb1 rfl
  have c2 := blk_cell (k := 2) hb1 rfl
  have c4 := blk_cell (k := 4) hb1 rfl
  have HC1 := Lib.hid (HC0.out.reads hC)
  clear hC hb1 HB0 HC0
  go_wp2_with fail
  refine (ascii_calls tx hs _).mono ?_
  rintro _ _ ⟨b, rfl, rfl⟩
  go_wp2_with fail
  go_ret
  exact ⟨_, rfl, HC1.out⟩
/-- utf8.ValidString hands a bool back. -/
def ValidOk (w : World) : Prop := ∀ (s : ByteArray) (w' : World), s.size ≤ 9223372036854775807 → Chg (fun _ => False) w w' → Calls Tryz.prog 180 #[.string s] w' (AnyB w')
theorem ValidOk.ext {w w' : World} (h : ValidOk w) (hc : Chg (fun _ => False) w w') : ValidOk w' := fun s w2 hs h2 => h s w2 hs (hc.reads h2)
set_option maxHeartbeats 4000000 in
set_option maxRecDepth 1000000 in
theorem cf_19 (u : Nat) (tx : ByteArray) (kA dA : Option Addr) (kN kC dC : Nat) (o : Int) (w : World) (hs : tx.size ≤ 9223372036854775807) (hV : ValidOk w) : Calls Tryz.prog 126 #[.agg #[.int .i64 19, .int .u64 (u : Int), .string tx, .slice kA kN kC, .int .i64 o, .slice dA 0 dC]] w (AnyB w) := by
  have HV := Lib.hid hV
  clear hV
  have hc0 : Chg (fun _ => False) w (w.alloc (.cells #[.int .i64 19, .int .u64 (u : Int), .string tx, .slice kA kN kC, .int .i64 o, .slice dA 0 dC] 81)) := (Chg.refl _ w).alloc _
  have HC0 := Lib.hid hc0
  have hb0 := heap_alloc_new w (.cells #[.int .i64 19, .int .u64 (u : Int), .string tx, .slice kA kN kC, .int .i64 o, .slice dA 0 dC] 81)
  have HB0 := Lib.hid hb0
  clear hc0 hb0
  go_enter Tryz.func126, Tryz.ntmps126
  go_wp2_with fail
  refine (fixed_any 19 (by decide) _).mono ?_
  rintro _ w1 ⟨rfl, hC⟩
  rw [show IntKind.i64.wrap (tbl fixedKv 19 - if (19 : Int) = 0 ∨ (19 : Int) = 1 ∨ 18 ≤ (19 : Int) then 1 else 0) = -1 by decide]
  have hb1 := hC.blkF HB0.out
  have c0 := blk_cell (k := 0) hb1 rfl
  have c1 := blk_cell (k := 1) hb1 rfl
  have c2 := blk_cell (k := 2) hb1 rfl
  have c4 := blk_cell (k := 4) hb1 rfl
  have HC1 := Lib.hid (HC0.out.reads hC)
  clear hC hb1 HB0 HC0
  go_wp2_with fail
  refine (HV.out tx _ hs HC1.out).mono ?_
  rintro _ w2 ⟨b, rfl, hC⟩
  have HC2 := Lib.hid (HC1.out.reads hC)
  clear hC
  go_wp2_with fail
  go_ret
  exact ⟨_, rfl, HC2.out⟩
set_option maxHeartbeats 4000000 in
set_option maxRecDepth 1000000 in
theorem cf_21 (u : Nat) (tx : ByteArray) (kA dA : Option Addr) (kN kC dN dC : Nat)  (w : World) : Calls Tryz.prog 126 #[.agg #[.int .i64 21, .int .u64 (u : Int), .string tx, .slice kA kN kC, .int .i64 0, .slice dA dN dC]] w (fun e w' => e = .returned (.bool true) ∧ Chg (fun _ => False) w w') := by
  have hc0 : Chg (fun _ => False) w (w.alloc (.cells #[.int .i64 21, .int .u64 (u : Int), .string tx, .slice kA kN kC, .int .i64 0, .slice dA dN dC] 81)) := (Chg.refl _ w).alloc _
  have HC0 := Lib.hid hc0
  have hb0 := heap_alloc_new w (.cells #[.int .i64 21, .int .u64 (u : Int), .string tx, .slice kA kN kC, .int .i64 0, .slice dA dN dC] 81)
  have HB0 := Lib.hid hb0
  clear hc0 hb0
  go_enter Tryz.func126, Tryz.ntmps126
  go_wp2_with fail
  refine (fixed_any 21 (by decide) _).mono ?_
  rintro _ w1 ⟨rfl, hC⟩
  rw [show IntKind.i64.wrap (tbl fixedKv 21 - if (21 : Int) = 0 ∨ (21 : Int) = 1 ∨ 18 ≤ (21 : Int) then 1 else 0) = -1 by decide]
  have hb1 := hC.blkF HB0.out
  have c0 := blk_cell (k := 0) hb1 rfl
  have c1 := blk_cell (k := 1) hb1 rfl
  have c2 := blk_cell (k := 2) hb1 rfl
  have c4 := blk_cell (k := 4) hb1 rfl
  have HC1 := Lib.hid (HC0.out.reads hC)
  clear hC hb1 HB0 HC0
  go_wp2_with fail
  go_ret
  exact ⟨rfl, HC1.out⟩
theorem empty_of {s : ByteArray} (h : s.toList = []) : s = ⟨#[]⟩ := by
  rw [ByteArray.toList_eq] at h
  exact ByteArray.ext (Array.toList_inj.1 h)
set_option maxHeartbeats 8000000 in
set_option maxRecDepth 1000000 in
theorem vf_0 (u : Nat) (tx : ByteArray) (kA dA : Option Addr) (kN kC dC : Nat) (o : Int) (w : World) (hu : u < U64) (hs : tx.size ≤ 9223372036854775807) (hk : kN ≤ 9223372036854775807) : Calls Tryz.prog 69 #[.agg #[.int .i64 0, .int .u64 (u : Int), .string tx, .slice kA kN kC, .int .i64 o, .slice dA 0 dC], .int .i64 7] w (FitB 0 u tx kN w) := by
  have hc0 : Chg (fun _ => False) w (w.alloc (.cells #[.int .i64 0, .int .u64 (u : Int), .string tx, .slice kA kN kC, .int .i64 o, .slice dA 0 dC] 81)) := (Chg.refl _ w).alloc _
  have HC0 := Lib.hid hc0
  have HU := Lib.hid hu
  clear hc0 hu
  rcases Nat.eq_zero_or_pos kN with rfl | hk0
  rotate_left
  · have hd : decide ((kN : Int) > 0) = true := by simp; omega
    have hd' : decide (0 < kN) = true := by simp; omega
    go_enter Tryz.func69, Tryz.ntmps69
    go_wp2_with fail
    go_ret
    exact ⟨false, rfl, HC0.out, fun h => by cases h⟩
  by_cases htx : tx = ⟨#[]⟩
  rotate_left
  · have hne : ¬ tx.toList = [] := fun h => htx (empty_of h)
    have hne2 : tx.toList.isEmpty = false := by cases hl : tx.toList with | nil => exact absurd hl hne | cons a l => rfl
    have HNE := Lib.hid htx
    clear htx
    go_enter Tryz.func69, Tryz.ntmps69
    go_wp2_with fail
    go_ret
    exact ⟨false, rfl, HC0.out, fun h => by cases h⟩
  subst htx
  rcases Nat.eq_zero_or_pos u with rfl | hu0
  rotate_left
  · have hd : ((u : Int) != 0) = true := by simp; omega
    go_enter Tryz.func69, Tryz.ntmps69
    go_wp2_with fail
    go_ret
    exact ⟨false, rfl, HC0.out, fun h => by cases h⟩
  go_enter Tryz.func69, Tryz.ntmps69
  go_wp2_with fail
  go_loopw [149] (fun i w' => i = .int .i64 0 ∧ w' = w.alloc (.cells #[.int .i64 0, .int .u64 0, .string ⟨#[]⟩, .slice kA 0 kC, .int .i64 o, .slice dA 0 dC] 81)) (fun _ _ => 0)
  case atStart => exact ⟨rfl, rfl⟩
  case round =>
    obtain ⟨rfl, rfl⟩ := hrel
    go_wp2_with fail
    refine (cf_0 0 ⟨#[]⟩ kA dA 0 kC dC o _).mono ?_
    rintro _ w2 ⟨b, rfl, hC⟩
    have HC2 := Lib.hid (HC0.out.reads hC)
    clear hC
    go_wp2_with fail
    go_ret
    exact ⟨b, rfl, HC2.out, fun _ => ⟨rfl, by decide, fun h => absurd h (by decide), fun _ => rfl, fun _ => rfl⟩⟩
set_option maxHeartbeats 8000000 in
set_option maxRecDepth 1000000 in
theorem vf_4 (u : Nat) (tx : ByteArray) (kA dA : Option Addr) (kN kC dC : Nat) (o : Int) (w : World) (hu : u < U64) (hs : tx.size ≤ 9223372036854775807) (hk : kN ≤ 9223372036854775807) : Calls Tryz.prog 69 #[.agg #[.int .i64 4, .int .u64 (u : Int), .string tx, .slice kA kN kC, .int .i64 o, .slice dA 0 dC], .int .i64 7] w (FitB 4 u tx kN w) := by
  have hc0 : Chg (fun _ => False) w (w.alloc (.cells #[.int .i64 4, .int .u64 (u : Int), .string tx, .slice kA kN kC, .int .i64 o, .slice dA 0 dC] 81)) := (Chg.refl _ w).alloc _
  have HC0 := Lib.hid hc0
  have HU := Lib.hid hu
  clear hc0 hu
  rcases Nat.eq_zero_or_pos kN with rfl | hk0
  rotate_left
  · have hd : decide ((kN : Int) > 0) = true := by simp; omega
    have hd' : decide (0 < kN) = true := by simp; omega
    go_enter Tryz.func69, Tryz.ntmps69
    go_wp2_with fail
    go_ret
    exact ⟨false, rfl, HC0.out, fun h => by cases h⟩
  by_cases htx : tx = ⟨#[]⟩
  rotate_left
  · have hne : ¬ tx.toList = [] := fun h => htx (empty_of h)
    have hne2 : tx.toList.isEmpty = false := by cases hl : tx.toList with | nil => exact absurd hl hne | cons a l => rfl
    have HNE := Lib.hid htx
    clear htx
    go_enter Tryz.func69, Tryz.ntmps69
    go_wp2_with fail
    go_ret
    exact ⟨false, rfl, HC0.out, fun h => by cases h⟩
  subst htx
  go_enter Tryz.func69, Tryz.ntmps69
  go_wp2_with fail
  go_loopw [149] (fun i w' => i = .int .i64 0 ∧ w' = w.alloc (.cells #[.int .i64 4, .int .u64 (u : Int), .string ⟨#[]⟩, .slice kA 0 kC, .int .i64 o, .slice dA 0 dC] 81)) (fun _ _ => 0)
  case atStart => exact ⟨rfl, rfl⟩
  case round =>
    obtain ⟨rfl, rfl⟩ := hrel
    go_wp2_with fail
    refine (cf_4 u ⟨#[]⟩ kA dA 0 kC dC o _ HU.out).mono ?_
    rintro _ w2 ⟨b, rfl, hC⟩
    have HC2 := Lib.hid (HC0.out.reads hC)
    clear hC
    go_wp2_with fail
    go_ret
    exact ⟨b, rfl, HC2.out, fun _ => ⟨rfl, by decide, fun h => absurd h (by decide), fun h => absurd h (by decide), fun _ => rfl⟩⟩
set_option maxHeartbeats 8000000 in
set_option maxRecDepth 1000000 in
theorem vf_5 (u : Nat) (tx : ByteArray) (kA dA : Option Addr) (kN kC dC : Nat) (o : Int) (w : World) (hu : u < U64) (hs : tx.size ≤ 9223372036854775807) (hk : kN ≤ 9223372036854775807) : Calls Tryz.prog 69 #[.agg #[.int .i64 5, .int .u64 (u : Int), .string tx, .slice kA kN kC, .int .i64 o, .slice dA 0 dC], .int .i64 7] w (FitB 5 u tx kN w) := by
  have hc0 : Chg (fun _ => False) w (w.alloc (.cells #[.int .i64 5, .int .u64 (u : Int), .string tx, .slice kA kN kC, .int .i64 o, .slice dA 0 dC] 81)) := (Chg.refl _ w).alloc _
  have HC0 := Lib.hid hc0
  have HU := Lib.hid hu
  clear hc0 hu
  rcases Nat.eq_zero_or_pos kN with rfl | hk0
  rotate_left
  · have hd : decide ((kN : Int) > 0) = true := by simp; omega
    have hd' : decide (0 < kN) = true := by simp; omega
    go_enter Tryz.func69, Tryz.ntmps69
    go_wp2_with fail
    go_ret
    exact ⟨false, rfl, HC0.out, fun h => by cases h⟩
  by_cases htx : tx = ⟨#[]⟩
  rotate_left
  · have hne : ¬ tx.toList = [] := fun h => htx (empty_of h)
    have hne2 : tx.toList.isEmpty = false := by cases hl : tx.toList with | nil => exact absurd hl hne | cons a l => rfl
    have HNE := Lib.hid htx
    clear htx
    go_enter Tryz.func69, Tryz.ntmps69
    go_wp2_with fail
    go_ret
    exact ⟨false, rfl, HC0.out, fun h => by cases h⟩
  subst htx
  go_enter Tryz.func69, Tryz.ntmps69
  go_wp2_with fail
  go_loopw [149] (fun i w' => i = .int .i64 0 ∧ w' = w.alloc (.cells #[.int .i64 5, .int .u64 (u : Int), .string ⟨#[]⟩, .slice kA 0 kC, .int .i64 o, .slice dA 0 dC] 81)) (fun _ _ => 0)
  case atStart => exact ⟨rfl, rfl⟩
  case round =>
    obtain ⟨rfl, rfl⟩ := hrel
    go_wp2_with fail
    refine (cf_5 u ⟨#[]⟩ kA dA 0 kC dC o _ HU.out).mono ?_
    rintro _ w2 ⟨b, rfl, hC⟩
    have HC2 := Lib.hid (HC0.out.reads hC)
    clear hC
    go_wp2_with fail
    go_ret
    exact ⟨b, rfl, HC2.out, fun _ => ⟨rfl, by decide, fun h => absurd h (by decide), fun h => absurd h (by decide), fun _ => rfl⟩⟩
set_option maxHeartbeats 8000000 in
set_option maxRecDepth 1000000 in
theorem vf_16 (u : Nat) (tx : ByteArray) (kA dA : Option Addr) (kN kC dC : Nat) (o : Int) (w : World) (hu : u < U64) (hs : tx.size ≤ 9223372036854775807) (hk : kN ≤ 9223372036854775807) : Calls Tryz.prog 69 #[.agg #[.int .i64 16, .int .u64 (u : Int), .string tx, .slice kA kN kC, .int .i64 o, .slice dA 0 dC], .int .i64 7] w (FitB 16 u tx kN w) := by
  have hc0 : Chg (fun _ => False) w (w.alloc (.cells #[.int .i64 16, .int .u64 (u : Int), .string tx, .slice kA kN kC, .int .i64 o, .slice dA 0 dC] 81)) := (Chg.refl _ w).alloc _
  have HC0 := Lib.hid hc0
  have HU := Lib.hid hu
  clear hc0 hu
  rcases Nat.eq_zero_or_pos kN with rfl | hk0
  rotate_left
  · have hd : decide ((kN : Int) > 0) = true := by simp; omega
    have hd' : decide (0 < kN) = true := by simp; omega
    go_enter Tryz.func69, Tryz.ntmps69
    go_wp2_with fail
    go_ret
    exact ⟨false, rfl, HC0.out, fun h => by cases h⟩
  by_cases htx : tx = ⟨#[]⟩
  rotate_left
  · have hne : ¬ tx.toList = [] := fun h => htx (empty_of h)
    have hne2 : tx.toList.isEmpty = false := by cases hl : tx.toList with | nil => exact absurd hl hne | cons a l => rfl
    have HNE := Lib.hid htx
    clear htx
    go_enter Tryz.func69, Tryz.ntmps69
    go_wp2_with fail
    go_ret
    exact ⟨false, rfl, HC0.out, fun h => by cases h⟩
  subst htx
  go_enter Tryz.func69, Tryz.ntmps69
  go_wp2_with fail
  go_loopw [149] (fun i w' => i = .int .i64 0 ∧ w' = w.alloc (.cells #[.int .i64 16, .int .u64 (u : Int), .string ⟨#[]⟩, .slice kA 0 kC, .int .i64 o, .slice dA 0 dC] 81)) (fun _ _ => 0)
  case atStart => exact ⟨rfl, rfl⟩
  case round =>
    obtain ⟨rfl, rfl⟩ := hrel
    go_wp2_with fail
    refine (cf_16 u ⟨#[]⟩ kA dA 0 kC dC o _ HU.out).mono ?_
    rintro _ w2 ⟨b, rfl, hC⟩
    have HC2 := Lib.hid (HC0.out.reads hC)
    clear hC
    go_wp2_with fail
    go_ret
    exact ⟨b, rfl, HC2.out, fun _ => ⟨rfl, by decide, fun h => absurd h (by decide), fun h => absurd h (by decide), fun _ => rfl⟩⟩
set_option maxHeartbeats 8000000 in
set_option maxRecDepth 1000000 in
theorem vf_17 (u : Nat) (tx : ByteArray) (kA dA : Option Addr) (kN kC dC : Nat) (o : Int) (w : World) (hu : u < U64) (hs : tx.size ≤ 9223372036854775807) (hk : kN ≤ 9223372036854775807) : Calls Tryz.prog 69 #[.agg #[.int .i64 17, .int .u64 (u : Int), .string tx, .slice kA kN kC, .int .i64 o, .slice dA 0 dC], .int .i64 7] w (FitB 17 u tx kN w) := by
  have hc0 : Chg (fun _ => False) w (w.alloc (.cells #[.int .i64 17, .int .u64 (u : Int), .string tx, .slice kA kN kC, .int .i64 o, .slice dA 0 dC] 81)) := (Chg.refl _ w).alloc _
  have HC0 := Lib.hid hc0
  have HU := Lib.hid hu
  clear hc0 hu
  rcases Nat.eq_zero_or_pos kN with rfl | hk0
  rotate_left
  · have hd : decide ((kN : Int) > 0) = true := by simp; omega
    have hd' : decide (0 < kN) = true := by simp; omega
    go_enter Tryz.func69, Tryz.ntmps69
    go_wp2_with fail
    go_ret
    exact ⟨false, rfl, HC0.out, fun h => by cases h⟩
  rcases Nat.eq_zero_or_pos u with rfl | hu0
  rotate_left
  · have hd : ((u : Int) != 0) = true := by simp; omega
    go_enter Tryz.func69, Tryz.ntmps69
    go_wp2_with fail
    go_ret
    exact ⟨false, rfl, HC0.out, fun h => by cases h⟩
  rcases Nat.lt_or_ge 131072 tx.size with hl | hl
  · have hd : decide ((tx.size : Int) > 131072) = true := by simp; omega
    go_enter Tryz.func69, Tryz.ntmps69
    go_wp2_with fail
    go_ret
    exact ⟨false, rfl, HC0.out, fun h => by cases h⟩
  have hd : decide ((tx.size : Int) > 131072) = false := by simp; omega
  go_enter Tryz.func69, Tryz.ntmps69
  go_wp2_with fail
  go_loopw [149] (fun i w' => i = .int .i64 0 ∧ w' = w.alloc (.cells #[.int .i64 17, .int .u64 0, .string tx, .slice kA 0 kC, .int .i64 o, .slice dA 0 dC] 81)) (fun _ _ => 0)
  case atStart => exact ⟨rfl, rfl⟩
  case round =>
    obtain ⟨rfl, rfl⟩ := hrel
    go_wp2_with fail
    refine (cf_17 0 tx kA dA 0 kC dC o _).mono ?_
    rintro _ w2 ⟨b, rfl, hC, hq⟩
    have HC2 := Lib.hid (HC0.out.reads hC)
    clear hC
    go_wp2_with fail
    go_ret
    exact ⟨b, rfl, HC2.out, fun hb => ⟨rfl, hl, fun _ => hq hb, fun _ => rfl, fun h => absurd h (by decide)⟩⟩
set_option maxHeartbeats 8000000 in
set_option maxRecDepth 1000000 in
theorem vf_18 (u : Nat) (tx : ByteArray) (kA dA : Option Addr) (kN kC dC : Nat) (o : Int) (w : World) (hu : u < U64) (hs : tx.size ≤ 9223372036854775807) (hk : kN ≤ 9223372036854775807) : Calls Tryz.prog 69 #[.agg #[.int .i64 18, .int .u64 (u : Int), .string tx, .slice kA kN kC, .int .i64 o, .slice dA 0 dC], .int .i64 7] w (FitB 18 u tx kN w) := by
  have hc0 : Chg (fun _ => False) w (w.alloc (.cells #[.int .i64 18, .int .u64 (u : Int), .string tx, .slice kA kN kC, .int .i64 o, .slice dA 0 dC] 81)) := (Chg.refl _ w).alloc _
  have HC0 := Lib.hid hc0
  have HU := Lib.hid hu
  clear hc0 hu
  rcases Nat.eq_zero_or_pos kN with rfl | hk0
  rotate_left
  · have hd : decide ((kN : Int) > 0) = true := by simp; omega
    have hd' : decide (0 < kN) = true := by simp; omega
    go_enter Tryz.func69, Tryz.ntmps69
    go_wp2_with fail
    go_ret
    exact ⟨false, rfl, HC0.out, fun h => by cases h⟩
  rcases Nat.eq_zero_or_pos u with rfl | hu0
  rotate_left
  · have hd : ((u : Int) != 0) = true := by simp; omega
    go_enter Tryz.func69, Tryz.ntmps69
    go_wp2_with fail
    go_ret
    exact ⟨false, rfl, HC0.out, fun h => by cases h⟩
  rcases Nat.lt_or_ge 131072 tx.size with hl | hl
  · have hd : decide ((tx.size : Int) > 131072) = true := by simp; omega
    go_enter Tryz.func69, Tryz.ntmps69
    go_wp2_with fail
    go_ret
    exact ⟨false, rfl, HC0.out, fun h => by cases h⟩
  have hd : decide ((tx.size : Int) > 131072) = false := by simp; omega
  go_enter Tryz.func69, Tryz.ntmps69
  go_wp2_with fail
  go_loopw [149] (fun i w' => i = .int .i64 0 ∧ w' = w.alloc (.cells #[.int .i64 18, .int .u64 0, .string tx, .slice kA 0 kC, .int .i64 o, .slice dA 0 dC] 81)) (fun _ _ => 0)
  case atStart => exact ⟨rfl, rfl⟩
  case round =>
    obtain ⟨rfl, rfl⟩ := hrel
    go_wp2_with fail
    refine (cf_18 0 tx kA dA 0 kC dC o _).mono ?_
    rintro _ w2 ⟨b, rfl, hC⟩
    have HC2 := Lib.hid (HC0.out.reads hC)
    clear hC
    go_wp2_with fail
    go_ret
    exact ⟨b, rfl, HC2.out, fun _ => ⟨rfl, hl, fun h => absurd h (by decide), fun _ => rfl, fun h => absurd h (by decide)⟩⟩
set_option maxHeartbeats 8000000 in
set_option maxRecDepth 1000000 in
theorem vf_19 (u : Nat) (tx : ByteArray) (kA dA : Option Addr) (kN kC dC : Nat) (o : Int) (w : World) (hu : u < U64) (hs : tx.size ≤ 9223372036854775807) (hk : kN ≤ 9223372036854775807) (hV : ValidOk w) : Calls Tryz.prog 69 #[.agg #[.int .i64 19, .int .u64 (u : Int), .string tx, .slice kA kN kC, .int .i64 o, .slice dA 0 dC], .int .i64 7] w (FitB 19 u tx kN w) := by
  have HV := Lib.hid hV
  clear hV
  have hc0 : Chg (fun _ => False) w (w.alloc (.cells #[.int .i64 19, .int .u64 (u : Int), .string tx, .slice kA kN kC, .int .i64 o, .slice dA 0 dC] 81)) := (Chg.refl _ w).alloc _
  have HC0 := Lib.hid hc0
  have HU := Lib.hid hu
  clear hc0 hu
  rcases Nat.eq_zero_or_pos kN with rfl | hk0
  rotate_left
  · have hd : decide ((kN : Int) > 0) = true := by simp; omega
    have hd' : decide (0 < kN) = true := by simp; omega
    go_enter Tryz.func69, Tryz.ntmps69
    go_wp2_with fail
    go_ret
    exact ⟨false, rfl, HC0.out, fun h => by cases h⟩
  rcases Nat.eq_zero_or_pos u with rfl | hu0
  rotate_left
  · have hd : ((u : Int) != 0) = true := by simp; omega
    go_enter Tryz.func69, Tryz.ntmps69
    go_wp2_with fail
    go_ret
    exact ⟨false, rfl, HC0.out, fun h => by cases h⟩
  rcases Nat.lt_or_ge 131072 tx.size with hl | hl
  · have hd : decide ((tx.size : Int) > 131072) = true := by simp; omega
    go_enter Tryz.func69, Tryz.ntmps69
    go_wp2_with fail
    go_ret
    exact ⟨false, rfl, HC0.out, fun h => by cases h⟩
  have hd : decide ((tx.size : Int) > 131072) = false := by simp; omega
  go_enter Tryz.func69, Tryz.ntmps69
  go_wp2_with fail
  go_loopw [149] (fun i w' => i = .int .i64 0 ∧ w' = w.alloc (.cells #[.int .i64 19, .int .u64 0, .string tx, .slice kA 0 kC, .int .i64 o, .slice dA 0 dC] 81)) (fun _ _ => 0)
  case atStart => exact ⟨rfl, rfl⟩
  case round =>
    obtain ⟨rfl, rfl⟩ := hrel
    go_wp2_with fail
    refine (cf_19 0 tx kA dA 0 kC dC o _ hs (HV.out.ext HC0.out)).mono ?_
    rintro _ w2 ⟨b, rfl, hC⟩
    have HC2 := Lib.hid (HC0.out.reads hC)
    clear hC
    go_wp2_with fail
    go_ret
    exact ⟨b, rfl, HC2.out, fun _ => ⟨rfl, hl, fun h => absurd h (by decide), fun _ => rfl, fun h => absurd h (by decide)⟩⟩
set_option maxHeartbeats 8000000 in
set_option maxRecDepth 1000000 in
theorem vf_20 (u : Nat) (tx : ByteArray) (kA dA : Option Addr) (kN kC dC : Nat) (o : Int) (w : World) (hu : u < U64) (hs : tx.size ≤ 9223372036854775807) (hk : kN ≤ 9223372036854775807) : Calls Tryz.prog 69 #[.agg #[.int .i64 20, .int .u64 (u : Int), .string tx, .slice kA kN kC, .int .i64 o, .slice dA 0 dC], .int .i64 7] w (FitB 20 u tx kN w) := by
  have hc0 : Chg (fun _ => False) w (w.alloc (.cells #[.int .i64 20, .int .u64 (u : Int), .string tx, .slice kA kN kC, .int .i64 o, .slice dA 0 dC] 81)) := (Chg.refl _ w).alloc _
  have HC0 := Lib.hid hc0
  have HU := Lib.hid hu
  clear hc0 hu
  rcases Nat.eq_zero_or_pos kN with rfl | hk0
  rotate_left
  · have hd : decide ((kN : Int) > 0) = true := by simp; omega
    have hd' : decide (0 < kN) = true := by simp; omega
    go_enter Tryz.func69, Tryz.ntmps69
    go_wp2_with fail
    go_ret
    exact ⟨false, rfl, HC0.out, fun h => by cases h⟩
  rcases Nat.eq_zero_or_pos u with rfl | hu0
  rotate_left
  · have hd : ((u : Int) != 0) = true := by simp; omega
    go_enter Tryz.func69, Tryz.ntmps69
    go_wp2_with fail
    go_ret
    exact ⟨false, rfl, HC0.out, fun h => by cases h⟩
  rcases Nat.lt_or_ge 131072 tx.size with hl | hl
  · have hd : decide ((tx.size : Int) > 131072) = true := by simp; omega
    go_enter Tryz.func69, Tryz.ntmps69
    go_wp2_with fail
    go_ret
    exact ⟨false, rfl, HC0.out, fun h => by cases h⟩
  have hd : decide ((tx.size : Int) > 131072) = false := by simp; omega
  go_enter Tryz.func69, Tryz.ntmps69
  go_wp2_with fail
  go_loopw [149] (fun i w' => i = .int .i64 0 ∧ w' = w.alloc (.cells #[.int .i64 20, .int .u64 0, .string tx, .slice kA 0 kC, .int .i64 o, .slice dA 0 dC] 81)) (fun _ _ => 0)
  case atStart => exact ⟨rfl, rfl⟩
  case round =>
    obtain ⟨rfl, rfl⟩ := hrel
    go_wp2_with fail
    refine (cf_20 0 tx kA dA 0 kC dC o _ hs).mono ?_
    rintro _ w2 ⟨b, rfl, hC⟩
    have HC2 := Lib.hid (HC0.out.reads hC)
    clear hC
    go_wp2_with fail
    go_ret
    exact ⟨b, rfl, HC2.out, fun _ => ⟨rfl, hl, fun h => absurd h (by decide), fun _ => rfl, fun h => absurd h (by decide)⟩⟩
end Go.Proofs.S
