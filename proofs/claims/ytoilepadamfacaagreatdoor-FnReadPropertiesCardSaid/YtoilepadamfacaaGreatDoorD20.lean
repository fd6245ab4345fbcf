/- The fields of the properties as plain values, and their row as a whole: for slots that hold plain values. -/
import Derived.Test.YtoilepadamfacaaGreatDoorD15
import Derived.BigQuiet
set_option linter.unusedVariables false
set_option linter.unusedSimpArgs false
namespace Go.Proofs.S
open Go.RowKit Go.Maps
set_option maxHeartbeats 4000000 in
set_option maxRecDepth 1000000 in
/-- SameValue of values without values in them. -/
theorem same_FV (kd kd' : Int) (u u' : Nat) (tx tx' : ByteArray) (A A' D D' : Option Addr) (o o' : Int) (cA cA' cD cD' : Nat) (w : World) :
    Calls Tryz.prog 34 #[.agg #[.int .i64 kd, .int .u64 (u : Int), .string tx, .slice A 0 cA, .int .i64 o, .slice D 0 cD], .agg #[.int .i64 kd', .int .u64 (u' : Int), .string tx', .slice A' 0 cA', .int .i64 o', .slice D' 0 cD']] w fun e w' => e = .returned (.bool (decide (kd = kd' ∧ u = u' ∧ tx = tx'))) ∧ Chg (fun _ => False) w w' := by
  go_enter Tryz.func34, Tryz.ntmps34
  rcases Decidable.em (kd = kd') with h1 | h1
  · subst h1
    rcases Decidable.em (u = u') with h2 | h2
    · subst h2
      rcases Decidable.em (tx = tx') with h3 | h3
      · subst h3
        go_wp2_with fail
        go_loopw [46] (fun i w' => i = .int .i64 0 ∧ w' = (w.alloc (.cells #[.int .i64 kd, .int .u64 (u : Int), .string tx, .slice A 0 cA, .int .i64 o, .slice D 0 cD] 81)).alloc (.cells #[.int .i64 kd, .int .u64 (u : Int), .string tx, .slice A' 0 cA', .int .i64 o', .slice D' 0 cD'] 81)) (fun _ _ => 0)
        case atStart => exact ⟨rfl, rfl⟩
        case round =>
          obtain ⟨rfl, rfl⟩ := hrel
          go_upto_region 9 with (fail)
          go_quiet (fail)
          all_goals (go_wp2_with fail)
          all_goals go_ret
          all_goals exact ⟨by simp, (((Chg.refl _ w).alloc _).alloc _).drewN _⟩
      · have hd : ¬ tx.toList = tx'.toList := fun h => h3 (by rw [ByteArray.toList_eq, ByteArray.toList_eq] at h; exact ByteArray.ext (Array.toList_inj.1 h))
        have HD := Lib.hid hd
        clear hd
        go_wp2_with fail
        all_goals first
          | (exfalso; exact HD.out (by assumption))
          | (go_ret
             exact ⟨by simp [h3], ((Chg.refl _ w).alloc _).alloc _⟩)
    · have hd : decide ((u : Int) = (u' : Int)) = false := by simp; omega
      go_wp2_with fail
      go_ret
      exact ⟨by simp [h2], ((Chg.refl _ w).alloc _).alloc _⟩
  · have hd : decide (kd = kd') = false := by simp; omega
    go_wp2_with fail
    go_ret
    exact ⟨by simp [h1], ((Chg.refl _ w).alloc _).alloc _⟩
end Go.Proofs.S
namespace Go.Proofs.S
open Go.RowKit Go.Maps
set_option maxHeartbeats 4000000 in
set_option maxRecDepth 1000000 in
/-- (*Forms).inside of a value that is no union. -/
theorem inside_FV {kd : Int} (hk : kd ≠ 23) (u : Int) (tx : ByteArray) (kA dA : Option Addr) (kN kC dN dC : Nat) (o : Int) (fp : Value) (w : World) :
    Calls Tryz.prog 36 #[fp, .agg #[.int .i64 kd, .int .u64 u, .string tx, .slice kA kN kC, .int .i64 o, .slice dA dN dC]] w fun e w' => e = .returned (.agg #[.int .i64 kd, .int .u64 u, .string tx, .slice kA kN kC, .int .i64 o, .slice dA dN dC]) ∧ Chg (fun _ => False) w w' := by
  go_enter Tryz.func36, Tryz.ntmps36
  have hd : decide (kd = 23) = false := decide_eq_false hk
  go_wp2_with fail
  refine bodyPost_ret (v := .agg #[.int .i64 kd, .int .u64 u, .string tx, .slice kA kN kC, .int .i64 o, .slice dA dN dC]) (by simp [results, Tryz.results36, go_sem]) rfl ⟨rfl, ?_⟩
  exact ((Chg.refl _ w).alloc _).alloc _
set_option maxHeartbeats 4000000 in
set_option maxRecDepth 1000000 in
/-- ofNumber. -/
theorem ofNumber_calls (kd : Int) (u : Int) (w : World) :
    Calls Tryz.prog 58 #[.int .i64 kd, .int .u64 u] w fun e w' => e = .returned (.agg #[.int .i64 kd, .int .u64 u, .string ⟨#[]⟩, .slice none 0 0, .int .i64 0, .slice none 0 0]) ∧ Chg (fun _ => False) w w' := by
  go_enter Tryz.func58, Tryz.ntmps58
  go_wp2_with fail
  refine bodyPost_ret (v := .agg #[.int .i64 kd, .int .u64 u, .string ⟨#[]⟩, .slice none 0 0, .int .i64 0, .slice none 0 0]) (by simp [results, Tryz.results58, go_sem]) rfl ⟨rfl, ?_⟩
  exact (Chg.refl _ w).alloc _
set_option maxHeartbeats 4000000 in
set_option maxRecDepth 1000000 in
/-- anyField, no value. -/
theorem anyField_none (A : Option Addr) (c : Nat) (w : World) :
    Calls Tryz.prog 29 #[.slice A 0 c] w fun e w' => e = .returned (.agg #[.int .i64 0, .int .u64 0, .string ⟨#[]⟩, .slice none 0 0, .int .i64 0, .slice none 0 0, .int .i64 0, .int .u64 0, .string ⟨#[]⟩, .slice none 0 0, .int .i64 0, .slice none 0 0]) ∧ Chg (fun _ => False) w w' := by
  go_enter Tryz.func29, Tryz.ntmps29
  go_wp2_with fail
  refine bodyPost_ret (v := .agg #[.int .i64 0, .int .u64 0, .string ⟨#[]⟩, .slice none 0 0, .int .i64 0, .slice none 0 0, .int .i64 0, .int .u64 0, .string ⟨#[]⟩, .slice none 0 0, .int .i64 0, .slice none 0 0]) (by simp [results, Tryz.results29, go_sem]) rfl ⟨rfl, ?_⟩
  exact (Chg.refl _ w).alloc _
set_option maxHeartbeats 4000000 in
set_option maxRecDepth 1000000 in
/-- anyField, a value. -/
theorem anyField_some {g o c : Nat} {x : FV} {w : World} (h : FVAt w g o x) :
    Calls Tryz.prog 29 #[.slice (some ⟨g, o, none⟩) 1 c] w fun e w' => e = .returned (.agg #[.int .i64 x.kd, .int .u64 (x.nm : Int), .string x.tx, .slice x.kA x.kN x.kC, .int .i64 x.of_, .slice x.dA 0 x.dC, .int .i64 0, .int .u64 0, .string ⟨#[]⟩, .slice none 0 0, .int .i64 0, .slice none 0 0]) ∧ Chg (fun _ => False) w w' := by
  obtain ⟨q0, q1, q2, q3, q4, q5⟩ := h.chg ((Chg.refl (fun _ => False) w).alloc (.cells #[.int .i64 0, .int .u64 0, .string ⟨#[]⟩, .slice none 0 0, .int .i64 0, .slice none 0 0, .int .i64 0, .int .u64 0, .string ⟨#[]⟩, .slice none 0 0, .int .i64 0, .slice none 0 0] 83)) (fun h => h)
  go_enter Tryz.func29, Tryz.ntmps29
  go_wp2_with fail
  refine bodyPost_ret (v := .agg #[.int .i64 x.kd, .int .u64 (x.nm : Int), .string x.tx, .slice x.kA x.kN x.kC, .int .i64 x.of_, .slice x.dA 0 x.dC, .int .i64 0, .int .u64 0, .string ⟨#[]⟩, .slice none 0 0, .int .i64 0, .slice none 0 0]) (by simp [results, Tryz.results29, go_sem]) rfl ⟨rfl, ?_⟩
  exact (Chg.refl _ w).alloc _
set_option maxHeartbeats 4000000 in
set_option maxRecDepth 1000000 in
/-- maybeText, no text. -/
theorem maybeText_none (k : Int) (A : Option Addr) (c : Nat) (w : World) :
    Calls Tryz.prog 30 #[.int .i64 k, .slice A 0 c] w fun e w' => e = .returned (.agg #[.int .i64 0, .int .u64 0, .string ⟨#[]⟩, .slice none 0 0, .int .i64 0, .slice none 0 0, .int .i64 0, .int .u64 0, .string ⟨#[]⟩, .slice none 0 0, .int .i64 0, .slice none 0 0]) ∧ Chg (fun _ => False) w w' := by
  go_enter Tryz.func30, Tryz.ntmps30
  go_wp2_with fail
  refine bodyPost_ret (v := .agg #[.int .i64 0, .int .u64 0, .string ⟨#[]⟩, .slice none 0 0, .int .i64 0, .slice none 0 0, .int .i64 0, .int .u64 0, .string ⟨#[]⟩, .slice none 0 0, .int .i64 0, .slice none 0 0]) (by simp [results, Tryz.results30, go_sem]) rfl ⟨rfl, ?_⟩
  exact (Chg.refl _ w).alloc _
set_option maxHeartbeats 4000000 in
set_option maxRecDepth 1000000 in
/-- maybeText, a text. -/
theorem maybeText_some (k : Int) {g o c : Nat} {s : ByteArray} {w : World} (h : w.cell? ⟨g, o, none⟩ = some (.string s)) :
    Calls Tryz.prog 30 #[.int .i64 k, .slice (some ⟨g, o, none⟩) 1 c] w fun e w' => e = .returned (.agg #[.int .i64 k, .int .u64 0, .string s, .slice none 0 0, .int .i64 0, .slice none 0 0, .int .i64 0, .int .u64 0, .string ⟨#[]⟩, .slice none 0 0, .int .i64 0, .slice none 0 0]) ∧ Chg (fun _ => False) w w' := by
  have q0 := ((Chg.refl (fun _ => False) w).alloc (.cells #[.int .i64 0, .int .u64 0, .string ⟨#[]⟩, .slice none 0 0, .int .i64 0, .slice none 0 0, .int .i64 0, .int .u64 0, .string ⟨#[]⟩, .slice none 0 0, .int .i64 0, .slice none 0 0] 83)).cell h (fun h => h)
  go_enter Tryz.func30, Tryz.ntmps30
  go_wp2_with fail
  refine bodyPost_ret (v := .agg #[.int .i64 k, .int .u64 0, .string s, .slice none 0 0, .int .i64 0, .slice none 0 0, .int .i64 0, .int .u64 0, .string ⟨#[]⟩, .slice none 0 0, .int .i64 0, .slice none 0 0]) (by simp [results, Tryz.results30, go_sem]) rfl ⟨rfl, ?_⟩
  exact (Chg.refl _ w).alloc _
end Go.Proofs.S
namespace Go.Proofs.S
open Go.RowKit Go.Maps
set_option maxHeartbeats 4000000 in
set_option maxRecDepth 1000000 in
theorem maybeI_none (k : Int) (A : Option Addr) (c : Nat) (w : World) :
    Calls Tryz.prog 31 #[.int .i64 k, .slice A 0 c] w fun e w' => e = .returned (.agg #[.int .i64 0, .int .u64 0, .string ⟨#[]⟩, .slice none 0 0, .int .i64 0, .slice none 0 0, .int .i64 0, .int .u64 0, .string ⟨#[]⟩, .slice none 0 0, .int .i64 0, .slice none 0 0]) ∧ Chg (fun _ => False) w w' := by
  go_enter Tryz.func31, Tryz.ntmps31
  go_wp2_with fail
  refine bodyPost_ret (v := .agg #[.int .i64 0, .int .u64 0, .string ⟨#[]⟩, .slice none 0 0, .int .i64 0, .slice none 0 0, .int .i64 0, .int .u64 0, .string ⟨#[]⟩, .slice none 0 0, .int .i64 0, .slice none 0 0]) (by simp [results, Tryz.results31, go_sem]) rfl ⟨rfl, ?_⟩
  exact (Chg.refl _ w).alloc _
set_option maxHeartbeats 4000000 in
set_option maxRecDepth 1000000 in
theorem maybeI_some (k : Int) {g o c : Nat} {z : Int} {w : World} (h : w.cell? ⟨g, o, none⟩ = some (.int .i64 z)) :
    Calls Tryz.prog 31 #[.int .i64 k, .slice (some ⟨g, o, none⟩) 1 c] w fun e w' => e = .returned (.agg #[.int .i64 k, .int .u64 (IntKind.u64.wrap z), .string ⟨#[]⟩, .slice none 0 0, .int .i64 0, .slice none 0 0, .int .i64 0, .int .u64 0, .string ⟨#[]⟩, .slice none 0 0, .int .i64 0, .slice none 0 0]) ∧ Chg (fun _ => False) w w' := by
  have q0 := ((Chg.refl (fun _ => False) w).alloc (.cells #[.int .i64 0, .int .u64 0, .string ⟨#[]⟩, .slice none 0 0, .int .i64 0, .slice none 0 0, .int .i64 0, .int .u64 0, .string ⟨#[]⟩, .slice none 0 0, .int .i64 0, .slice none 0 0] 83)).cell h (fun h => h)
  go_enter Tryz.func31, Tryz.ntmps31
  go_wp2_with fail
  refine (ofNumber_calls k (IntKind.u64.wrap z) _).mono ?_
  rintro _ w1 ⟨rfl, hC⟩
  have HC := Lib.hid (((Chg.refl (fun _ => False) w).alloc (.cells #[.int .i64 0, .int .u64 0, .string ⟨#[]⟩, .slice none 0 0, .int .i64 0, .slice none 0 0, .int .i64 0, .int .u64 0, .string ⟨#[]⟩, .slice none 0 0, .int .i64 0, .slice none 0 0] 83)).reads hC)
  have hb : w1.heap[w.heap.size]? = some (.cells #[.int .i64 0, .int .u64 0, .string ⟨#[]⟩, .slice none 0 0, .int .i64 0, .slice none 0 0, .int .i64 0, .int .u64 0, .string ⟨#[]⟩, .slice none 0 0, .int .i64 0, .slice none 0 0] 83 (0, 0)) := hC.blkF (heap_alloc_new _ _)
  have f0 := blk_free (k := 0) hb
  have f1 := blk_free (k := 1) hb
  have f2 := blk_free (k := 2) hb
  have f3 := blk_free (k := 3) hb
  have f4 := blk_free (k := 4) hb
  have f5 := blk_free (k := 5) hb
  have f6 := blk_free (k := 6) hb
  have f7 := blk_free (k := 7) hb
  have f8 := blk_free (k := 8) hb
  have f9 := blk_free (k := 9) hb
  have f10 := blk_free (k := 10) hb
  have f11 := blk_free (k := 11) hb
  have c0 := blk_cell (k := 0) hb rfl
  have c1 := blk_cell (k := 1) hb rfl
  have c2 := blk_cell (k := 2) hb rfl
  have c3 := blk_cell (k := 3) hb rfl
  have c4 := blk_cell (k := 4) hb rfl
  have c5 := blk_cell (k := 5) hb rfl
  have c6 := blk_cell (k := 6) hb rfl
  have c7 := blk_cell (k := 7) hb rfl
  have c8 := blk_cell (k := 8) hb rfl
  have c9 := blk_cell (k := 9) hb rfl
  have c10 := blk_cell (k := 10) hb rfl
  have c11 := blk_cell (k := 11) hb rfl
  clear hC
  go_wp2_with fail
  refine bodyPost_ret (v := .agg #[.int .i64 k, .int .u64 (IntKind.u64.wrap z), .string ⟨#[]⟩, .slice none 0 0, .int .i64 0, .slice none 0 0, .int .i64 0, .int .u64 0, .string ⟨#[]⟩, .slice none 0 0, .int .i64 0, .slice none 0 0]) (by simp [results, Tryz.results31, go_sem, c0, c1, c2, c3, c4, c5, c6, c7, c8, c9, c10, c11]) rfl ⟨rfl, ?_⟩
  repeat (refine Chg.setCell ?_ (by simp) _)
  exact HC.out
set_option maxHeartbeats 4000000 in
set_option maxRecDepth 1000000 in
theorem maybeU_none (k : Int) (A : Option Addr) (c : Nat) (w : World) :
    Calls Tryz.prog 32 #[.int .i64 k, .slice A 0 c] w fun e w' => e = .returned (.agg #[.int .i64 0, .int .u64 0, .string ⟨#[]⟩, .slice none 0 0, .int .i64 0, .slice none 0 0, .int .i64 0, .int .u64 0, .string ⟨#[]⟩, .slice none 0 0, .int .i64 0, .slice none 0 0]) ∧ Chg (fun _ => False) w w' := by
  go_enter Tryz.func32, Tryz.ntmps32
  go_wp2_with fail
  refine bodyPost_ret (v := .agg #[.int .i64 0, .int .u64 0, .string ⟨#[]⟩, .slice none 0 0, .int .i64 0, .slice none 0 0, .int .i64 0, .int .u64 0, .string ⟨#[]⟩, .slice none 0 0, .int .i64 0, .slice none 0 0]) (by simp [results, Tryz.results32, go_sem]) rfl ⟨rfl, ?_⟩
  exact (Chg.refl _ w).alloc _
set_option maxHeartbeats 4000000 in
set_option maxRecDepth 1000000 in
theorem maybeU_some (k : Int) {g o c : Nat} {z : Int} {w : World} (h : w.cell? ⟨g, o, none⟩ = some (.int .u32 z)) :
    Calls Tryz.prog 32 #[.int .i64 k, .slice (some ⟨g, o, none⟩) 1 c] w fun e w' => e = .returned (.agg #[.int .i64 k, .int .u64 (IntKind.u64.wrap z), .string ⟨#[]⟩, .slice none 0 0, .int .i64 0, .slice none 0 0, .int .i64 0, .int .u64 0, .string ⟨#[]⟩, .slice none 0 0, .int .i64 0, .slice none 0 0]) ∧ Chg (fun _ => False) w w' := by
  have q0 := ((Chg.refl (fun _ => False) w).alloc (.cells #[.int .i64 0, .int .u64 0, .string ⟨#[]⟩, .slice none 0 0, .int .i64 0, .slice none 0 0, .int .i64 0, .int .u64 0, .string ⟨#[]⟩, .slice none 0 0, .int .i64 0, .slice none 0 0] 83)).cell h (fun h => h)
  go_enter Tryz.func32, Tryz.ntmps32
  go_wp2_with fail
  refine (ofNumber_calls k (IntKind.u64.wrap z) _).mono ?_
  rintro _ w1 ⟨rfl, hC⟩
  have HC := Lib.hid (((Chg.refl (fun _ => False) w).alloc (.cells #[.int .i64 0, .int .u64 0, .string ⟨#[]⟩, .slice none 0 0, .int .i64 0, .slice none 0 0, .int .i64 0, .int .u64 0, .string ⟨#[]⟩, .slice none 0 0, .int .i64 0, .slice none 0 0] 83)).reads hC)
  have hb : w1.heap[w.heap.size]? = some (.cells #[.int .i64 0, .int .u64 0, .string ⟨#[]⟩, .slice none 0 0, .int .i64 0, .slice none 0 0, .int .i64 0, .int .u64 0, .string ⟨#[]⟩, .slice none 0 0, .int .i64 0, .slice none 0 0] 83 (0, 0)) := hC.blkF (heap_alloc_new _ _)
  have f0 := blk_free (k := 0) hb
  have f1 := blk_free (k := 1) hb
  have f2 := blk_free (k := 2) hb
  have f3 := blk_free (k := 3) hb
  have f4 := blk_free (k := 4) hb
  have f5 := blk_free (k := 5) hb
  have f6 := blk_free (k := 6) hb
  have f7 := blk_free (k := 7) hb
  have f8 := blk_free (k := 8) hb
  have f9 := blk_free (k := 9) hb
  have f10 := blk_free (k := 10) hb
  have f11 := blk_free (k := 11) hb
  have c0 := blk_cell (k := 0) hb rfl
  have c1 := blk_cell (k := 1) hb rfl
  have c2 := blk_cell (k := 2) hb rfl
  have c3 := blk_cell (k := 3) hb rfl
  have c4 := blk_cell (k := 4) hb rfl
  have c5 := blk_cell (k := 5) hb rfl
  have c6 := blk_cell (k := 6) hb rfl
  have c7 := blk_cell (k := 7) hb rfl
  have c8 := blk_cell (k := 8) hb rfl
  have c9 := blk_cell (k := 9) hb rfl
  have c10 := blk_cell (k := 10) hb rfl
  have c11 := blk_cell (k := 11) hb rfl
  clear hC
  go_wp2_with fail
  refine bodyPost_ret (v := .agg #[.int .i64 k, .int .u64 (IntKind.u64.wrap z), .string ⟨#[]⟩, .slice none 0 0, .int .i64 0, .slice none 0 0, .int .i64 0, .int .u64 0, .string ⟨#[]⟩, .slice none 0 0, .int .i64 0, .slice none 0 0]) (by simp [results, Tryz.results32, go_sem, c0, c1, c2, c3, c4, c5, c6, c7, c8, c9, c10, c11]) rfl ⟨rfl, ?_⟩
  repeat (refine Chg.setCell ?_ (by simp) _)
  exact HC.out
end Go.Proofs.S
namespace Go.Proofs.S
open Go.RowKit Go.Maps
def cFV (x : FV) : List Value := [.int .i64 x.kd, .int .u64 (x.nm : Int), .string x.tx, .slice x.kA x.kN x.kC, .int .i64 x.of_, .slice x.dA 0 x.dC]
def fvl (xs : List FV) : List Value := xs.flatMap cFV
theorem fvl_append (xs ys : List FV) : fvl (xs ++ ys) = fvl xs ++ fvl ys := by simp [fvl]
theorem fvl_length (xs : List FV) : (fvl xs).length = xs.length * 6 := by
  induction xs with
  | nil => rfl
  | cons x xs ih => simp only [fvl, List.flatMap_cons, List.length_append, List.length_cons] at ih ⊢; rw [ih]; simp only [cFV, List.length_cons, List.length_nil]; omega
theorem fvl_get : ∀ (xs : List FV) (i k : Nat) (x : FV), xs[i]? = some x → k < 6 → (fvl xs)[i * 6 + k]? = (cFV x)[k]? := by
  intro xs
  induction xs with
  | nil => intro i k x h; simp at h
  | cons y xs ih =>
    intro i k x h hk
    have e : fvl (y :: xs) = cFV y ++ fvl xs := rfl
    cases i with
    | zero =>
      simp at h; subst h
      rw [e, Nat.zero_mul, Nat.zero_add, List.getElem?_append_left (by simp [cFV]; omega)]
    | succ i =>
      have := ih i k x (by simpa using h) hk
      rw [e, List.getElem?_append_right (by simp [cFV]; omega), ← this]
      congr 1
      simp [cFV]; omega
/-- A row of values of the call's own. -/
def OwnV (w : World) (base : Nat) (v : Value) (xs : List FV) : Prop := w.ownsRow base 81 6 v xs.length (fvl xs)
theorem Tryz_info81 : (Tryz.prog.info? 81).map (fun i => (i.zero, i.size, i.bytes)) = some (some (.agg #[.int .i64 0, .int .u64 0, .string ⟨#[]⟩, .slice none 0 0, .int .i64 0, .slice none 0 0]), 6, 88) := by kernel_rfl
theorem run_appV {base : Nat} {w : World} {v u : Value} {xs ys : List FV} (ho : OwnV w base v xs) (ho' : OwnV w base u ys) (hne : ys ≠ []) (hn : xs.length + ys.length ≤ 1000) (hb : base ≤ w.heap.size) :
    ∃ v1 w1, (Builtin.append_ #[22, 22] 22 #[v, u]).run Tryz.prog w = .ok v1 w1 ∧ OwnV w1 base v1 (xs ++ ys) ∧ w.grownBy w1 v.ownBlock ∧ (v1.ownBlock = v.ownBlock ∨ v1.ownBlock = some w.heap.size) := by
  obtain ⟨i0, hi, hzz⟩ := Option.map_eq_some_iff.1 Tryz_info81
  simp only [Prod.mk.injEq] at hzz
  obtain ⟨hz0, hz1, hz2⟩ := hzz
  rcases ho'.2 with ⟨rfl, h0⟩ | ⟨g, cap, cur, rfl, hg, hh, r1, r2, r3, r4⟩
  · exact absurd (List.eq_nil_of_length_eq_zero h0) hne
  · obtain ⟨v1, w1, q1, q2, q3, _, q5⟩ := run_append_own_at (P := Tryz.prog) w base 22 22 81 i0 _ 6 88 Tryz.underlying22 hi hz0 hz1 hz2 rfl (by decide) v xs.length (fvl xs) ho ⟨g, 0, none⟩ ys.length cap (fvl ys) (fvl_length ys)
      (World.ownsRow.cells ho' (g := g) rfl) (fun x hx => by
        simp only [fvl, List.mem_flatMap] at hx
        obtain ⟨p, hp', hx⟩ := hx
        simp only [cFV, List.mem_cons, List.not_mem_nil, or_false] at hx
        rcases hx with rfl | rfl | rfl | rfl | rfl | rfl <;> rfl) (by simp only [maxLen]; omega) (by omega) hb
    refine ⟨v1, w1, q1, ?_, q3, q5⟩
    show w1.ownsRow base 81 6 v1 _ _
    rw [fvl_append, List.length_append]
    exact q2
theorem OwnV.at {w : World} {base : Nat} {v : Value} {xs : List FV} (h : OwnV w base v xs) (hne : xs ≠ []) : ∃ g c, v = .slice (some ⟨g, 0, none⟩) xs.length c ∧ base ≤ g ∧ g < w.heap.size ∧ ∀ j x, xs[j]? = some x → FVAt w g (j * 6) x := by
  rcases h.2 with ⟨rfl, h0⟩ | ⟨g, cap, cur, rfl, hg, hh, r1, r2, r3, r4⟩
  · exact absurd (List.eq_nil_of_length_eq_zero h0) hne
  · refine ⟨g, cap, rfl, hg, (Array.getElem?_eq_some_iff.1 hh).1, fun j x hx => ?_⟩
    have hc := World.ownsRow.cells h (g := g) rfl
    have H : ∀ k y, k < 6 → (cFV x)[k]? = some y → w.cell? ⟨g, j * 6 + k, none⟩ = some y := fun k y hk hy => by
      have := hc (j * 6 + k) y ((fvl_get xs j k x hx hk).trans hy)
      rwa [add_off, Nat.zero_add] at this
    exact ⟨H 0 _ (by decide) rfl, H 1 _ (by decide) rfl, H 2 _ (by decide) rfl, H 3 _ (by decide) rfl, H 4 _ (by decide) rfl, H 5 _ (by decide) rfl⟩
theorem OwnV.ge {w : World} {base k : Nat} {v : Value} {xs : List FV} (h : OwnV w base v xs) (hk : v.ownBlock = some k) : base ≤ k ∧ k < w.heap.size := by
  rcases h.2 with ⟨rfl, _⟩ | ⟨g, cap, cur, rfl, hg, hh, _⟩
  · cases hk
  · simp only [Value.ownBlock, Option.some.injEq] at hk
    subst hk
    exact ⟨hg, (Array.getElem?_eq_some_iff.1 hh).1⟩
theorem OwnV.slice {w : World} {base : Nat} {v : Value} {xs : List FV} (h : OwnV w base v xs) : ∃ A n c, v = .slice A n c := by
  rcases h.2 with ⟨rfl, h0⟩ | ⟨g, cap, cur, rfl, _⟩
  · exact ⟨_, _, _, rfl⟩
  · exact ⟨_, _, _, rfl⟩
theorem OwnV.lit1 {base : Nat} {w : World} (x : FV) (hb : base ≤ w.heap.size) : OwnV (w.alloc (.cells #[.int .i64 x.kd, .int .u64 (x.nm : Int), .string x.tx, .slice x.kA x.kN x.kC, .int .i64 x.of_, .slice x.dA 0 x.dC] 81)) base (.slice (some ⟨w.heap.size, 0, none⟩) 1 1) [x] :=
  World.ownsRow_lit (base := base) (e := 81) (size := 6) w _ 1 hb (by simp [maxLen]) rfl
end Go.Proofs.S
namespace Go.Proofs.S
open Go.RowKit Go.Maps
def FV0 : FV := ⟨0, 0, ⟨#[]⟩, none, 0, 0, 0, none, 0⟩
def FD : FV := ⟨5, 115, ⟨#[]⟩, none, 0, 0, 0, none, 0⟩
set_option maxHeartbeats 4000000 in
set_option maxRecDepth 1000000 in
/-- (Composite).Whole. -/
theorem whole_calls {F : Nat → FV} {n : Nat} (hn1 : 1 ≤ n) (hn : n ≤ 13) {g cC : Nat} {w : World} (hk : ∀ j, j < n → FVAt w g (j * 12) (F j) ∧ FVAt w g (j * 12 + 6) FV0) :
    Calls Tryz.prog 33 #[.agg #[.int .u64 115, .slice (some ⟨g, 0, none⟩) n cC]] w fun e w' => ∃ kg kC dg xs, e = .returned (.agg #[.int .i64 21, .int .u64 0, .string ⟨#[]⟩, .slice (some ⟨kg, 0, none⟩) n kC, .int .i64 0, .slice (some ⟨dg, 0, none⟩) 1 1]) ∧ OwnV w' w.heap.size (.slice (some ⟨kg, 0, none⟩) n kC) xs ∧ xs.length = n ∧ (∀ j, j < n → xs[j]? = some (F j)) ∧ w.heap.size ≤ dg ∧ dg ≠ kg ∧ FVAt w' dg 0 FD ∧ Chg (fun _ => False) w w' := by
  have HK := Lib.hid hk
  clear hk
  go_enter Tryz.func33, Tryz.ntmps33
  go_wp2_with fail
  refine (ofNumber_calls 5 115 _).mono ?_
  rintro _ w1 ⟨rfl, hC⟩
  have HC := Lib.hid ((((Chg.refl (fun _ => False) w).alloc _).alloc _).reads hC)
  have hs1 : w.heap.size + 2 ≤ w1.heap.size := by have := hC.size; simp at this; omega
  have hbx := hC.blkF (((Chg.refl (fun _ => False) _).alloc _).blkF (heap_alloc_new w (.cells #[.int .u64 115, .slice (some ⟨g, 0, none⟩) n cC] 35)))
  have hb2 := hC.blkF (heap_alloc_new _ _)
  have HBX := Lib.hid hbx; have HB2 := Lib.hid hb2
  clear hC hbx hb2
  have HB2 : Hid (w1.heap[w.heap.size + 1]? = some (.cells #[.int .i64 0, .int .u64 0, .string ⟨#[]⟩, .slice none 0 0, .int .i64 0, .slice none 0 0] 81 (0, 0))) := Lib.hid (by have := HB2.out; rwa [show (w.alloc (.cells #[.int .u64 115, .slice (some ⟨g, 0, none⟩) n cC] 35)).heap.size = w.heap.size + 1 by simp] at this)
  go_upto_region 2 with (fail)
  refine wp_any_world (fun w' => Chg (fun _ => False) w1 w' ∧ w'.heap[w1.heap.size]? = some (.cells #[.int .i64 5, .int .u64 115, .string ⟨#[]⟩, .slice none 0 0, .int .i64 0, .slice none 0 0] 81 (0, 0)) ∧ w'.heap[w1.heap.size + 1]? = some (.cells #[.int .i64 21, .int .u64 0, .string ⟨#[]⟩, .slice none 0 0, .int .i64 0, .slice (some ⟨w1.heap.size, 0, none⟩) 1 1] 81 (0, 0))) ⟨((Chg.refl _ w1).alloc _).alloc _, ((Chg.refl (fun _ => False) _).alloc _).blkF (heap_alloc_new _ _), by have := heap_alloc_new (w1.alloc (.cells #[.int .i64 5, .int .u64 115, .string ⟨#[]⟩, .slice none 0 0, .int .i64 0, .slice none 0 0] 81)) (.cells #[.int .i64 21, .int .u64 0, .string ⟨#[]⟩, .slice none 0 0, .int .i64 0, .slice (some ⟨w1.heap.size, 0, none⟩) 1 1] 81); rwa [show (w1.alloc (.cells #[.int .i64 5, .int .u64 115, .string ⟨#[]⟩, .slice none 0 0, .int .i64 0, .slice none 0 0] 81)).heap.size = w1.heap.size + 1 by simp] at this⟩ ?_
  rintro w2 ⟨hC2, hd2, hv2⟩
  have HC2 := Lib.hid hC2; have HD2 := Lib.hid hd2; have HV2 := Lib.hid hv2
  have hs2 : w1.heap.size + 2 ≤ w2.heap.size := by have := (Array.getElem?_eq_some_iff.1 hv2).1; omega
  have y1 : w2.cell? ⟨w.heap.size, 1, none⟩ = some (.slice (some ⟨g, 0, none⟩) n cC) := blk_cell (HC2.out.blkF HBX.out) rfl
  clear hC2 hd2 hv2
  go_wp2_with fail
  go_loopw [14] (fun i wr => ∃ (k : Nat) (xs : List FV) (A : Option Addr) (m c : Nat), k ≤ n ∧ i = .int .i64 (k : Int) ∧ OwnV wr w2.heap.size (.slice A m c) xs ∧ xs.length = k ∧ (∀ j, j < k → xs[j]? = some (F j)) ∧ wr.heap[w1.heap.size + 1]? = some (.cells #[.int .i64 21, .int .u64 0, .string ⟨#[]⟩, .slice A m c, .int .i64 0, .slice (some ⟨w1.heap.size, 0, none⟩) 1 1] 81 (0, 0)) ∧ wr.heap[w1.heap.size]? = some (.cells #[.int .i64 5, .int .u64 115, .string ⟨#[]⟩, .slice none 0 0, .int .i64 0, .slice none 0 0] 81 (0, 0)) ∧ wr.heap[w.heap.size + 1]? = some (.cells #[.int .i64 0, .int .u64 0, .string ⟨#[]⟩, .slice none 0 0, .int .i64 0, .slice none 0 0] 81 (0, 0)) ∧ Chg (fun _ => False) w wr ∧ w2.heap.size ≤ wr.heap.size) (fun i _ => n - (intOf i).toNat)
  case atStart => exact ⟨0, [], none, 0, 0, Nat.zero_le _, rfl, World.ownsRow_nil w2 w2.heap.size 81 6, rfl, fun j hj => absurd hj (Nat.not_lt_zero _), HV2.out, HD2.out, HC2.out.blkF HB2.out, HC.out.reads HC2.out, Nat.le_refl _⟩
  case round =>
    obtain ⟨k, xs, A, m, c, hkn, rfl, hO, hxl, hxs, hvb, hdb, hrb, hCr, hsr⟩ := hrel
    have HO := Lib.hid hO; have HXS := Lib.hid hxs; have HVB := Lib.hid hvb; have HDB := Lib.hid hdb; have HRB := Lib.hid hrb; have HCR := Lib.hid hCr; have HXL := Lib.hid hxl
    clear hO hxs hvb hdb hrb hCr hxl
    rcases Nat.lt_or_ge k n with hlt | hge
    · have hd : decide ((k : Int) < (n : Int)) = true := by simp; omega
      obtain ⟨hx, hz⟩ := HK.out k hlt
      obtain ⟨q0, q1, q2, q3, q4, q5⟩ := hx.chg HCR.out (fun h => h)
      obtain ⟨p0, p1, p2, p3, p4, p5⟩ := hz.chg HCR.out (fun h => h)
      simp only [Nat.add_assoc, Nat.reduceAdd, FV0] at p0 p1 p2 p3 p4 p5
      have hk0 : (0 : Int) ≤ (k : Int) := by omega
      have hkl : (k : Int) < (n : Int) := by omega
      go_upto_region 5 with (fail)
      refine wp_any_world (fun w' => Chg (fun _ => False) wr w' ∧ FVAt w' wr.heap.size 0 (F k)) ⟨(Chg.refl _ wr).alloc _, ⟨blk_cell (heap_alloc_new _ _) rfl, blk_cell (heap_alloc_new _ _) rfl, blk_cell (heap_alloc_new _ _) rfl, blk_cell (heap_alloc_new _ _) rfl, blk_cell (heap_alloc_new _ _) rfl, blk_cell (heap_alloc_new _ _) rfl⟩⟩ ?_
      rintro w3 ⟨hC3, hx3⟩
      have HC3 := Lib.hid hC3
      have hs3 : wr.heap.size ≤ w3.heap.size := hC3.size
      clear q0 q1 q2 q3 q4 q5 p0 p1 p2 p3 p4 p5 hx hz
      obtain ⟨q0, q1, q2, q3, q4, q5⟩ := hx3
      simp only [Nat.zero_add] at q1 q2 q3 q4 q5
      have v3 : w3.cell? ⟨w1.heap.size + 1, 3, none⟩ = some (.slice A m c) := blk_cell (hC3.blkF HVB.out) rfl
      have hC4 : Chg (fun _ => False) w3 (w3.alloc (.cells #[.int .i64 (F k).kd, .int .u64 ((F k).nm : Int), .string (F k).tx, .slice (F k).kA (F k).kN (F k).kC, .int .i64 (F k).of_, .slice (F k).dA 0 (F k).dC] 81)) := (Chg.refl _ w3).alloc _
      obtain ⟨v1, w5, hrun, ho, hg, hat⟩ := run_appV (row_chg HO.out (hC3.reads hC4) (fun _ h => h.elim)) (OwnV.lit1 (base := w2.heap.size) (w := w3) (F k) (by omega)) (by simp) (by have := HXL.out; simp; omega) (by simp; omega)
      obtain ⟨vA, vn, vc, rfl⟩ := ho.slice
      have hC5 : Chg (fun b => w2.heap.size ≤ b) wr w5 := ((hC3.reads hC4).any).grown hg (fun q hq _ => (HO.out.ge hq).1)
      have HRUN := Lib.hid hrun; have HO5 := Lib.hid ho; have HC5 := Lib.hid hC5
      have HV5 := Lib.hid (hC5.blk HVB.out (by omega)); have HD5 := Lib.hid (hC5.blk HDB.out (by omega)); have HR5 := Lib.hid (hC5.blk HRB.out (by omega))
      have hs5 := hC5.size
      have v5 : w5.cell? ⟨w1.heap.size + 1, 3, none⟩ = some (.slice A m c) := blk_cell HV5.out rfl
      have f5 : w5.frozen? ⟨w1.heap.size + 1, 3, none⟩ = false := blk_free HV5.out
      clear hC3 hC4 hrun ho hg hat hC5
      go_wp2_with (at_builtin; refine wpList_app HRUN.out rfl rfl rfl rfl rfl ?_)
      go_roundw
      case rel =>
        have hS : Chg (· = w1.heap.size + 1) w5 (w5.setCell ⟨w1.heap.size + 1, 3, none⟩ (.slice vA vn vc)) := Chg.setCell (X := (· = w1.heap.size + 1)) (p := ⟨w1.heap.size + 1, 3, none⟩) (Chg.refl _ w5) (fun _ => rfl) _
        refine ⟨k + 1, xs ++ [F k], vA, vn, vc, hlt, by go_num, row_chg HO5.out hS (fun q h => by subst h; omega), by simp [HXL.out], fun j hj => ?_, setCell_blk HV5.out _, hS.blk HD5.out (by omega), hS.blk HR5.out (by omega), (HCR.out.trans HC5.out (fun i hi h => absurd hi (by omega))).setCell (fun h => absurd h (by simp; omega)) _, Nat.le_trans hsr (Nat.le_trans hs5 hS.size)⟩
        rcases Nat.lt_or_ge j k with h1 | h1
        · rw [List.getElem?_append_left (by rw [HXL.out]; exact h1)]
          exact HXS.out j h1
        · obtain rfl : j = k := by omega
          rw [List.getElem?_append_right (by rw [HXL.out]; exact Nat.le_refl _), HXL.out, Nat.sub_self]
          rfl
      case measure => simp [intOf]; omega
    · obtain rfl : k = n := by omega
      have hd : decide ((k : Int) < (k : Int)) = false := by simp
      have hxne : xs ≠ [] := fun h => by have := HXL.out; rw [h] at this; simp at this; omega
      obtain ⟨kg, kC, hv, hkg1, hkg2, _⟩ := OwnV.at HO.out hxne
      rw [HXL.out] at hv
      injection hv with e1 e2 e3
      subst e1 e2 e3
      have v0 := blk_cell (k := 0) HVB.out rfl
      have r0 := blk_cell (k := 0) HRB.out rfl
      have f0 := blk_free (k := 0) HRB.out
      have v1 := blk_cell (k := 1) HVB.out rfl
      have r1 := blk_cell (k := 1) HRB.out rfl
      have f1 := blk_free (k := 1) HRB.out
      have v2 := blk_cell (k := 2) HVB.out rfl
      have r2 := blk_cell (k := 2) HRB.out rfl
      have f2 := blk_free (k := 2) HRB.out
      have v3 := blk_cell (k := 3) HVB.out rfl
      have r3 := blk_cell (k := 3) HRB.out rfl
      have f3 := blk_free (k := 3) HRB.out
      have v4 := blk_cell (k := 4) HVB.out rfl
      have r4 := blk_cell (k := 4) HRB.out rfl
      have f4 := blk_free (k := 4) HRB.out
      have v5 := blk_cell (k := 5) HVB.out rfl
      have r5 := blk_cell (k := 5) HRB.out rfl
      have f5 := blk_free (k := 5) HRB.out
      go_wp2_with fail
      have HF : FVAt wr w1.heap.size 0 FD := ⟨blk_cell (k := 0) HDB.out rfl, blk_cell (k := 1) HDB.out rfl, blk_cell (k := 2) HDB.out rfl, blk_cell (k := 3) HDB.out rfl, blk_cell (k := 4) HDB.out rfl, blk_cell (k := 5) HDB.out rfl⟩
      have HZ : Hid (∀ wz, Chg (· = w.heap.size + 1) wr wz → ∃ kg' kC dg ys, Ending.returned (.agg #[.int .i64 21, .int .u64 0, .string ⟨#[]⟩, .slice (some ⟨kg, 0, none⟩) m c, .int .i64 0, .slice (some ⟨w1.heap.size, 0, none⟩) 1 1]) = Ending.returned (.agg #[.int .i64 21, .int .u64 0, .string ⟨#[]⟩, .slice (some ⟨kg', 0, none⟩) m kC, .int .i64 0, .slice (some ⟨dg, 0, none⟩) 1 1]) ∧ OwnV wz w.heap.size (.slice (some ⟨kg', 0, none⟩) m kC) ys ∧ ys.length = m ∧ (∀ j, j < m → ys[j]? = some (F j)) ∧ w.heap.size ≤ dg ∧ dg ≠ kg' ∧ FVAt wz dg 0 FD ∧ Chg (fun _ => False) w wz) := Lib.hid (fun wz hz => ⟨kg, c, w1.heap.size, xs, rfl, row_base (row_chg HO.out hz (fun q h => by subst h; omega)) (by omega), HXL.out, HXS.out, by omega, by omega, HF.chg hz (by omega), HCR.out.trans hz (fun i hi h => absurd hi (by omega))⟩)
      refine bodyPost_ret (v := .agg #[.int .i64 21, .int .u64 0, .string ⟨#[]⟩, .slice (some ⟨kg, 0, none⟩) m c, .int .i64 0, .slice (some ⟨w1.heap.size, 0, none⟩) 1 1]) (by simp [results, Tryz.results33, go_sem, r0, r1, r2, r3, r4, r5]) rfl ?_
      refine HZ.out _ ?_
      iterate 6 (refine Chg.setCell (X := fun x => x = w.heap.size + 1) ?_ (fun _ => by rfl) _)
      exact Chg.refl _ _
end Go.Proofs.S
