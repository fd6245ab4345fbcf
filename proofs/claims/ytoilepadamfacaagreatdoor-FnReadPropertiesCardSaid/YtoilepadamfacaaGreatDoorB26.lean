/- What is left of a buffer, and the test for no value: for a buffer that holds its bytes. -/
import Derived.Test.YtoilepadamfacaaGreatDoorB20
import Derived.Recover
set_option linter.unusedVariables false
set_option linter.unusedSimpArgs false
namespace Go.Proofs.S
open Go.RowKit
theorem Buf.rest {w w' : World} {r d n c i : Nat} {bs : List UInt8} (h : Buf w r d n c i bs) (hc : Chg (fun _ => False) w w') : Bs w' (.slice (some ⟨d, i, none⟩) (n - i) (c - i)) (bs.drop i) := by
  have hl := h.len
  have hp := h.pos
  have hcap := h.cap
  refine ⟨some ⟨d, i, none⟩, c - i, by rw [List.length_drop, hl], by rw [List.length_drop]; omega, fun _ => ⟨d, i, rfl, fun j x hx => ?_⟩⟩
  rw [List.getElem?_drop] at hx
  exact hc.cell (h.cells _ _ hx) (fun h => h)
theorem Buf.rest0 {w w' : World} {r d n c i : Nat} {bs : List UInt8} (h : Buf w r d n c i bs) (hi : c = i) : Bs w' (.slice (some ⟨d, 0, none⟩) (n - i) 0) (bs.drop i) := by
  have hl := h.len
  have hp := h.pos
  have hcap := h.cap
  have h0 : bs.drop i = [] := List.drop_eq_nil_of_le (by omega)
  exact ⟨some ⟨d, 0, none⟩, 0, by rw [h0]; show Value.slice _ (n - i) 0 = Value.slice _ 0 0; rw [show n - i = 0 by omega], by rw [h0]; exact Nat.le_refl _, fun hn => absurd h0 hn⟩
/-- What is left of a reader's bytes. -/
theorem bufBytes {w : World} {r d n c i : Nat} {bs : List UInt8} (h : Buf w r d n c i bs) :
    Calls Tryz.prog 28 #[.pointer (some ⟨r, 0, none⟩)] w fun e w' => ∃ A m k, e = .returned (.slice A m k) ∧ Bs w' (.slice A m k) (bs.drop i) ∧ Chg (fun _ => False) w w' := by
  have h0 := h.c0
  have h1 : w.cell? ⟨r, 1, none⟩ = some (.int .i64 (i : Int)) := blk_cell (k := 1) h.blk rfl
  have hp := h.pos
  have hc := h.cap
  have hb := h.big
  have hic : i ≤ c := by omega
  have H := Lib.hid h; clear h
  go_enter Tryz.func28, Tryz.ntmps28
  go_wp2
  go_quiet (fail)
  all_goals go_wp2
  all_goals go_ret
  · exact ⟨_, _, _, rfl, H.out.rest0 h, (Chg.refl _ _).drewN _⟩
  · exact ⟨_, _, _, rfl, H.out.rest ((Chg.refl _ _).drewN _), (Chg.refl _ _).drewN _⟩
end Go.Proofs.S
namespace Go.Proofs.S
open Go.RowKit
theorem noValue_idle (p q r : Value) (w : World) :
    CallsD Tryz.prog 23 #[p, q, r] .returning w fun e u' w' => e = .returned (.tuple #[]) ∧ u' = .returning ∧ w' = w := by
  refine callsD_of_wpS Tryz.func23 rfl fun c₀ cs hu => ?_
  apply wpS_seq
  apply wpS_region
  simp [wpOpsS, go_sem, recoverD, hu, Tryz.ntmps23, Exit.thenS]
  refine wpS_cond (t := false) (by simp [Act.eval, Array.replicate]) ?_
  simp only [Bool.false_eq_true, if_false]
  refine wpS_of_wp (wp_skip ?_)
  cases c₀
  simp_all [bodyPostS, results, Tryz.results23]
end Go.Proofs.S
