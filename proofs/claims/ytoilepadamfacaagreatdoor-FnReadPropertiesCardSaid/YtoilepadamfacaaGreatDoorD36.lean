/- The law of the row is met in every world that the row lets in: for arguments that the form of claims lets in. -/
import Derived.Test.YtoilepadamfacaaGreatDoorRows
import Derived.Test.YtoilepadamfacaaGreatDoorTie
import Derived.Test.YtoilepadamfacaaGreatDoorCards
import Derived.Test.YtoilepadamfacaaGreatDoorD34
import Derived.Test.YtoilepadamfacaaGreatDoorD35
import Derived.ProofKit
import Derived.LaidMore
import Derived.OpenShut
import Derived.Stop.Joined
import Derived.Lib.LaidU8T
import Derived.PinnedBridge
import Derived.SevenTiedAt
import Derived.Test.YtoilepadamfacaaGreatDoorD40
set_option linter.unusedVariables false
set_option linter.unusedSimpArgs false
namespace Go.Proofs.YtoilepadamfacaaGreatDoor
open Go.ChangeShapes Go.WideShapes Go.ChangeAt Go.RowKit Go.Proofs.S
theorem door_met (os : Os) (args : Array Value) : laidMetH Tryz.prog Rows.fnReadPropertiesRow.laid ((laidWorld os).forCall (fun _ _ => 0) ⟨#[], args, []⟩).memory := by
  rw [MakeChecks.laidMetH_plain _ _ _ plain_laid]
  exact laidMet_of_run' 8 (by kernel_rfl) (by kernel_rfl)
theorem below_of {w w' : World} (h : Chg (fun _ => False) w w') : Below w.heap.size w w' := ⟨h.os, h.tape, h.output, h.size, fun k hk => h.block k hk (fun h => h)⟩
theorem chg_of {w w' : World} (h : Below w.heap.size w w') : Chg (fun _ => False) w w' := ⟨h.os, h.tape, h.output, h.size, fun k hk _ => h.block k hk⟩
theorem tabs_of {W : World} (h : laidMetH Tryz.prog Rows.fnReadPropertiesRow.laid W) : Lib.Utf8Tabs (Tryz.laysValid_ren.g 3) (Tryz.laysValid_ren.g 4) W := by
  rw [MakeChecks.laidMetH_plain _ _ _ plain_laid] at h
  have h1 : Lib.VarReads Tryz.prog W "unicode/utf8.first" Rows.laid_unicode_utf8_first := Lib.laidMet.reads h (.tail _ (.tail _ (.head _)))
  have h2 : Lib.VarReads Tryz.prog W "unicode/utf8.acceptRanges" Rows.laid_unicode_utf8_acceptRanges := Lib.laidMet.reads h (.head _)
  have e1 : Rows.laid_unicode_utf8_first = Lib.firstData := Pinned.utf8First_eq
  have e2 : (Rows.laid_unicode_utf8_acceptRanges : DataW Unit) = Lib.acceptData := by kernel_rfl
  rw [e1] at h1
  rw [e2] at h2
  exact utf8Tabs_of_readsT (U8Types.of196 Tryz.laysValid) ⟨by kernel_rfl, by kernel_rfl, by kernel_rfl, by kernel_rfl, by kernel_rfl, by kernel_rfl, by kernel_rfl⟩ h1 h2
theorem valid_of {W : World} (h : Lib.Utf8Tabs (Tryz.laysValid_ren.g 3) (Tryz.laysValid_ren.g 4) W) : ValidOk W := by
  intro s w' hs hC
  have hT : Lib.Utf8Tabs (Tryz.laysValid_ren.g 3) (Tryz.laysValid_ren.g 4) w' := Utf8Tabs_below h (below_of hC)
  have cV : Calls Tryz.prog 180 #[.string s] w' _ := Any.utf8_ValidString Tryz.laysValid s w' hs hT
  refine cV.mono ?_
  rintro e w2 ⟨rfl, hb⟩
  exact ⟨_, rfl, chg_of hb⟩
theorem wit0 (os : Os) : (laidWorld os).os = os := rfl
set_option maxRecDepth 100000 in
theorem contract {H : Type} (enc : TypeId × Value → H) (W : World) (base : Nat) (args : Array Value) (ds gs : List (DataW H)) (before : List MemPlace)
    (hval0 : ∀ (j : Nat) t v, Tryz.f3.params[j]? = some t → args[j]? = some v → Value.okWide Tryz.prog W .any base t v)
    (hW : DataW.Whole enc Tryz.prog Tryz.f3.params.toList Rows.fnReadPropertiesSpec.vars false W args.toList ds gs before) (hL : laidMetH Tryz.prog Rows.fnReadPropertiesRow.laid W) :
    Calls Tryz.prog 3 args W fun e W' => ∃ v, e = .returned v ∧ Rows.fnReadPropertiesSpec.post enc Tryz.prog Tryz.f3 false true false false W args v W' := by
  have hval : ∀ (j : Nat) t v, Tryz.f3.params[j]? = some t → args[j]? = some v → Value.okWide Tryz.prog W .any base t v := hval0
  have hW' := hW
  obtain ⟨p, q, hA0, hV, rfl, hfz, hnd⟩ := hW
  have hA : DataW.TrodAll enc Tryz.prog W 0 (fun _ => true) true Tryz.f3.params.toList args.toList ds p := hA0
  rw [Tryz.params3] at hA hval
  obtain ⟨v0, vs0, d0, ds0, p0, q0, hargs, rfl, rfl, h0, r0⟩ := trodAll_cons hA
  obtain ⟨v1, vs1, d1, ds1, p1, q1, rfl, rfl, rfl, h1, r1⟩ := trodAll_cons r0
  obtain ⟨v2, vs2, d2, ds2, p2, q2, rfl, rfl, rfl, h2, r2⟩ := trodAll_cons r1
  obtain ⟨rfl, rfl, rfl⟩ := trodAll_nil r2
  obtain rfl : args = #[v0, v1, v2] := by cases args; simp_all
  obtain ⟨rfl, rfl⟩ := trodVars_none hV
  obtain ⟨cs, rfl, hcs⟩ := okWide_struct Tryz.underlying28 (hval 0 28 v0 rfl rfl)
  have k0 := h0
  have lt0 : ∀ x ∈ p0, x.block < W.heap.size := by obtain ⟨m, hm⟩ := k0; exact DataW.trod_lt m _ _ _ hm
  obtain ⟨fm, rfl, rfl, rfl, hfm⟩ := open_int Tryz.underlying29 (hval 1 29 v1 rfl rfl) h1
  obtain ⟨a2, len2, cap2, rfl⟩ := okWide_slice Tryz.underlying23 (hval 2 23 v2 rfl rfl)
  have k2 := h2
  have lt2 : ∀ x ∈ p2, x.block < W.heap.size := by obtain ⟨m, hm⟩ := k2; exact DataW.trod_lt m _ _ _ hm
  have hP : ∃ (A : Nat → Option Addr) (n c : Nat → Nat) (d : Nat) (l : List UInt8), Value.agg cs = .agg #[.slice (A 0) (n 0) (c 0), .slice (A 1) (n 1) (c 1), .slice (A 2) (n 2) (c 2), .slice (A 3) (n 3) (c 3), .slice (A 4) (n 4) (c 4), .slice (A 5) (n 5) (c 5), .slice (A 6) (n 6) (c 6), .slice (A 7) (n 7) (c 7), .slice (A 8) (n 8) (c 8), .slice (A 9) (n 9) (c 9), .slice (A 10) (n 10) (c 10), .slice (A 11) (n 11) (c 11), .slice (A 12) (n 12) (c 12)] ∧ PropsIn W A n c d l ∧ n 1 ≤ 9223372036854775807 := by
    obtain ⟨m, hm⟩ := k0
    exact props_in hm
  have hB : ∃ lb, lb.length = len2 ∧ Bs W (.slice a2 len2 cap2) lb := by
    obtain ⟨m, hm⟩ := k2
    obtain ⟨A, n, c, lb, hv, h1, h2, _⟩ := bytes_of hm
    injection hv with e1 e2 e3
    subst e1 e2 e3
    exact ⟨lb, h1, h2⟩
  obtain ⟨A, n, c, d, l, hv0, hPI, hn1⟩ := hP
  obtain ⟨lb, hlb, hBs⟩ := hB
  clear hA0 hval0 hval
  have hlaw := law_calls hPI hn1 hBs hlb fm (valid_of (tabs_of hL))
  rw [← hv0] at hlaw
  refine hlaw.mono fun e W' ⟨he, hC⟩ => ?_
  have bel := below_of hC
  subst he
  exact ⟨_, rfl, _, _, _, [], _, [], hW', trodAll_mk1 (shut_bool Tryz.underlying4 _), (trodAll_cons_mk (Below.trod laidOut read28 size28 k0 bel lt0) (trodAll_cons_mk (shut_int Tryz.underlying29 hfm) (trodAll_cons_mk (Below.trod laidOut read23 size23 k2 bel lt2) trodAll_mk0))), rfl, bel.frame _, fun h => by cases h⟩
theorem witness (os : Os) {H : Type} (enc : TypeId × Value → H) :
    ∃ (w : World) (tape : Tape) (i : Input), w.os = os ∧ (w.forCall tape i).Shaped Tryz.prog ∧ i.vars = [] ∧ Input.okWide Tryz.prog (w.forCall tape i) .any w.heap.size 3 i ∧
      ((Rows.fnReadPropertiesSpec.pre enc Tryz.prog Tryz.f3 [] false (w.forCall tape i).memory i.args ∧ laidMetH Tryz.prog Rows.fnReadPropertiesRow.laid (w.forCall tape i).memory) ∧ sizedMet enc Tryz.prog Tryz.f3 (OpenSpec.ofChange Rows.fnReadPropertiesSpec) false (w.forCall tape i).memory i.args) ∧ ({ modest := false } : Assume).holds Tryz.prog (lone (Frame.enter Tryz.prog 3 i.args .normal) [] (w.forCall tape i)) :=
  ChangeSpec.witness_shaped (enc := enc) (C := Tryz.checked) (os := os) (X := fun w _ => laidMetH Tryz.prog Rows.fnReadPropertiesRow.laid w) false (laidWorld os) argv 8 (wit0 os) (World.shaped_of_RefB (wit1 os) (wit2 os)) (wit3 os) (wit4 os enc) (wit5 os enc) (door_met os _)
set_option maxRecDepth 100000 in
theorem lifted (os : Os) (started : os.Started) (H : Type) (enc : TypeId × Value → H) :
    ReturnsInHanded {} Tryz.checked os 3 .any (fun w args => (Rows.fnReadPropertiesSpec.pre enc Tryz.prog Tryz.f3 [] false w args ∧ laidMetH Tryz.prog Rows.fnReadPropertiesRow.laid w) ∧ sizedMet enc Tryz.prog Tryz.f3 (OpenSpec.ofChange Rows.fnReadPropertiesSpec) false w args)
      (Rows.fnReadPropertiesSpec.post enc Tryz.prog Tryz.f3 false true false false) :=
  returnsInHanded_of_change_and (C := Tryz.checked) (X := fun w _ => laidMetH Tryz.prog Rows.fnReadPropertiesRow.laid w) (fun _ _ _ hh h => h.of_heap hh) own started noInit Tryz.func3 (witness os enc)
    (fun W base args ds gs before hval0 hW _ _ hL _ => contract enc W base args ds gs before hval0 hW hL)
end Go.Proofs.YtoilepadamfacaaGreatDoor
