/- Maps that are laid by literals, and the size of a fixed kind: for keys that are integers. -/
import Derived.Test.YtoilepadamfacaaGreatDoorB20
import Derived.Maps.OwnOps
import Derived.Test.YtoilepadamfacaaGreatDoorD5
import Derived.Maps.Views
set_option linter.unusedVariables false
set_option linter.unusedSimpArgs false
namespace Go.Proofs.S
open Go.RowKit Go.Maps
theorem keyed3 : Keyed Tryz.prog 3 := int_keyed Tryz.underlying3
theorem zero3 (w : World) : (zeroValue 3).run Tryz.prog w = .ok (.int .i64 0) w := by kernel_rfl
/-- A map of ints, of the call's own. -/
def MapI (w : World) (B n : Nat) (D : DataW Unit) : Prop := w.ownsMap Tryz.prog 3 (plainElem Tryz.prog 3) B n D
theorem wpList_ins {w : World} {ops : Array Oper} {rest : List Oper} {o : Oper} {a : Act} {Q : Exit → Act → World → Prop} (m : Operand) (kk vv : Int) (hgd : o.guard = none)
    (hop : o.op = Op.insert 359 m (.const (.int .i64 kk)) (.const (.int .i64 vv))) (hk : (Lit.int .i64 kk).wf = true) (hv : (Lit.int .i64 vv).wf = true) (B n : Nat) (D : DataW Unit) (hn : n < 100) (hm : a.eval m = .map (some B)) (hown : MapI w B n D)
    (hK : ∀ w', MapI w' B (n + 1) (D.put (.int .i64 kk) (.lit (.int .i64 vv))) → w.grownBy w' (some B) → wpList Tryz.prog ops Q rest (a.put o.dst undef) w') :
    wpList Tryz.prog ops Q (o :: rest) a w := by
  refine wpList_plain hgd fun K' hK' => ?_
  obtain ⟨w', hrun, r1, r2⟩ := World.ownsMap.update hown keyed3 Tryz.underlying359 (by unfold maxLen; omega) (keyOf_int_mk Tryz.underlying3 hk) (plainElem_int Tryz.underlying3 hv)
  unfold Oper.wp
  have h1 : a.eval (.const (.int .i64 kk)) = .int .i64 kk := rfl
  have h2 : a.eval (.const (.int .i64 vv)) = .int .i64 vv := rfl
  simp only [execOp, hop, hm, h1, h2, Sem.run_bind, hrun, Result.andThen_ok, Sem.run_pure]
  exact hK' _ _ (hK w' r1 r2)
theorem wpList_look {w : World} {ops : Array Oper} {rest : List Oper} {o : Oper} {a : Act} {Q : Exit → Act → World → Prop} (m x : Operand) (kk : Int) (hgd : o.guard = none)
    (hop : o.op = Op.lookup 359 m x false) (hx : a.eval x = .int .i64 kk) (hk : (Lit.int .i64 kk).wf = true) (B n : Nat) (D : DataW Unit) (hm : a.eval m = .map (some B)) (hown : MapI w B n D)
    (hK : ∀ c : Int, D.atKey (.int .i64 kk) (.lit (.int .i64 0)) = .lit (.int .i64 c) → wpList Tryz.prog ops Q rest (a.put o.dst (.int .i64 c)) w) :
    wpList Tryz.prog ops Q (o :: rest) a w :=
  wpList_lookup_own_int w hgd m x 359 hop 3 3 .i64 keyed3 Tryz.underlying359 Tryz.underlying3 (zero3 w) B n D hm hown _ _ hx (keyOf_int_mk Tryz.underlying3 hk) (fun c h _ => hK c h)
theorem mapI_made (w : World) : MapI (w.alloc (.map #[] 0)) w.heap.size 0 (.map []) := World.ownsMap_made w _ _ _

def codedD : DataW Unit := ((((((((((((((((((((((((DataW.map []).put (.int .i64 0) (.lit (.int .i64 64))).put (.int .i64 1) (.lit (.int .i64 86))).put (.int .i64 2) (.lit (.int .i64 80))).put (.int .i64 6) (.lit (.int .i64 81))).put (.int .i64 3) (.lit (.int .i64 96))).put (.int .i64 7) (.lit (.int .i64 97))).put (.int .i64 4) (.lit (.int .i64 112))).put (.int .i64 8) (.lit (.int .i64 113))).put (.int .i64 10) (.lit (.int .i64 114))).put (.int .i64 15) (.lit (.int .i64 115))).put (.int .i64 12) (.lit (.int .i64 116))).put (.int .i64 5) (.lit (.int .i64 128))).put (.int .i64 9) (.lit (.int .i64 129))).put (.int .i64 11) (.lit (.int .i64 130))).put (.int .i64 16) (.lit (.int .i64 131))).put (.int .i64 13) (.lit (.int .i64 132))).put (.int .i64 14) (.lit (.int .i64 148))).put (.int .i64 17) (.lit (.int .i64 152))).put (.int .i64 18) (.lit (.int .i64 176))).put (.int .i64 19) (.lit (.int .i64 177))).put (.int .i64 20) (.lit (.int .i64 179))).put (.int .i64 21) (.lit (.int .i64 208))).put (.int .i64 22) (.lit (.int .i64 209))).put (.int .i64 23) (.lit (.int .i64 240))

set_option maxRecDepth 100000 in
theorem coded_any (k : Int) (hk : (Lit.int .i64 k).wf = true) (w : World) : Calls Tryz.prog 121 #[.int .i64 k] w fun e w' => ∃ c, e = .returned (.int .i64 c) ∧ codedD.atKey (.int .i64 k) (.lit (.int .i64 0)) = .lit (.int .i64 c) ∧ Chg (fun _ => False) w w' := by
  have hmm := @run_makeMap Tryz.prog
  have hC : Chg (fun _ => False) w (w.alloc (.map #[] 0)) := (Chg.refl _ w).alloc _
  have hown := mapI_made w
  have hB : w.heap.size ≤ w.heap.size := Nat.le_refl _
  go_enter Tryz.func121, Tryz.ntmps121
  go_wp2_with (first
    | (refine wpList_ins _ _ _ rfl rfl (by decide) (by decide) _ _ _ (by omega) rfl hown ?_; clear hown; intro w1 hown hgr; have hC := hC.grown hgr (fun k hk h => by injection hk with hk; omega); clear hgr)
    | (refine wpList_look _ _ _ rfl rfl rfl hk _ _ _ rfl hown ?_; intro c hat; have HAT := Lib.hid hat; clear hat))
  go_ret
  exact ⟨_, rfl, HAT.out, hC⟩
end Go.Proofs.S
namespace Go.Proofs.S
open Go.RowKit Go.Maps
theorem MapI_det {w : World} {B n n' : Nat} {D D' : DataW Unit} (h : MapI w B n D) (h' : MapI w B n' D') : D = D' := by
  obtain ⟨es, ck, hb, F, _, rfl⟩ := h
  obtain ⟨es', ck', hb', F', _, rfl⟩ := h'
  rw [hb] at hb'
  injection hb' with hb'
  injection hb' with h1 h2
  subst h1
  rfl
theorem MapI_same {w w' : World} {B n : Nat} {D : DataW Unit} (h : MapI w B n D) (hb : w'.heap[B]? = w.heap[B]?) : MapI w' B n D := by
  obtain ⟨es, ck, h1, F, h2, h3⟩ := h
  exact ⟨es, ck, hb.trans h1, F, h2, h3⟩
theorem MapI_lt {w : World} {B n : Nat} {D : DataW Unit} (h : MapI w B n D) : B < w.heap.size := by
  obtain ⟨es, ck, h1, _⟩ := h
  exact (Array.getElem?_eq_some_iff.1 h1).1
theorem MapI_isMap {w : World} {B n : Nat} {D : DataW Unit} (h : MapI w B n D) : IsMap D := by
  obtain ⟨es, ck, h1, _, _, rfl⟩ := h
  exact ⟨_, rfl⟩
theorem ins_run {w : World} {B n : Nat} {D : DataW Unit} (h : MapI w B n D) (kk vv : Int) (hk : (Lit.int .i64 kk).wf = true) (hv : (Lit.int .i64 vv).wf = true) (hn : n < 100) :
    ∃ w', (Instr.mapUpdate 359 (.map (some B)) (.int .i64 kk) (.int .i64 vv)).run Tryz.prog w = .ok () w' ∧ MapI w' B (n + 1) (D.put (.int .i64 kk) (.lit (.int .i64 vv))) ∧ w.grownBy w' (some B) :=
  World.ownsMap.update h keyed3 Tryz.underlying359 (by unfold maxLen; omega) (keyOf_int_mk Tryz.underlying3 hk) (plainElem_int Tryz.underlying3 hv)
theorem look_run {w : World} {B n : Nat} {D : DataW Unit} (h : MapI w B n D) (kk : Int) (hk : (Lit.int .i64 kk).wf = true) :
    ∃ c, (Instr.lookup 359 (.map (some B)) (.int .i64 kk) false).run Tryz.prog w = .ok (.int .i64 c) w ∧ D.atKey (.int .i64 kk) (.lit (.int .i64 0)) = .lit (.int .i64 c) := by
  obtain ⟨c, h1, h2, _⟩ := World.ownsMap.lookup_int h keyed3 Tryz.underlying359 Tryz.underlying3 (zero3 w) (keyOf_int_mk Tryz.underlying3 hk)
  exact ⟨c, h1, h2⟩
abbrev z0 : DataW Unit := .lit (.int .i64 0)
abbrev K_ (k : Int) : Lit := .int .i64 k
def tbl (kvs : List (Int × Int)) (k : Int) : Int := ((kvs.find? (fun p => p.1 == k)).map (·.2)).getD 0
/-- The map has been made. -/
def MR0 (kvs : List (Int × Int)) (k : Int) (base : Nat) (v : Value) (c : Nat) (w : World) : Prop := ∃ B n D, v = .map (some B) ∧ base ≤ B ∧ MapI w B n D ∧ n ≤ c ∧ ((∀ p, p ∈ kvs → p.1 ≠ k) → D.atKey (K_ k) z0 = z0)
/-- A key lies in it. -/
def MRi (kv : Int × Int) (v0 : Value) (w : World) : Prop := ∃ B n D, v0 = .map (some B) ∧ MapI w B n D ∧ D.atKey (K_ kv.1) z0 = .lit (.int .i64 kv.2)
/-- All lie in it. -/
def MRt (kvs : List (Int × Int)) (k : Int) (v : Value) (w : World) : Prop := ∃ B n D, v = .map (some B) ∧ MapI w B n D ∧ D.atKey (K_ k) z0 = .lit (.int .i64 (tbl kvs k))
section
variable {kvs : List (Int × Int)} {k : Int} {base c : Nat} {v : Value} {w w' : World} {kv kv' : Int × Int}
theorem MR0.ext (h : MR0 kvs k base v c w) (hc : Chg (fun _ => False) w w') : MR0 kvs k base v (c + 1) w' := by
  obtain ⟨B, n, D, h1, h2, h3, h4, h5⟩ := h
  exact ⟨B, n, D, h1, h2, MapI_same h3 (hc.block B (MapI_lt h3) (fun h => h)), by omega, h5⟩
theorem MRi.ext (h : MRi kv v w) (hc : Chg (fun _ => False) w w') : MRi kv v w' := by
  obtain ⟨B, n, D, h1, h3, h5⟩ := h
  exact ⟨B, n, D, h1, MapI_same h3 (hc.block B (MapI_lt h3) (fun h => h)), h5⟩
theorem MRt.ext (h : MRt kvs k v w) (hc : Chg (fun _ => False) w w') : MRt kvs k v w' := by
  obtain ⟨B, n, D, h1, h3, h5⟩ := h
  exact ⟨B, n, D, h1, MapI_same h3 (hc.block B (MapI_lt h3) (fun h => h)), h5⟩
theorem MR0.made (w : World) (hb : base ≤ w.heap.size) : MR0 kvs k base (.map (some w.heap.size)) (c + 1) (w.alloc (.map #[] 0)) :=
  ⟨_, 0, _, rfl, hb, mapI_made w, by omega, fun _ => rfl⟩
theorem MR0.ins (h : MR0 kvs k base v c w) (hc : c < 100) (hk : (Lit.int .i64 kv.1).wf = true) (hv : (Lit.int .i64 kv.2).wf = true) (hmem : kv ∈ kvs) :
    ∃ w', (Instr.mapUpdate 359 v (.int .i64 kv.1) (.int .i64 kv.2)).run Tryz.prog w = .ok () w' ∧ MRi kv v w' ∧ Chg (fun b => base ≤ b) w w' ∧
      (∀ v' c', MR0 kvs k base v' c' w → c' ≤ c → MR0 kvs k base v' (c + 1) w') ∧ (∀ kv' v', kv'.1 ≠ kv.1 → MRi kv' v' w → MRi kv' v' w') ∧ ∃ B n D, MapI w B n D ∧ w.grownBy w' (some B) := by
  obtain ⟨B, n, D, rfl, h2, h3, h4, h5⟩ := h
  obtain ⟨w', hrun, hm, hg⟩ := ins_run h3 kv.1 kv.2 hk hv (by omega)
  have hC : Chg (fun b => base ≤ b) w w' := (Chg.refl _ w).grown hg (fun k hk _ => by injection hk with hk; omega)
  refine ⟨w', hrun, ⟨B, _, _, rfl, hm, ?_⟩, hC, ?_, ?_, B, n, D, h3, hg⟩
  · exact atKey_put_same (k := K_ kv.1) (MapI_isMap h3) (show WideAt.IsKeyLit (K_ kv.1) from trivial) _ _
  · rintro v' c' ⟨B', n', D', g1, g2, g3, g4, g5⟩ hc'
    rcases Classical.em (B' = B) with e | e
    · subst e
      have hD := MapI_det h3 g3
      subst hD
      refine ⟨B', _, _, g1, g2, hm, by omega, fun hno => ?_⟩
      rw [atKey_put_other (fun he => hno kv hmem (Lit.int.inj he).2.symm)]
      exact g5 hno
    · exact ⟨B', n', D', g1, g2, MapI_same g3 (hg.block B' (MapI_lt g3) (fun he => e (by injection he))), by omega, g5⟩
  · rintro kv' v' hne ⟨B', n', D', g1, g3, g5⟩
    rcases Classical.em (B' = B) with e | e
    · subst e
      have hD := MapI_det h3 g3
      subst hD
      refine ⟨B', _, _, g1, hm, ?_⟩
      rw [atKey_put_other (fun he => hne (Lit.int.inj he).2)]
      exact g5
    · exact ⟨B', n', D', g1, MapI_same g3 (hg.block B' (MapI_lt g3) (fun he => e (by injection he))), g5⟩
theorem MRt.mk (h0 : MR0 kvs k base v c w) (h : ∀ kv, kv ∈ kvs → MRi kv v w) : MRt kvs k v w := by
  obtain ⟨B, n, D, rfl, h2, h3, h4, h5⟩ := h0
  refine ⟨B, n, D, rfl, h3, ?_⟩
  unfold tbl
  cases hf : kvs.find? (fun p => p.1 == k) with
  | none =>
    have := List.find?_eq_none.1 hf
    exact h5 (fun p hp e => this p hp (by simp [e]))
  | some p =>
    have hp := List.find?_some hf
    simp only [beq_iff_eq] at hp
    obtain ⟨B', n', D', g1, g3, g5⟩ := h p (List.mem_of_find?_eq_some hf)
    injection g1 with g1
    injection g1 with g1
    subst g1
    have hD := MapI_det h3 g3
    subst hD
    rw [← hp]
    exact g5
theorem MRt.look (h : MRt kvs k v w) (hk : (Lit.int .i64 k).wf = true) : (Instr.lookup 359 v (.int .i64 k) false).run Tryz.prog w = .ok (.int .i64 (tbl kvs k)) w := by
  obtain ⟨B, n, D, rfl, h3, h5⟩ := h
  obtain ⟨c, h1, h2⟩ := look_run h3 k hk
  have h6 := h5.symm.trans h2
  have h7 : tbl kvs k = c := (Lit.int.inj (DataW.lit.inj h6)).2
  rw [h7]
  exact h1
end
end Go.Proofs.S
namespace Go.Proofs.S
open Go.RowKit Go.Maps
theorem boolSize' (k : Int) : ∃ b : Int, (b = if k = 0 ∨ k = 1 ∨ 18 ≤ k then 1 else 0) ∧ ∀ w, Calls Tryz.prog 218 #[.int .i64 k] w fun e w' => e = .returned (.int .i64 b) ∧ w' = w := by
  refine ⟨_, rfl, fun w => ?_⟩
  rcases Classical.em (k = 0 ∨ k = 1 ∨ 18 ≤ k) with h | h
  · rw [if_pos h]
    rcases h with rfl | rfl | h
    all_goals
      go_enter Tryz.func218, Tryz.ntmps218
      go_wp2
    all_goals (go_ret; exact ⟨rfl, rfl⟩)
  · rw [if_neg h]
    have h0 : (k == 0) = false := by rw [beq_eq_false_iff_ne]; omega
    have h1 : (k == 1) = false := by rw [beq_eq_false_iff_ne]; omega
    have h2 : ¬ k ≥ 18 := by omega
    clear h
    go_enter Tryz.func218, Tryz.ntmps218
    go_wp2
    go_ret
    exact ⟨rfl, rfl⟩
def fixedKv : List (Int × Int) := [(2, 1), (6, 1), (3, 2), (7, 2), (4, 4), (8, 4), (10, 4), (12, 4), (15, 4), (5, 8), (9, 8), (11, 8), (13, 8), (16, 8), (14, 16), (17, 16)]
def RF (base : Nat) (k b : Int) (i : Nat) (v : Value) (m : Nat → Value) (c : Nat) (w : World) : Prop :=
  match i with
  | 0 => MR0 fixedKv k base v c w
  | 17 => MRt fixedKv k v w
  | 18 => v = .int .i64 k
  | 19 => v = .int .i64 (tbl fixedKv k)
  | 20 => v = .int .i64 k
  | 21 => v = .int .i64 b
  | 22 => v = .int .i64 (IntKind.i64.wrap (tbl fixedKv k - b))
  | 23 => v = .int .i64 (IntKind.i64.wrap (tbl fixedKv k - b))
  | i => MRi (fixedKv.getD (i - 1) (0, 0)) (m 0) w
theorem RF_ext {base : Nat} {k b : Int} {i : Nat} {v : Value} {m : Nat → Value} {c : Nat} {w w' : World} (h : RF base k b i v m c w) (hc : Chg (fun _ => False) w w') : RF base k b i v m (c + 1) w' := by
  unfold RF at h ⊢
  split
  case h_1 => exact MR0.ext h hc
  case h_2 => exact MRt.ext h hc
  case h_9 => 
    split at h
    case h_9 => exact MRi.ext h hc
    all_goals (rename_i h1 h2 h3 h4 h5 h6 h7 h8; first | exact absurd rfl h1 | exact absurd rfl h2 | exact absurd rfl h3 | exact absurd rfl h4 | exact absurd rfl h5 | exact absurd rfl h6 | exact absurd rfl h7 | exact absurd rfl h8)
  all_goals exact h
theorem keyNe : ∀ i j : Nat, i ≠ j → i ≠ 0 → 1 ≤ j → j ≤ 16 → (fixedKv.getD (i - 1) (0, 0)).1 ≠ (fixedKv.getD (j - 1) (0, 0)).1 := by
  intro i j hne h0 h1 h2
  rcases Nat.lt_or_ge i 17 with hi | hi
  · have key : ∀ a : Fin 17, ∀ b : Fin 17, a ≠ b → a.val ≠ 0 → b.val ≠ 0 → (fixedKv.getD (a.val - 1) (0, 0)).1 ≠ (fixedKv.getD (b.val - 1) (0, 0)).1 := by decide
    exact key ⟨i, hi⟩ ⟨j, by omega⟩ (fun e => hne (Fin.mk.inj e)) h0 (by show j ≠ 0; omega)
  · have key : ∀ b : Fin 17, b.val ≠ 0 → (0 : Int) ≠ (fixedKv.getD (b.val - 1) (0, 0)).1 := by decide
    have hd : fixedKv.getD (i - 1) (0, 0) = (0, 0) := by
      rw [List.getD_eq_getElem?_getD, List.getElem?_eq_none (by show 16 ≤ i - 1; omega)]; rfl
    rw [hd]
    exact key ⟨j, by omega⟩ (by show j ≠ 0; omega)
theorem RF_keep {base : Nat} {k b : Int} {w w' : World} {c j : Nat} (hk0 : ∀ v' c', MR0 fixedKv k base v' c' w → c' ≤ c → MR0 fixedKv k base v' (c + 1) w') (hki : ∀ kv' v', kv'.1 ≠ (fixedKv.getD (j - 1) (0, 0)).1 → MRi kv' v' w → MRi kv' v' w') (hj1 : 1 ≤ j) (hj2 : j ≤ 16)
    {i : Nat} {u : Value} {m : Nat → Value} (hne : i ≠ j) (h17 : i ≠ 17) (h : RF base k b i u m c w) : RF base k b i u m (c + 1) w' := by
  unfold RF at h ⊢
  split
  case h_1 => exact hk0 _ _ h (Nat.le_refl _)
  case h_2 => exact absurd rfl h17
  case h_9 =>
    split at h
    case h_9 => exact hki _ _ (keyNe _ _ hne (by assumption) hj1 hj2) h
    all_goals (rename_i h1 h2 h3 h4 h5 h6 h7 h8; first | exact absurd rfl h1 | exact absurd rfl h2 | exact absurd rfl h3 | exact absurd rfl h4 | exact absurd rfl h5 | exact absurd rfl h6 | exact absurd rfl h7 | exact absurd rfl h8)
  all_goals exact h
set_option maxHeartbeats 4000000 in
set_option maxRecDepth 100000 in
theorem fixed_any (k : Int) (hk : (Lit.int .i64 k).wf = true) (w : World) : Calls Tryz.prog 176 #[.int .i64 k] w fun e w' => e = .returned (.int .i64 (IntKind.i64.wrap (tbl fixedKv k - if k = 0 ∨ k = 1 ∨ 18 ≤ k then 1 else 0))) ∧ Chg (fun _ => False) w w' := by
  obtain ⟨b, hb, hcb⟩ := boolSize' k
  rw [← hb]
  clear hb
  have HCB := Lib.hid hcb; clear hcb
  go_enter Tryz.func176, Tryz.ntmps176
  go_wp2_with fail
  refine wp_region_rel (RF w.heap.size k b) (fun w' => Chg (fun _ => False) w w') [23] (by kernel_rfl) (by kernel_rfl) (by kernel_rfl) (by kernel_rfl) ((Chg.refl _ w).drewN 1) ?steps ?fin
  case fin =>
    intro vals c w' hC hfin
    have h23 : vals 23 = .int .i64 (IntKind.i64.wrap (tbl fixedKv k - b)) := hfin 23 rfl (by decide)
    clear hfin
    have H23 := Lib.hid h23; clear h23
    simp only [putAll, Act.put, List.setIfInBounds_toArray, List.set_cons_zero, List.set_cons_succ, Nat.reduceAdd]
    go_wp2
    go_ret
    exact ⟨by rw [← H23.out]; rfl, hC⟩
  case steps =>
    refine ⟨⟨rfl, ?_⟩, ⟨rfl, ?_⟩, ⟨rfl, ?_⟩, ⟨rfl, ?_⟩, ⟨rfl, ?_⟩, ⟨rfl, ?_⟩, ⟨rfl, ?_⟩, ⟨rfl, ?_⟩, ⟨rfl, ?_⟩, ⟨rfl, ?_⟩, ⟨rfl, ?_⟩, ⟨rfl, ?_⟩, ⟨rfl, ?_⟩, ⟨rfl, ?_⟩, ⟨rfl, ?_⟩, ⟨rfl, ?_⟩, ⟨rfl, ?_⟩, ⟨rfl, ?_⟩, ⟨rfl, ?_⟩, ⟨rfl, ?_⟩, ⟨rfl, ?_⟩, ⟨rfl, ?_⟩, ⟨rfl, ?_⟩, ⟨rfl, ?_⟩, trivial⟩
    all_goals (intro vals ev c w1 hc hI hR hv h0 hcst hfn hgl)
    · exact does_value' rfl ⟨MR0.made w1 hI.size, hI.alloc _, fun i u m _ _ h => RF_ext h ((Chg.refl _ _).alloc _)⟩
    · obtain ⟨w', hrun, hi, hC, hk0, hki, _⟩ := MR0.ins (kv := (2, 1)) (hR 0 (by kernel_rfl)) (by have : c < 24 := hc; omega) rfl rfl (by decide)
      have e3 : ev (.tmp 3) = vals 0 := hv 0 3 (by kernel_rfl) (by kernel_rfl) (Nat.le_of_ble_eq_true (by kernel_rfl))
      refine does_skip (w' := w') (by simp only [execOp, e3, hcst, Sem.run_bind, hrun, Result.andThen_ok, Sem.run_pure]) ⟨?_, hI.trans hC (fun i hi h => absurd hi (Nat.not_lt.2 h)), fun i u m hne hk h => RF_keep (j := 1) hk0 hki (by decide) (by decide) hne (by rintro rfl; exact Bool.noConfusion (hk.symm.trans (by kernel_rfl : keepB _ _ _ _ _ = false))) h⟩
      show MRi (2, 1) (mask _ _ _ _ 0) w'
      rw [mask_eq]
      · exact hi
      · kernel_rfl
    · obtain ⟨w', hrun, hi, hC, hk0, hki, _⟩ := MR0.ins (kv := (6, 1)) (hR 0 (by kernel_rfl)) (by have : c < 24 := hc; omega) rfl rfl (by decide)
      have e3 : ev (.tmp 3) = vals 0 := hv 0 3 (by kernel_rfl) (by kernel_rfl) (Nat.le_of_ble_eq_true (by kernel_rfl))
      refine does_skip (w' := w') (by simp only [execOp, e3, hcst, Sem.run_bind, hrun, Result.andThen_ok, Sem.run_pure]) ⟨?_, hI.trans hC (fun i hi h => absurd hi (Nat.not_lt.2 h)), fun i u m hne hk h => RF_keep (j := 2) hk0 hki (by decide) (by decide) hne (by rintro rfl; exact Bool.noConfusion (hk.symm.trans (by kernel_rfl : keepB _ _ _ _ _ = false))) h⟩
      show MRi (6, 1) (mask _ _ _ _ 0) w'
      rw [mask_eq]
      · exact hi
      · kernel_rfl
    · obtain ⟨w', hrun, hi, hC, hk0, hki, _⟩ := MR0.ins (kv := (3, 2)) (hR 0 (by kernel_rfl)) (by have : c < 24 := hc; omega) rfl rfl (by decide)
      have e3 : ev (.tmp 3) = vals 0 := hv 0 3 (by kernel_rfl) (by kernel_rfl) (Nat.le_of_ble_eq_true (by kernel_rfl))
      refine does_skip (w' := w') (by simp only [execOp, e3, hcst, Sem.run_bind, hrun, Result.andThen_ok, Sem.run_pure]) ⟨?_, hI.trans hC (fun i hi h => absurd hi (Nat.not_lt.2 h)), fun i u m hne hk h => RF_keep (j := 3) hk0 hki (by decide) (by decide) hne (by rintro rfl; exact Bool.noConfusion (hk.symm.trans (by kernel_rfl : keepB _ _ _ _ _ = false))) h⟩
      show MRi (3, 2) (mask _ _ _ _ 0) w'
      rw [mask_eq]
      · exact hi
      · kernel_rfl
    · obtain ⟨w', hrun, hi, hC, hk0, hki, _⟩ := MR0.ins (kv := (7, 2)) (hR 0 (by kernel_rfl)) (by have : c < 24 := hc; omega) rfl rfl (by decide)
      have e3 : ev (.tmp 3) = vals 0 := hv 0 3 (by kernel_rfl) (by kernel_rfl) (Nat.le_of_ble_eq_true (by kernel_rfl))
      refine does_skip (w' := w') (by simp only [execOp, e3, hcst, Sem.run_bind, hrun, Result.andThen_ok, Sem.run_pure]) ⟨?_, hI.trans hC (fun i hi h => absurd hi (Nat.not_lt.2 h)), fun i u m hne hk h => RF_keep (j := 4) hk0 hki (by decide) (by decide) hne (by rintro rfl; exact Bool.noConfusion (hk.symm.trans (by kernel_rfl : keepB _ _ _ _ _ = false))) h⟩
      show MRi (7, 2) (mask _ _ _ _ 0) w'
      rw [mask_eq]
      · exact hi
      · kernel_rfl
    · obtain ⟨w', hrun, hi, hC, hk0, hki, _⟩ := MR0.ins (kv := (4, 4)) (hR 0 (by kernel_rfl)) (by have : c < 24 := hc; omega) rfl rfl (by decide)
      have e3 : ev (.tmp 3) = vals 0 := hv 0 3 (by kernel_rfl) (by kernel_rfl) (Nat.le_of_ble_eq_true (by kernel_rfl))
      refine does_skip (w' := w') (by simp only [execOp, e3, hcst, Sem.run_bind, hrun, Result.andThen_ok, Sem.run_pure]) ⟨?_, hI.trans hC (fun i hi h => absurd hi (Nat.not_lt.2 h)), fun i u m hne hk h => RF_keep (j := 5) hk0 hki (by decide) (by decide) hne (by rintro rfl; exact Bool.noConfusion (hk.symm.trans (by kernel_rfl : keepB _ _ _ _ _ = false))) h⟩
      show MRi (4, 4) (mask _ _ _ _ 0) w'
      rw [mask_eq]
      · exact hi
      · kernel_rfl
    · obtain ⟨w', hrun, hi, hC, hk0, hki, _⟩ := MR0.ins (kv := (8, 4)) (hR 0 (by kernel_rfl)) (by have : c < 24 := hc; omega) rfl rfl (by decide)
      have e3 : ev (.tmp 3) = vals 0 := hv 0 3 (by kernel_rfl) (by kernel_rfl) (Nat.le_of_ble_eq_true (by kernel_rfl))
      refine does_skip (w' := w') (by simp only [execOp, e3, hcst, Sem.run_bind, hrun, Result.andThen_ok, Sem.run_pure]) ⟨?_, hI.trans hC (fun i hi h => absurd hi (Nat.not_lt.2 h)), fun i u m hne hk h => RF_keep (j := 6) hk0 hki (by decide) (by decide) hne (by rintro rfl; exact Bool.noConfusion (hk.symm.trans (by kernel_rfl : keepB _ _ _ _ _ = false))) h⟩
      show MRi (8, 4) (mask _ _ _ _ 0) w'
      rw [mask_eq]
      · exact hi
      · kernel_rfl
    · obtain ⟨w', hrun, hi, hC, hk0, hki, _⟩ := MR0.ins (kv := (10, 4)) (hR 0 (by kernel_rfl)) (by have : c < 24 := hc; omega) rfl rfl (by decide)
      have e3 : ev (.tmp 3) = vals 0 := hv 0 3 (by kernel_rfl) (by kernel_rfl) (Nat.le_of_ble_eq_true (by kernel_rfl))
      refine does_skip (w' := w') (by simp only [execOp, e3, hcst, Sem.run_bind, hrun, Result.andThen_ok, Sem.run_pure]) ⟨?_, hI.trans hC (fun i hi h => absurd hi (Nat.not_lt.2 h)), fun i u m hne hk h => RF_keep (j := 7) hk0 hki (by decide) (by decide) hne (by rintro rfl; exact Bool.noConfusion (hk.symm.trans (by kernel_rfl : keepB _ _ _ _ _ = false))) h⟩
      show MRi (10, 4) (mask _ _ _ _ 0) w'
      rw [mask_eq]
      · exact hi
      · kernel_rfl
    · obtain ⟨w', hrun, hi, hC, hk0, hki, _⟩ := MR0.ins (kv := (12, 4)) (hR 0 (by kernel_rfl)) (by have : c < 24 := hc; omega) rfl rfl (by decide)
      have e3 : ev (.tmp 3) = vals 0 := hv 0 3 (by kernel_rfl) (by kernel_rfl) (Nat.le_of_ble_eq_true (by kernel_rfl))
      refine does_skip (w' := w') (by simp only [execOp, e3, hcst, Sem.run_bind, hrun, Result.andThen_ok, Sem.run_pure]) ⟨?_, hI.trans hC (fun i hi h => absurd hi (Nat.not_lt.2 h)), fun i u m hne hk h => RF_keep (j := 8) hk0 hki (by decide) (by decide) hne (by rintro rfl; exact Bool.noConfusion (hk.symm.trans (by kernel_rfl : keepB _ _ _ _ _ = false))) h⟩
      show MRi (12, 4) (mask _ _ _ _ 0) w'
      rw [mask_eq]
      · exact hi
      · kernel_rfl
    · obtain ⟨w', hrun, hi, hC, hk0, hki, _⟩ := MR0.ins (kv := (15, 4)) (hR 0 (by kernel_rfl)) (by have : c < 24 := hc; omega) rfl rfl (by decide)
      have e3 : ev (.tmp 3) = vals 0 := hv 0 3 (by kernel_rfl) (by kernel_rfl) (Nat.le_of_ble_eq_true (by kernel_rfl))
      refine does_skip (w' := w') (by simp only [execOp, e3, hcst, Sem.run_bind, hrun, Result.andThen_ok, Sem.run_pure]) ⟨?_, hI.trans hC (fun i hi h => absurd hi (Nat.not_lt.2 h)), fun i u m hne hk h => RF_keep (j := 9) hk0 hki (by decide) (by decide) hne (by rintro rfl; exact Bool.noConfusion (hk.symm.trans (by kernel_rfl : keepB _ _ _ _ _ = false))) h⟩
      show MRi (15, 4) (mask _ _ _ _ 0) w'
      rw [mask_eq]
      · exact hi
      · kernel_rfl
    · obtain ⟨w', hrun, hi, hC, hk0, hki, _⟩ := MR0.ins (kv := (5, 8)) (hR 0 (by kernel_rfl)) (by have : c < 24 := hc; omega) rfl rfl (by decide)
      have e3 : ev (.tmp 3) = vals 0 := hv 0 3 (by kernel_rfl) (by kernel_rfl) (Nat.le_of_ble_eq_true (by kernel_rfl))
      refine does_skip (w' := w') (by simp only [execOp, e3, hcst, Sem.run_bind, hrun, Result.andThen_ok, Sem.run_pure]) ⟨?_, hI.trans hC (fun i hi h => absurd hi (Nat.not_lt.2 h)), fun i u m hne hk h => RF_keep (j := 10) hk0 hki (by decide) (by decide) hne (by rintro rfl; exact Bool.noConfusion (hk.symm.trans (by kernel_rfl : keepB _ _ _ _ _ = false))) h⟩
      show MRi (5, 8) (mask _ _ _ _ 0) w'
      rw [mask_eq]
      · exact hi
      · kernel_rfl
    · obtain ⟨w', hrun, hi, hC, hk0, hki, _⟩ := MR0.ins (kv := (9, 8)) (hR 0 (by kernel_rfl)) (by have : c < 24 := hc; omega) rfl rfl (by decide)
      have e3 : ev (.tmp 3) = vals 0 := hv 0 3 (by kernel_rfl) (by kernel_rfl) (Nat.le_of_ble_eq_true (by kernel_rfl))
      refine does_skip (w' := w') (by simp only [execOp, e3, hcst, Sem.run_bind, hrun, Result.andThen_ok, Sem.run_pure]) ⟨?_, hI.trans hC (fun i hi h => absurd hi (Nat.not_lt.2 h)), fun i u m hne hk h => RF_keep (j := 11) hk0 hki (by decide) (by decide) hne (by rintro rfl; exact Bool.noConfusion (hk.symm.trans (by kernel_rfl : keepB _ _ _ _ _ = false))) h⟩
      show MRi (9, 8) (mask _ _ _ _ 0) w'
      rw [mask_eq]
      · exact hi
      · kernel_rfl
    · obtain ⟨w', hrun, hi, hC, hk0, hki, _⟩ := MR0.ins (kv := (11, 8)) (hR 0 (by kernel_rfl)) (by have : c < 24 := hc; omega) rfl rfl (by decide)
      have e3 : ev (.tmp 3) = vals 0 := hv 0 3 (by kernel_rfl) (by kernel_rfl) (Nat.le_of_ble_eq_true (by kernel_rfl))
      refine does_skip (w' := w') (by simp only [execOp, e3, hcst, Sem.run_bind, hrun, Result.andThen_ok, Sem.run_pure]) ⟨?_, hI.trans hC (fun i hi h => absurd hi (Nat.not_lt.2 h)), fun i u m hne hk h => RF_keep (j := 12) hk0 hki (by decide) (by decide) hne (by rintro rfl; exact Bool.noConfusion (hk.symm.trans (by kernel_rfl : keepB _ _ _ _ _ = false))) h⟩
      show MRi (11, 8) (mask _ _ _ _ 0) w'
      rw [mask_eq]
      · exact hi
      · kernel_rfl
    · obtain ⟨w', hrun, hi, hC, hk0, hki, _⟩ := MR0.ins (kv := (13, 8)) (hR 0 (by kernel_rfl)) (by have : c < 24 := hc; omega) rfl rfl (by decide)
      have e3 : ev (.tmp 3) = vals 0 := hv 0 3 (by kernel_rfl) (by kernel_rfl) (Nat.le_of_ble_eq_true (by kernel_rfl))
      refine does_skip (w' := w') (by simp only [execOp, e3, hcst, Sem.run_bind, hrun, Result.andThen_ok, Sem.run_pure]) ⟨?_, hI.trans hC (fun i hi h => absurd hi (Nat.not_lt.2 h)), fun i u m hne hk h => RF_keep (j := 13) hk0 hki (by decide) (by decide) hne (by rintro rfl; exact Bool.noConfusion (hk.symm.trans (by kernel_rfl : keepB _ _ _ _ _ = false))) h⟩
      show MRi (13, 8) (mask _ _ _ _ 0) w'
      rw [mask_eq]
      · exact hi
      · kernel_rfl
    · obtain ⟨w', hrun, hi, hC, hk0, hki, _⟩ := MR0.ins (kv := (16, 8)) (hR 0 (by kernel_rfl)) (by have : c < 24 := hc; omega) rfl rfl (by decide)
      have e3 : ev (.tmp 3) = vals 0 := hv 0 3 (by kernel_rfl) (by kernel_rfl) (Nat.le_of_ble_eq_true (by kernel_rfl))
      refine does_skip (w' := w') (by simp only [execOp, e3, hcst, Sem.run_bind, hrun, Result.andThen_ok, Sem.run_pure]) ⟨?_, hI.trans hC (fun i hi h => absurd hi (Nat.not_lt.2 h)), fun i u m hne hk h => RF_keep (j := 14) hk0 hki (by decide) (by decide) hne (by rintro rfl; exact Bool.noConfusion (hk.symm.trans (by kernel_rfl : keepB _ _ _ _ _ = false))) h⟩
      show MRi (16, 8) (mask _ _ _ _ 0) w'
      rw [mask_eq]
      · exact hi
      · kernel_rfl
    · obtain ⟨w', hrun, hi, hC, hk0, hki, _⟩ := MR0.ins (kv := (14, 16)) (hR 0 (by kernel_rfl)) (by have : c < 24 := hc; omega) rfl rfl (by decide)
      have e3 : ev (.tmp 3) = vals 0 := hv 0 3 (by kernel_rfl) (by kernel_rfl) (Nat.le_of_ble_eq_true (by kernel_rfl))
      refine does_skip (w' := w') (by simp only [execOp, e3, hcst, Sem.run_bind, hrun, Result.andThen_ok, Sem.run_pure]) ⟨?_, hI.trans hC (fun i hi h => absurd hi (Nat.not_lt.2 h)), fun i u m hne hk h => RF_keep (j := 15) hk0 hki (by decide) (by decide) hne (by rintro rfl; exact Bool.noConfusion (hk.symm.trans (by kernel_rfl : keepB _ _ _ _ _ = false))) h⟩
      show MRi (14, 16) (mask _ _ _ _ 0) w'
      rw [mask_eq]
      · exact hi
      · kernel_rfl
    · obtain ⟨w', hrun, hi, hC, hk0, hki, _⟩ := MR0.ins (kv := (17, 16)) (hR 0 (by kernel_rfl)) (by have : c < 24 := hc; omega) rfl rfl (by decide)
      have e3 : ev (.tmp 3) = vals 0 := hv 0 3 (by kernel_rfl) (by kernel_rfl) (Nat.le_of_ble_eq_true (by kernel_rfl))
      refine does_skip (w' := w') (by simp only [execOp, e3, hcst, Sem.run_bind, hrun, Result.andThen_ok, Sem.run_pure]) ⟨?_, hI.trans hC (fun i hi h => absurd hi (Nat.not_lt.2 h)), fun i u m hne hk h => RF_keep (j := 16) hk0 hki (by decide) (by decide) hne (by rintro rfl; exact Bool.noConfusion (hk.symm.trans (by kernel_rfl : keepB _ _ _ _ _ = false))) h⟩
      show MRi (17, 16) (mask _ _ _ _ 0) w'
      rw [mask_eq]
      · exact hi
      · kernel_rfl
    · have e3 : ev (.tmp 3) = vals 0 := hv 0 3 (by kernel_rfl) (by kernel_rfl) (Nat.le_of_ble_eq_true (by kernel_rfl))
      refine does_value rfl ⟨?_, hI, fun i u m _ _ h => RF_ext h (Chg.refl _ _)⟩
      rw [e3]
      refine MRt.mk (hR 0 (by kernel_rfl)) (fun kv hkv => ?_)
      simp only [fixedKv, List.mem_cons, List.not_mem_nil, or_false] at hkv
      rcases hkv with rfl | rfl | rfl | rfl | rfl | rfl | rfl | rfl | rfl | rfl | rfl | rfl | rfl | rfl | rfl | rfl
      · have h : MRi (2, 1) (mask .any _ 1 vals 0) w1 := hR 1 (by kernel_rfl)
        rw [mask_eq] at h
        · exact h
        · kernel_rfl
      · have h : MRi (6, 1) (mask .any _ 2 vals 0) w1 := hR 2 (by kernel_rfl)
        rw [mask_eq] at h
        · exact h
        · kernel_rfl
      · have h : MRi (3, 2) (mask .any _ 3 vals 0) w1 := hR 3 (by kernel_rfl)
        rw [mask_eq] at h
        · exact h
        · kernel_rfl
      · have h : MRi (7, 2) (mask .any _ 4 vals 0) w1 := hR 4 (by kernel_rfl)
        rw [mask_eq] at h
        · exact h
        · kernel_rfl
      · have h : MRi (4, 4) (mask .any _ 5 vals 0) w1 := hR 5 (by kernel_rfl)
        rw [mask_eq] at h
        · exact h
        · kernel_rfl
      · have h : MRi (8, 4) (mask .any _ 6 vals 0) w1 := hR 6 (by kernel_rfl)
        rw [mask_eq] at h
        · exact h
        · kernel_rfl
      · have h : MRi (10, 4) (mask .any _ 7 vals 0) w1 := hR 7 (by kernel_rfl)
        rw [mask_eq] at h
        · exact h
        · kernel_rfl
      · have h : MRi (12, 4) (mask .any _ 8 vals 0) w1 := hR 8 (by kernel_rfl)
        rw [mask_eq] at h
        · exact h
        · kernel_rfl
      · have h : MRi (15, 4) (mask .any _ 9 vals 0) w1 := hR 9 (by kernel_rfl)
        rw [mask_eq] at h
        · exact h
        · kernel_rfl
      · have h : MRi (5, 8) (mask .any _ 10 vals 0) w1 := hR 10 (by kernel_rfl)
        rw [mask_eq] at h
        · exact h
        · kernel_rfl
      · have h : MRi (9, 8) (mask .any _ 11 vals 0) w1 := hR 11 (by kernel_rfl)
        rw [mask_eq] at h
        · exact h
        · kernel_rfl
      · have h : MRi (11, 8) (mask .any _ 12 vals 0) w1 := hR 12 (by kernel_rfl)
        rw [mask_eq] at h
        · exact h
        · kernel_rfl
      · have h : MRi (13, 8) (mask .any _ 13 vals 0) w1 := hR 13 (by kernel_rfl)
        rw [mask_eq] at h
        · exact h
        · kernel_rfl
      · have h : MRi (16, 8) (mask .any _ 14 vals 0) w1 := hR 14 (by kernel_rfl)
        rw [mask_eq] at h
        · exact h
        · kernel_rfl
      · have h : MRi (14, 16) (mask .any _ 15 vals 0) w1 := hR 15 (by kernel_rfl)
        rw [mask_eq] at h
        · exact h
        · kernel_rfl
      · have h : MRi (17, 16) (mask .any _ 16 vals 0) w1 := hR 16 (by kernel_rfl)
        rw [mask_eq] at h
        · exact h
        · kernel_rfl
    · exact does_value rfl ⟨(h0 0 (by kernel_rfl) : ev (.tmp 0) = .int .i64 k), hI, fun i u m _ _ h => RF_ext h (Chg.refl _ _)⟩
    · have e4 : ev (.tmp 4) = vals 17 := hv 17 4 (by kernel_rfl) (by kernel_rfl) (Nat.le_of_ble_eq_true (by kernel_rfl))
      have e5 : ev (.tmp 5) = .int .i64 k := (hv 18 5 (by kernel_rfl) (by kernel_rfl) (Nat.le_of_ble_eq_true (by kernel_rfl))).trans (hR 18 (by kernel_rfl))
      exact does_value (by simp only [execOp, e4, e5, Sem.run_bind, MRt.look (hR 17 (by kernel_rfl)) hk, Result.andThen_ok, Sem.run_pure]) ⟨rfl, hI, fun i u m _ _ h => RF_ext h (Chg.refl _ _)⟩
    · exact does_value rfl ⟨(h0 0 (by kernel_rfl) : ev (.tmp 0) = .int .i64 k), hI, fun i u m _ _ h => RF_ext h (Chg.refl _ _)⟩
    · have e7 : ev (.tmp 7) = .int .i64 k := (hv 20 7 (by kernel_rfl) (by kernel_rfl) (Nat.le_of_ble_eq_true (by kernel_rfl))).trans (hR 20 (by kernel_rfl))
      have hf := hfn 218
      unfold OpDoes
      go_simp
      refine (HCB.out w1).mono ?_
      rintro e w2 ⟨rfl, rfl⟩
      exact ⟨_, rfl, rfl, hI, fun i u m _ _ h => RF_ext h (Chg.refl _ _)⟩
    · have e6 : ev (.tmp 6) = .int .i64 (tbl fixedKv k) := (hv 19 6 (by kernel_rfl) (by kernel_rfl) (Nat.le_of_ble_eq_true (by kernel_rfl))).trans (hR 19 (by kernel_rfl))
      have e8 : ev (.tmp 8) = .int .i64 b := (hv 21 8 (by kernel_rfl) (by kernel_rfl) (Nat.le_of_ble_eq_true (by kernel_rfl))).trans (hR 21 (by kernel_rfl))
      unfold OpDoes
      go_simp
      exact ⟨rfl, fun i u m _ _ h => RF_ext h (Chg.refl _ _)⟩
    · exact does_value rfl ⟨((hv 22 9 (by kernel_rfl) (by kernel_rfl) (Nat.le_of_ble_eq_true (by kernel_rfl))).trans (hR 22 (by kernel_rfl)) : ev (.tmp 9) = _), hI, fun i u m _ _ h => RF_ext h (Chg.refl _ _)⟩
end Go.Proofs.S
