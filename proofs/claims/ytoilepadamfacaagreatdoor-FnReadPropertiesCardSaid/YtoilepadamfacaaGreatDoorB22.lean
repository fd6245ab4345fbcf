/- What stands in the cells of the read fields, one after the other: for rows of distinct blocks. -/
import Derived.Test.YtoilepadamfacaaGreatDoorB21
import Derived.Deep.RegionHeld3
import Derived.Deep.DeepCutAuto
set_option linter.unusedVariables false
set_option linter.unusedSimpArgs false
namespace Go.Proofs.S
open Go.RowKit
/-- A field of the thin package's properties, made by the call. -/
def ResAt (base : Nat) : PF → World → Value → Prop
  | .nul, _, v => v = .slice none 0 0
  | .bin l, w, v => Own8 w base v l
  | .text l, w, v => OneV base 9 (.string ⟨l.toArray⟩) w v
  | .u32 q, w, v => OneV base 45 (.int .u32 (q : Int)) w v
  | .time ms, w, v => OneV base 2 (.int .i64 ms) w v
  | .id k, w, v => ∃ g, v = .slice (some ⟨g, 0, none⟩) 1 1 ∧ base ≤ g ∧ ∃ kd n x, w.heap[g]? = some (.cells #[.int .i64 kd, .int .u64 n, .string x, .slice none 0 0, .int .i64 0, .slice none 0 0] 81 (0, 0)) ∧
      (match k with | .ulong k => kd = 5 ∧ n = (k : Int) ∧ x = ⟨#[]⟩ | .uuid l => kd = 17 ∧ n = 0 ∧ x = ⟨l.toArray⟩ ∧ l.length = 16 | .bin l => kd = 18 ∧ n = 0 ∧ x = ⟨l.toArray⟩ | .text l => kd = 19 ∧ n = 0 ∧ x = ⟨l.toArray⟩)
theorem OneV.chg {base base' : Nat} {t : TypeId} {x : Value} {w w' : World} {v : Value} {X : Nat → Prop} (h : OneV base t x w v) (hc : Chg X w w') (hb : base' ≤ base) (hX : ∀ k, X k → k < base) : OneV base' t x w' v := by
  obtain ⟨g, rfl, hg, hh⟩ := h
  exact ⟨g, rfl, Nat.le_trans hb hg, hc.blk hh (fun hx => by have := hX g hx; omega)⟩
theorem ResAt.chg {base base' : Nat} {f : PF} {w w' : World} {v : Value} {X : Nat → Prop} (h : ResAt base f w v) (hc : Chg X w w') (hb : base' ≤ base) (hX : ∀ k, X k → k < base) : ResAt base' f w' v := by
  cases f with
  | nul => exact h
  | bin l => exact (Own8.chg h hc hX).base_le hb
  | text l => exact OneV.chg h hc hb hX
  | u32 q => exact OneV.chg h hc hb hX
  | time ms => exact OneV.chg h hc hb hX
  | id k =>
    obtain ⟨g, rfl, hg, kd, n, x, hh, hk⟩ := h
    exact ⟨g, rfl, Nat.le_trans hb hg, kd, n, x, hc.blk hh (fun hx => by have := hX g hx; omega), hk⟩
/-- What has been made so far. -/
structure Acc (base : Nat) (w0 : World) (L : List (PF × Value)) (w : World) : Prop where
  chg : Chg (fun _ => False) w0 w
  res : ∀ p, p ∈ L → ResAt base p.1 w p.2
theorem Acc.nil {base : Nat} {w0 w : World} (h : Chg (fun _ => False) w0 w) : Acc base w0 [] w := ⟨h, fun p hp => by cases hp⟩
theorem Acc.ext {base : Nat} {w0 w w' : World} {L : List (PF × Value)} (h : Acc base w0 L w) (hc : Chg (fun _ => False) w w') : Acc base w0 L w' :=
  ⟨h.chg.reads hc, fun p hp => (h.res p hp).chg hc (Nat.le_refl _) (fun _ h => h.elim)⟩
theorem Acc.snoc {base : Nat} {w0 w w' : World} {L : List (PF × Value)} {f : PF} {v : Value} (h : Acc base w0 L w) (hc : Chg (fun _ => False) w w') (hr : ResAt base f w' v) : Acc base w0 (L ++ [(f, v)]) w' :=
  ⟨h.chg.reads hc, fun p hp => by
    rcases List.mem_append.1 hp with hp | hp
    · exact (h.res p hp).chg hc (Nat.le_refl _) (fun _ h => h.elim)
    · rw [List.mem_singleton.1 hp]; exact hr⟩
theorem few_acc {base base0 : Nat} {w0 w : World} {L : List (PF × Value)} {j : Nat} {f : PF} {v : Value} (ha : Acc base w0 L w) (hp : PAt base0 j f w0 v) (hj : pinit j = .pointer none) (hf : f = .nul ∨ ∃ l, f = .text l) (hb : base ≤ w.heap.size) :
    Calls Tryz.prog 62 #[v] w fun e w' => ∃ A n c, e = .returned (.slice A n c) ∧ Acc base w0 (L ++ [(f, .slice A n c)]) w' ∧ Chg (fun _ => False) w w' := by
  rcases hf with rfl | ⟨l, rfl⟩
  · have hp' : v = .pointer none := by rw [← hj]; exact hp
    subst hp'
    refine (few_string_none w).mono ?_
    rintro e w' ⟨rfl, rfl⟩
    exact ⟨_, _, _, rfl, ha.snoc (Chg.refl _ _) rfl, Chg.refl _ _⟩
  · obtain ⟨g, rfl, hg, hh⟩ := hp
    refine (few_string_one _ g w (ha.chg.blk hh (fun h => h))).mono ?_
    rintro e w' ⟨rfl, rfl⟩
    exact ⟨_, _, _, rfl, ha.snoc ((Chg.refl _ _).alloc _) ⟨_, rfl, hb, heap_alloc_new w _⟩, (Chg.refl _ _).alloc _⟩
theorem few32_acc {base base0 : Nat} {w0 w : World} {L : List (PF × Value)} {j : Nat} {f : PF} {v : Value} (ha : Acc base w0 L w) (hp : PAt base0 j f w0 v) (hj : pinit j = .pointer none) (hf : f = .nul ∨ ∃ q, f = .u32 q) (hb : base ≤ w.heap.size) :
    Calls Tryz.prog 63 #[v] w fun e w' => ∃ A n c, e = .returned (.slice A n c) ∧ Acc base w0 (L ++ [(f, .slice A n c)]) w' ∧ Chg (fun _ => False) w w' := by
  rcases hf with rfl | ⟨l, rfl⟩
  · have hp' : v = .pointer none := by rw [← hj]; exact hp
    subst hp'
    refine (few_u32_none w).mono ?_
    rintro e w' ⟨rfl, rfl⟩
    exact ⟨_, _, _, rfl, ha.snoc (Chg.refl _ _) rfl, Chg.refl _ _⟩
  · obtain ⟨g, rfl, hg, hh⟩ := hp
    refine (few_u32_one _ g w (ha.chg.blk hh (fun h => h))).mono ?_
    rintro e w' ⟨rfl, rfl⟩
    exact ⟨_, _, _, rfl, ha.snoc ((Chg.refl _ _).alloc _) ⟨_, rfl, hb, heap_alloc_new w _⟩, (Chg.refl _ _).alloc _⟩
/-- What stands for a field that has been copied: none, or bytes. -/
def binOf : PF → List UInt8
  | .bin l => l
  | _ => []
theorem copied_acc {base base0 : Nat} {w0 w : World} {L : List (PF × Value)} {f : PF} {v : Value} (ha : Acc base w0 L w) (hp : PAt base0 1 f w0 v) (hf : f = .nul ∨ ∃ l, f = .bin l) (hl : (binOf f).length ≤ 140737488355328) (hb : base ≤ w.heap.size) :
    Calls Tryz.prog 25 #[v] w fun e w' => ∃ A n c, e = .returned (.slice A n c) ∧ Acc base w0 (L ++ [(.bin (binOf f), .slice A n c)]) w' ∧ Chg (fun _ => False) w w' := by
  have hbs : Bs w0 v (binOf f) := by
    rcases hf with rfl | ⟨l, rfl⟩
    · have hp' : v = .slice none 0 0 := hp
      subst hp'
      exact ⟨none, 0, rfl, Nat.le_refl _, fun h => absurd rfl h⟩
    · exact Bs.of_own hp
  refine (copied (hbs.chg ha.chg) hl).mono ?_
  rintro e w' ⟨v', rfl, ho, hc⟩
  obtain ⟨A, c, rfl⟩ := own8_shape ho
  exact ⟨_, _, _, rfl, ha.snoc hc (Own8.base_le ho hb), hc⟩
/-- A block of another type is written. -/
theorem ResAt.far {base : Nat} {f : PF} {w w' : World} {v : Value} {g : Nat} {c : Array Value} (h : ResAt base f w v) (hg : w.heap[g]? = some (.cells c 28 (0, 0))) (hc : Chg (· = g) w w') : ResAt base f w' v := by
  have key : ∀ {k : Nat} {c' : Array Value} {t : TypeId}, w.heap[k]? = some (.cells c' t (0, 0)) → t ≠ 28 → w'.heap[k]? = some (.cells c' t (0, 0)) := by
    intro k c' t hk ht
    refine hc.blk hk (fun e => ?_)
    have e' : k = g := e
    subst e'
    rw [hg] at hk
    injection hk with hk
    injection hk with _ hk _
    exact ht hk.symm
  cases f with
  | nul => exact h
  | bin l =>
    refine ⟨h.1, ?_⟩
    rcases h.2 with h2 | ⟨k, cap, cur, rfl, hb, hh, r⟩
    · exact .inl h2
    · exact .inr ⟨k, cap, cur, rfl, hb, key hh (by decide), r⟩
  | text l =>
    obtain ⟨k, rfl, hb, hh⟩ := h
    exact ⟨k, rfl, hb, key hh (by decide)⟩
  | u32 q =>
    obtain ⟨k, rfl, hb, hh⟩ := h
    exact ⟨k, rfl, hb, key hh (by decide)⟩
  | time ms =>
    obtain ⟨k, rfl, hb, hh⟩ := h
    exact ⟨k, rfl, hb, key hh (by decide)⟩
  | id k =>
    obtain ⟨g', rfl, hb, kd, n, x, hh, hk⟩ := h
    exact ⟨g', rfl, hb, kd, n, x, key hh (by decide), hk⟩
theorem Acc.far {base g : Nat} {w0 w w' : World} {L : List (PF × Value)} {c : Array Value} (h : Acc base w0 L w) (hg : w.heap[g]? = some (.cells c 28 (0, 0))) (hge : w0.heap.size ≤ g) (hc : Chg (· = g) w w') : Acc base w0 L w' :=
  ⟨h.chg.trans hc (fun k hk e => by have e' : k = g := e; omega), fun p hp => (h.res p hp).far hg hc⟩
theorem cell_alloc {w : World} {o : Obj} {q : Addr} {v : Value} (h : w.cell? q = some v) : (w.alloc o).cell? q = some v := ((Chg.refl (fun _ => False) w).alloc o).cell h (fun h => h)
theorem not_at {x a b : Nat} (h : x < a) (k : a ≤ b) : ¬ (fun k => k = b) x := fun e => by have e' : x = b := e; omega
theorem chg13 {w : World} {g : Nat} {u0 u1 u2 u3 u4 u5 u6 u7 u8 u9 u10 u11 u12 : Value} : Chg (fun k => k = g) w (((((((((((((w.setCell ⟨g, 0, none⟩ u0).setCell ⟨g, 1, none⟩ u1).setCell ⟨g, 2, none⟩ u2).setCell ⟨g, 3, none⟩ u3).setCell ⟨g, 4, none⟩ u4).setCell ⟨g, 5, none⟩ u5).setCell ⟨g, 6, none⟩ u6).setCell ⟨g, 7, none⟩ u7).setCell ⟨g, 8, none⟩ u8).setCell ⟨g, 9, none⟩ u9).setCell ⟨g, 10, none⟩ u10).setCell ⟨g, 11, none⟩ u11).setCell ⟨g, 12, none⟩ u12) := by
  refine Chg.setCell (X := fun k => k = g) ?_ (fun _ => rfl) _
  refine Chg.setCell (X := fun k => k = g) ?_ (fun _ => rfl) _
  refine Chg.setCell (X := fun k => k = g) ?_ (fun _ => rfl) _
  refine Chg.setCell (X := fun k => k = g) ?_ (fun _ => rfl) _
  refine Chg.setCell (X := fun k => k = g) ?_ (fun _ => rfl) _
  refine Chg.setCell (X := fun k => k = g) ?_ (fun _ => rfl) _
  refine Chg.setCell (X := fun k => k = g) ?_ (fun _ => rfl) _
  refine Chg.setCell (X := fun k => k = g) ?_ (fun _ => rfl) _
  refine Chg.setCell (X := fun k => k = g) ?_ (fun _ => rfl) _
  refine Chg.setCell (X := fun k => k = g) ?_ (fun _ => rfl) _
  refine Chg.setCell (X := fun k => k = g) ?_ (fun _ => rfl) _
  refine Chg.setCell (X := fun k => k = g) ?_ (fun _ => rfl) _
  refine Chg.setCell (X := fun k => k = g) ?_ (fun _ => rfl) _
  exact Chg.refl _ _
theorem blk13 {w : World} {g : Nat} {y0 y1 y2 y3 y4 y5 y6 y7 y8 y9 y10 y11 y12 u0 u1 u2 u3 u4 u5 u6 u7 u8 u9 u10 u11 u12 : Value} {t : TypeId} {fr : Nat × Nat} (h : w.heap[g]? = some (.cells #[y0, y1, y2, y3, y4, y5, y6, y7, y8, y9, y10, y11, y12] t fr)) : (((((((((((((w.setCell ⟨g, 0, none⟩ u0).setCell ⟨g, 1, none⟩ u1).setCell ⟨g, 2, none⟩ u2).setCell ⟨g, 3, none⟩ u3).setCell ⟨g, 4, none⟩ u4).setCell ⟨g, 5, none⟩ u5).setCell ⟨g, 6, none⟩ u6).setCell ⟨g, 7, none⟩ u7).setCell ⟨g, 8, none⟩ u8).setCell ⟨g, 9, none⟩ u9).setCell ⟨g, 10, none⟩ u10).setCell ⟨g, 11, none⟩ u11).setCell ⟨g, 12, none⟩ u12).heap[g]? = some (.cells #[u0, u1, u2, u3, u4, u5, u6, u7, u8, u9, u10, u11, u12] t fr) := by
  have h0 := h
  have h1 := setCell_blk (k := 0) h0 u0
  simp only [List.setIfInBounds_toArray, List.set_cons_zero, List.set_cons_succ] at h1
  have h2 := setCell_blk (k := 1) h1 u1
  simp only [List.setIfInBounds_toArray, List.set_cons_zero, List.set_cons_succ] at h2
  have h3 := setCell_blk (k := 2) h2 u2
  simp only [List.setIfInBounds_toArray, List.set_cons_zero, List.set_cons_succ] at h3
  have h4 := setCell_blk (k := 3) h3 u3
  simp only [List.setIfInBounds_toArray, List.set_cons_zero, List.set_cons_succ] at h4
  have h5 := setCell_blk (k := 4) h4 u4
  simp only [List.setIfInBounds_toArray, List.set_cons_zero, List.set_cons_succ] at h5
  have h6 := setCell_blk (k := 5) h5 u5
  simp only [List.setIfInBounds_toArray, List.set_cons_zero, List.set_cons_succ] at h6
  have h7 := setCell_blk (k := 6) h6 u6
  simp only [List.setIfInBounds_toArray, List.set_cons_zero, List.set_cons_succ] at h7
  have h8 := setCell_blk (k := 7) h7 u7
  simp only [List.setIfInBounds_toArray, List.set_cons_zero, List.set_cons_succ] at h8
  have h9 := setCell_blk (k := 8) h8 u8
  simp only [List.setIfInBounds_toArray, List.set_cons_zero, List.set_cons_succ] at h9
  have h10 := setCell_blk (k := 9) h9 u9
  simp only [List.setIfInBounds_toArray, List.set_cons_zero, List.set_cons_succ] at h10
  have h11 := setCell_blk (k := 10) h10 u10
  simp only [List.setIfInBounds_toArray, List.set_cons_zero, List.set_cons_succ] at h11
  have h12 := setCell_blk (k := 11) h11 u11
  simp only [List.setIfInBounds_toArray, List.set_cons_zero, List.set_cons_succ] at h12
  have h13 := setCell_blk (k := 12) h12 u12
  simp only [List.setIfInBounds_toArray, List.set_cons_zero, List.set_cons_succ] at h13
  exact h13

/-- What the first statement leaves: the struct's block, and what stands in it. -/
def First (w0 : World) (base : Nat) (f1 f2 f3 f4 f6 f7 f10 f11 f12 : PF) (g : Nat) (wc : World) : Prop :=
  ∃ e1 e2 e3 e4 e6 e7 e10 e11 e12 : Value, wc.heap[g]? = some (.cells #[.slice none 0 0, e1, e2, e3, e4, .slice none 0 0, e6, e7, .slice none 0 0, .slice none 0 0, e10, e11, e12] 28 (0, 0)) ∧ Acc base w0 [(.bin (binOf f1), e1), (f2, e2), (f3, e3), (f4, e4), (f6, e6), (f7, e7), (f10, e10), (f11, e11), (f12, e12)] wc ∧ w0.heap.size ≤ g
theorem first_new {w0 w1 : World} {f1 f2 f3 f4 f6 f7 f10 f11 f12 : PF} {e1 e2 e3 e4 e6 e7 e10 e11 e12 : Value} (hacc : Acc w0.heap.size w0 ((((((((([] ++ [(.bin (binOf f1), e1)]) ++ [(f2, e2)]) ++ [(f3, e3)]) ++ [(f4, e4)]) ++ [(f6, e6)]) ++ [(f7, e7)]) ++ [(f10, e10)]) ++ [(f11, e11)]) ++ [(f12, e12)]) w1) : First w0 w0.heap.size f1 f2 f3 f4 f6 f7 f10 f11 f12 w1.heap.size (w1.alloc (.cells #[.slice none 0 0, e1, e2, e3, e4, .slice none 0 0, e6, e7, .slice none 0 0, .slice none 0 0, e10, e11, e12] 28)) :=
  ⟨_, _, _, _, _, _, _, _, _, heap_alloc_new _ _, hacc.ext ((Chg.refl _ _).alloc _), hacc.chg.size⟩
theorem first_set {w0 w : World} {g : Nat} {f1 f2 f3 f4 f6 f7 f10 f11 f12 : PF} {e1 e2 e3 e4 e6 e7 e10 e11 e12 : Value} (hgb : w.heap[g]? = some (.cells #[.slice none 0 0, .slice none 0 0, .slice none 0 0, .slice none 0 0, .slice none 0 0, .slice none 0 0, .slice none 0 0, .slice none 0 0, .slice none 0 0, .slice none 0 0, .slice none 0 0, .slice none 0 0, .slice none 0 0] 28 (0, 0))) (hacc : Acc w0.heap.size w0 ((((((((([] ++ [(.bin (binOf f1), e1)]) ++ [(f2, e2)]) ++ [(f3, e3)]) ++ [(f4, e4)]) ++ [(f6, e6)]) ++ [(f7, e7)]) ++ [(f10, e10)]) ++ [(f11, e11)]) ++ [(f12, e12)]) w) (hge : w0.heap.size ≤ g) : First w0 w0.heap.size f1 f2 f3 f4 f6 f7 f10 f11 f12 g (((((((((((((w.setCell ⟨g, 0, none⟩ (.slice none 0 0)).setCell ⟨g, 1, none⟩ e1).setCell ⟨g, 2, none⟩ e2).setCell ⟨g, 3, none⟩ e3).setCell ⟨g, 4, none⟩ e4).setCell ⟨g, 5, none⟩ (.slice none 0 0)).setCell ⟨g, 6, none⟩ e6).setCell ⟨g, 7, none⟩ e7).setCell ⟨g, 8, none⟩ (.slice none 0 0)).setCell ⟨g, 9, none⟩ (.slice none 0 0)).setCell ⟨g, 10, none⟩ e10).setCell ⟨g, 11, none⟩ e11).setCell ⟨g, 12, none⟩ e12) :=
  ⟨_, _, _, _, _, _, _, _, _, blk13 hgb, hacc.far hgb hge chg13, hge⟩
end Go.Proofs.S
