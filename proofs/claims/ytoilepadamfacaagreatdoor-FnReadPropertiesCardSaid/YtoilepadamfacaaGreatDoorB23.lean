/- The thirteen read fields as a row of values: for rows of distinct blocks. -/
import Derived.Test.YtoilepadamfacaaGreatDoorB22
set_option linter.unusedVariables false
set_option linter.unusedSimpArgs false
namespace Go.Proofs.S
open Go.RowKit
/-- What stands for an id in the thin package's value. -/
def IdRes : IdV → Int → Int → ByteArray → Prop
  | .ulong k, kd, n, x => kd = 5 ∧ n = (k : Int) ∧ x = ⟨#[]⟩
  | .uuid l, kd, n, x => kd = 17 ∧ n = 0 ∧ x = ⟨l.toArray⟩ ∧ l.length = 16
  | .bin l, kd, n, x => kd = 18 ∧ n = 0 ∧ x = ⟨l.toArray⟩
  | .text l, kd, n, x => kd = 19 ∧ n = 0 ∧ x = ⟨l.toArray⟩
theorem valued_id {base : Nat} {k : IdV} {w : World} {v : Value} (h : IdAt base k w v) :
    Calls Tryz.prog 64 #[v] w fun e w' => ∃ kd n x, e = .returned (.tuple #[.agg #[.int .i64 kd, .int .u64 n, .string x, .slice none 0 0, .int .i64 0, .slice none 0 0], .bool true]) ∧ Chg (fun _ => False) w w' ∧ IdRes k kd n x := by
  cases k with
  | ulong k =>
    have h' : v = .iface 29 (.int .u64 (k : Int)) := h
    subst h'
    exact (valued_ulong _ w).mono (by rintro _ _ ⟨rfl, hc⟩; exact ⟨_, _, _, rfl, hc, rfl, rfl, rfl⟩)
  | uuid l =>
    obtain ⟨hl, rfl⟩ := h
    obtain ⟨a0, a1, a2, a3, a4, a5, a6, a7, a8, a9, a10, a11, a12, a13, a14, a15, rfl⟩ := list16 l hl
    exact (valued_uuid _ _ _ _ _ _ _ _ _ _ _ _ _ _ _ _ w).mono (by rintro _ _ ⟨rfl, hc⟩; exact ⟨_, _, _, rfl, hc, rfl, rfl, rfl, rfl⟩)
  | bin l =>
    obtain ⟨s, rfl, hs⟩ := h
    have hb := Bs.of_own hs
    obtain ⟨A, c, rfl⟩ := own8_shape hs
    exact (valued_bin _ _ _ w hb).mono (by rintro _ _ ⟨rfl, hc⟩; exact ⟨_, _, _, rfl, hc, rfl, rfl, rfl⟩)
  | text l =>
    have h' : v = .iface 9 (.string ⟨l.toArray⟩) := h
    subst h'
    exact (valued_text _ w).mono (by rintro _ _ ⟨rfl, hc⟩; exact ⟨_, _, _, rfl, hc, rfl, rfl, rfl⟩)
theorem IdAt.iface {base : Nat} {k : IdV} {w : World} {v : Value} (h : IdAt base k w v) : ∃ t d, v = .iface t d := by
  cases k with
  | ulong k => exact ⟨_, _, h⟩
  | uuid l => exact ⟨_, _, h.2⟩
  | bin l => obtain ⟨s, rfl, _⟩ := h; exact ⟨_, _, rfl⟩
  | text l => exact ⟨_, _, h⟩
theorem idRes_at {base : Nat} {k : IdV} {w : World} {kd n : Int} {x : ByteArray} {o : Obj} (hb : base ≤ w.heap.size) (hk : IdRes k kd n x) {q : Nat} (hq : q = w.heap.size)
    (ho : o = .cells #[.int .i64 kd, .int .u64 n, .string x, .slice none 0 0, .int .i64 0, .slice none 0 0] 81) : ResAt base (.id k) (w.alloc o) (.slice (some ⟨q, 0, none⟩) 1 1) := by
  subst ho; subst hq
  refine ⟨_, rfl, hb, kd, n, x, heap_alloc_new _ _, ?_⟩
  cases k <;> exact hk
theorem timeRes_at {base : Nat} {ms : Int} {w : World} {o : Obj} (hb : base ≤ w.heap.size) (ho : o = .cells #[.int .i64 ms] 2) : ResAt base (.time ms) (w.alloc o) (.slice (some ⟨w.heap.size, 0, none⟩) 1 1) := by
  subst ho
  exact ⟨_, rfl, hb, heap_alloc_new _ _⟩
/-- Half way: the struct's block, and what has been made. -/
def Mid (w0 : World) (es : Array Value) (L : List (PF × Value)) (g : Nat) (w : World) : Prop :=
  w.heap[g]? = some (.cells es 28 (0, 0)) ∧ Acc w0.heap.size w0 L w ∧ w0.heap.size ≤ g
theorem Mid.snoc {w0 w1 w2 : World} {es : Array Value} {L : List (PF × Value)} {g j : Nat} {f : PF} {v : Value} (h : Mid w0 es L g w1) (h2 : Chg (fun _ => False) w1 w2) (hr : ResAt w0.heap.size f w2 v) :
    Mid w0 (es.setIfInBounds j v) (L ++ [(f, v)]) g (w2.setCell ⟨g, j, none⟩ v) := by
  obtain ⟨hb, ha, hg⟩ := h
  have hb2 := h2.blk hb (fun h => h)
  exact ⟨setCell_blk hb2 v, (ha.snoc h2 hr).far hb2 hg (Chg.setCell (X := fun k => k = g) (Chg.refl _ _) (fun _ => rfl) _), hg⟩
theorem ResAt.slice {base : Nat} {f : PF} {w : World} {v : Value} (h : ResAt base f w v) : ∃ A n c, v = .slice A n c := by
  cases f with
  | nul => exact ⟨_, _, _, h⟩
  | bin l => obtain ⟨A, c, e⟩ := own8_shape h; exact ⟨_, _, _, e⟩
  | text l => obtain ⟨k, e, _⟩ := h; exact ⟨_, _, _, e⟩
  | u32 q => obtain ⟨k, e, _⟩ := h; exact ⟨_, _, _, e⟩
  | time ms => obtain ⟨k, e, _⟩ := h; exact ⟨_, _, _, e⟩
  | id k => obtain ⟨g', e, _⟩ := h; exact ⟨_, _, _, e⟩
theorem Mid.sl {w0 w1 : World} {es : Array Value} {L : List (PF × Value)} {g : Nat} (h : Mid w0 es L g w1) (f : PF) (v : Value) (hm : (f, v) ∈ L) : ∃ A n c, v = .slice A n c := (h.2.1.res _ hm).slice
theorem Mid.nul {w0 w1 : World} {es : Array Value} {L : List (PF × Value)} {g : Nat} (h : Mid w0 es L g w1) : Mid w0 es (L ++ [(.nul, .slice none 0 0)]) g w1 :=
  ⟨h.1, h.2.1.snoc (Chg.refl _ _) rfl, h.2.2⟩
theorem Mid.nul_eq {w0 w1 : World} {es : Array Value} {L : List (PF × Value)} {g : Nat} {f : PF} (h : Mid w0 es L g w1) (hf : f = .nul) : Mid w0 es (L ++ [(f, .slice none 0 0)]) g w1 := by
  subst hf
  exact h.nul
theorem Mid.snoc_eq {w0 w1 w2 : World} {es : Array Value} {L : List (PF × Value)} {g j : Nat} {f f' : PF} {v : Value} (h : Mid w0 es L g w1) (hf : f = f') (h2 : Chg (fun _ => False) w1 w2) (hr : ResAt w0.heap.size f' w2 v) :
    Mid w0 (es.setIfInBounds j v) (L ++ [(f, v)]) g (w2.setCell ⟨g, j, none⟩ v) := by
  subst hf
  exact h.snoc h2 hr
theorem Mid.drewN {w0 w1 : World} {es : Array Value} {L : List (PF × Value)} {g : Nat} (h : Mid w0 es L g w1) (n : Nat) : Mid w0 es L g (w1.drewN n) :=
  ⟨h.1, h.2.1.ext ((Chg.refl _ _).drewN n), h.2.2⟩
theorem wp_any_world {P : Program} {s : Code} {Q : Exit → Act → World → Prop} {a : Act} {w : World} (R : World → Prop) (h : R w) (k : ∀ w', R w' → s.wp P Q a w') : s.wp P Q a w := k w h
theorem First.mid {w0 w : World} {f1 f2 f3 f4 f6 f7 f10 f11 f12 : PF} {g : Nat} (h : First w0 w0.heap.size f1 f2 f3 f4 f6 f7 f10 f11 f12 g w) :
    ∃ e1 e2 e3 e4 e6 e7 e10 e11 e12, Mid w0 #[.slice none 0 0, e1, e2, e3, e4, .slice none 0 0, e6, e7, .slice none 0 0, .slice none 0 0, e10, e11, e12] [(.bin (binOf f1), e1), (f2, e2), (f3, e3), (f4, e4), (f6, e6), (f7, e7), (f10, e10), (f11, e11), (f12, e12)] g w := h
theorem fin_props {w w0 wc : World} {es : Array Value} {L : List (PF × Value)} {g : Nat} {u0 u1 u2 u3 u4 u5 u6 u7 u8 u9 u10 u11 u12 : Value} (ha : Chg (fun _ => False) w w0) (hb : w0.heap[w.heap.size]? = some (.cells #[.slice none 0 0, .slice none 0 0, .slice none 0 0, .slice none 0 0, .slice none 0 0, .slice none 0 0, .slice none 0 0, .slice none 0 0, .slice none 0 0, .slice none 0 0, .slice none 0 0, .slice none 0 0, .slice none 0 0] 28 (0, 0))) (hm : Mid w0 es L g wc) :
    Chg (fun _ => False) w (((((((((((((wc.setCell ⟨w.heap.size, 0, none⟩ u0).setCell ⟨w.heap.size, 1, none⟩ u1).setCell ⟨w.heap.size, 2, none⟩ u2).setCell ⟨w.heap.size, 3, none⟩ u3).setCell ⟨w.heap.size, 4, none⟩ u4).setCell ⟨w.heap.size, 5, none⟩ u5).setCell ⟨w.heap.size, 6, none⟩ u6).setCell ⟨w.heap.size, 7, none⟩ u7).setCell ⟨w.heap.size, 8, none⟩ u8).setCell ⟨w.heap.size, 9, none⟩ u9).setCell ⟨w.heap.size, 10, none⟩ u10).setCell ⟨w.heap.size, 11, none⟩ u11).setCell ⟨w.heap.size, 12, none⟩ u12) ∧ ∀ f v, (f, v) ∈ L → ResAt w.heap.size f (((((((((((((wc.setCell ⟨w.heap.size, 0, none⟩ u0).setCell ⟨w.heap.size, 1, none⟩ u1).setCell ⟨w.heap.size, 2, none⟩ u2).setCell ⟨w.heap.size, 3, none⟩ u3).setCell ⟨w.heap.size, 4, none⟩ u4).setCell ⟨w.heap.size, 5, none⟩ u5).setCell ⟨w.heap.size, 6, none⟩ u6).setCell ⟨w.heap.size, 7, none⟩ u7).setCell ⟨w.heap.size, 8, none⟩ u8).setCell ⟨w.heap.size, 9, none⟩ u9).setCell ⟨w.heap.size, 10, none⟩ u10).setCell ⟨w.heap.size, 11, none⟩ u11).setCell ⟨w.heap.size, 12, none⟩ u12) v := by
  have hb2 := hm.2.1.chg.blk hb (fun h => h)
  have hc : Chg (fun k => k = w.heap.size) wc (((((((((((((wc.setCell ⟨w.heap.size, 0, none⟩ u0).setCell ⟨w.heap.size, 1, none⟩ u1).setCell ⟨w.heap.size, 2, none⟩ u2).setCell ⟨w.heap.size, 3, none⟩ u3).setCell ⟨w.heap.size, 4, none⟩ u4).setCell ⟨w.heap.size, 5, none⟩ u5).setCell ⟨w.heap.size, 6, none⟩ u6).setCell ⟨w.heap.size, 7, none⟩ u7).setCell ⟨w.heap.size, 8, none⟩ u8).setCell ⟨w.heap.size, 9, none⟩ u9).setCell ⟨w.heap.size, 10, none⟩ u10).setCell ⟨w.heap.size, 11, none⟩ u11).setCell ⟨w.heap.size, 12, none⟩ u12) := chg13
  refine ⟨(ha.reads hm.2.1.chg).trans hc (fun k hk e => by have e' : k = w.heap.size := e; omega), fun f v hp => ?_⟩
  have h1 := (hm.2.1.res _ hp).far hb2 hc
  exact h1.chg (Chg.refl (fun _ => False) _) ha.size (fun _ h => h.elim)
end Go.Proofs.S
