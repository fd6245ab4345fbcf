/- The arguments of the law lie in the heap as trees of blocks: for arguments that the form of claims lets in. -/
import Derived.Test.YtoilepadamfacaaGreatDoorD33
import Derived.ProofKit
import Derived.Deep.Slices
import Derived.OpenShut
set_option linter.unusedVariables false
set_option linter.unusedSimpArgs false
namespace Go.Proofs.S
open Go.RowKit Go.Maps Go.Deep Go.WideShapes
theorem spot_none {w : World} {a : Addr} {v : Value} (h : w.cell? a = some v) : a = ⟨a.block, a.off, none⟩ := by
  obtain ⟨b, o, s⟩ := a
  cases s with
  | none => rfl
  | some s =>
    unfold World.cell? at h
    split at h
    · simp at h
    · cases h
section
variable {H : Type} {enc : TypeId × Value → H} {w : World} {sp : Nat → Bool} {held : Bool}
theorem row_of {t e : TypeId} {fuel : Nat} {v : Value} {x : DataW H × List MemPlace} (R : Value → Prop) (ht : Tryz.prog.underlying t = some (.slice e)) (hc : Tryz.prog.cellsOf e = 1) (h : DataW.trod enc Tryz.prog w 0 sp held fuel t [v] = some x) (hR : ∀ n V y, DataW.trod enc Tryz.prog w 0 sp held n e [V] = some y → R V) :
    ∃ A n c, v = .slice A n c ∧ n ≤ c ∧ RowOf R w A n := by
  rcases open_slice1 ht hc h with ⟨hv, _⟩ | ⟨a, len, cap, m, n, V, D, Pl, hv, _, hl, hm, hmm, _, hx⟩
  · simp only [List.cons.injEq, and_true] at hv
    exact ⟨none, 0, 0, hv, Nat.le_refl _, by decide, .inl rfl⟩
  · simp only [List.cons.injEq, and_true] at hv
    unfold maxLen at hm
    refine ⟨some a, len, cap, hv, hl, by omega, ?_⟩
    rcases Nat.eq_zero_or_pos len with h0 | h0
    · exact .inl h0
    · have hml : len ≤ m := by rw [hmm]; split <;> omega
      have h1 := (hx 0 (by omega)).1
      have ha : a = ⟨a.block, a.off, none⟩ := by
        have : a.add 0 = a := by unfold Addr.add; simp
        rw [this] at h1
        exact spot_none h1
      refine .inr ⟨a.block, a.off, by rw [← ha], fun i hi => ⟨V i, hR _ _ _ (hx i (by omega)).2, ?_⟩⟩
      have h2 := (hx i (by omega)).1
      rw [ha, add_off] at h2
      exact h2
theorem Tree.mono {w : World} : ∀ (d : Nat) (A : Option Addr) (n : Nat), Tree w d A n → Tree w (d + 1) A n
  | 0, A, n, h => ⟨by have h' : n = 0 := h; omega, .inl h⟩
  | d + 1, A, n, h => by
    obtain ⟨hn, h⟩ := h
    refine ⟨hn, ?_⟩
    rcases h with h | ⟨g, o, e, h⟩
    · exact .inl h
    · refine .inr ⟨g, o, e, fun i hi => ?_⟩
      obtain ⟨kd, u, tx, kA, kN, kC, of_, dA, dN, dC, h1, h2, c0, c1, c2, c3, c4, c5, t1, t2⟩ := h i hi
      exact ⟨kd, u, tx, kA, kN, kC, of_, dA, dN, dC, h1, h2, c0, c1, c2, c3, c4, c5, Tree.mono d _ _ t1, Tree.mono d _ _ t2⟩
theorem cells81 : Tryz.prog.cellsOf 81 = 6 := by kernel_rfl
theorem cells3 : Tryz.prog.cellsOf 3 = 1 := by kernel_rfl
theorem cells29 : Tryz.prog.cellsOf 29 = 1 := by kernel_rfl
theorem cells9 : Tryz.prog.cellsOf 9 = 1 := by kernel_rfl
theorem cells22 : Tryz.prog.cellsOf 22 = 1 := by kernel_rfl
theorem cells23 : Tryz.prog.cellsOf 23 = 1 := by kernel_rfl
theorem cells24 : Tryz.prog.cellsOf 24 = 1 := by kernel_rfl
theorem cells25 : Tryz.prog.cellsOf 25 = 1 := by kernel_rfl
theorem cells26 : Tryz.prog.cellsOf 26 = 1 := by kernel_rfl
theorem cells2 : Tryz.prog.cellsOf 2 = 1 := by kernel_rfl
theorem cells45 : Tryz.prog.cellsOf 45 = 1 := by kernel_rfl
theorem cells5 : Tryz.prog.cellsOf 5 = 1 := by kernel_rfl
theorem cells28 : Tryz.prog.cellsOf 28 = 13 := by kernel_rfl
theorem list6 {α : Type} {l : List α} (h : l.length = 6) : ∃ a0 a1 a2 a3 a4 a5, l = [a0, a1, a2, a3, a4, a5] := by
  match l, h with
  | [a0, a1, a2, a3, a4, a5], _ => exact ⟨a0, a1, a2, a3, a4, a5, rfl⟩
theorem some_at {α : Type} {l : List α} {n i : Nat} (h : l.length = n) (hi : i < n) : ∃ y, l[i]? = some y := ⟨_, List.getElem?_eq_getElem (by omega)⟩
theorem tree_of : ∀ (fuel : Nat) (v : Value) (x : DataW H × List MemPlace), DataW.trod enc Tryz.prog w 0 sp held fuel 22 [v] = some x → ∃ A n c, v = .slice A n c ∧ Tree w fuel A n := by
  intro fuel
  induction fuel using Nat.strongRecOn with
  | _ fuel ih =>
    intro v x h
    rcases DataW.trod_slice Tryz.underlying22 h with ⟨hv, _⟩ | ⟨a, len, cap, elems, rest, n, hfu, hv, _, _, hl, hm, hlen, hel, _, _⟩
    · simp only [List.cons.injEq, and_true] at hv
      refine ⟨none, 0, 0, hv, ?_⟩
      cases fuel with
      | zero => rfl
      | succ d => exact ⟨by decide, .inl rfl⟩
    · simp only [List.cons.injEq, and_true] at hv
      subst hfu
      unfold maxLen at hm
      refine ⟨some a, len, cap, hv, by omega, ?_⟩
      rcases Nat.eq_zero_or_pos len with h0 | h0
      · exact .inl h0
      rw [cells81] at hel
      have key : ∀ i, i < len → ∃ cs y, w.cells? 0 (a.add (i * 6)) 6 = some cs ∧ DataW.trod enc Tryz.prog w 0 sp held n 81 cs = some y := by
        intro i hi
        have h1 := hel i hi
        obtain ⟨y, hy⟩ := some_at hlen hi
        rw [hy] at h1
        obtain ⟨cs, h2, h3⟩ := Option.bind_eq_some_iff.1 h1
        exact ⟨cs, y, h2, h3⟩
      have ha : a = ⟨a.block, a.off, none⟩ := by
        obtain ⟨cs, y, h2, _⟩ := key 0 h0
        obtain ⟨_, hl6, hc⟩ := World.cells?_some h2
        have h3 := hc 0 (by decide)
        obtain ⟨u, hu⟩ := some_at hl6 (show 0 < 6 by decide)
        rw [hu] at h3
        have e1 : (a.add (0 * 6)).add 0 = a := by simp [Addr.add]
        rw [e1] at h3
        exact spot_none h3
      refine .inr ⟨a.block, a.off, by rw [← ha], fun i hi => ?_⟩
      obtain ⟨cs, y, h2, h3⟩ := key i hi
      obtain ⟨_, hl6, hc⟩ := World.cells?_some h2
      obtain ⟨c0, c1, c2, c3, c4, c5, rfl⟩ := list6 hl6
      rw [ha, add_off] at hc
      obtain ⟨xs, n', hnn, _, _, hxs, hf⟩ := DataW.trod_struct Tryz.underlying81 h3
      subst hnn
      have hxs6 : xs.length = 6 := hxs
      have f0 : DataW.trod enc Tryz.prog w 0 sp held n' 3 (([c0, c1, c2, c3, c4, c5].drop 0).take (Tryz.prog.cellsOf 3)) = xs[0]? := hf 0 _ rfl
      have f1 : DataW.trod enc Tryz.prog w 0 sp held n' 29 (([c0, c1, c2, c3, c4, c5].drop 1).take (Tryz.prog.cellsOf 29)) = xs[1]? := hf 1 _ rfl
      have f2 : DataW.trod enc Tryz.prog w 0 sp held n' 9 (([c0, c1, c2, c3, c4, c5].drop 2).take (Tryz.prog.cellsOf 9)) = xs[2]? := hf 2 _ rfl
      have f3 : DataW.trod enc Tryz.prog w 0 sp held n' 22 (([c0, c1, c2, c3, c4, c5].drop 3).take (Tryz.prog.cellsOf 22)) = xs[3]? := hf 3 _ rfl
      have f4 : DataW.trod enc Tryz.prog w 0 sp held n' 3 (([c0, c1, c2, c3, c4, c5].drop 4).take (Tryz.prog.cellsOf 3)) = xs[4]? := hf 4 _ rfl
      have f5 : DataW.trod enc Tryz.prog w 0 sp held n' 22 (([c0, c1, c2, c3, c4, c5].drop 5).take (Tryz.prog.cellsOf 22)) = xs[5]? := hf 5 _ rfl

      rw [cells3] at f0 f4
      rw [cells29] at f1
      rw [cells9] at f2
      rw [cells22] at f3 f5
      simp only [List.drop_zero, List.drop_succ_cons, List.take_succ_cons, List.take_zero] at f0 f1 f2 f3 f4 f5
      obtain ⟨y0, g0⟩ := some_at hxs6 (show 0 < 6 by decide)
      obtain ⟨y1, g1⟩ := some_at hxs6 (show 1 < 6 by decide)
      obtain ⟨y2, g2⟩ := some_at hxs6 (show 2 < 6 by decide)
      obtain ⟨y3, g3⟩ := some_at hxs6 (show 3 < 6 by decide)
      obtain ⟨y4, g4⟩ := some_at hxs6 (show 4 < 6 by decide)
      obtain ⟨y5, g5⟩ := some_at hxs6 (show 5 < 6 by decide)
      rw [g0] at f0; rw [g1] at f1; rw [g2] at f2; rw [g3] at f3; rw [g4] at f4; rw [g5] at f5
      obtain ⟨kd, e0, _, _⟩ := DataW.trod_int Tryz.underlying3 f0
      obtain ⟨u, e1, _, hu⟩ := DataW.trod_int Tryz.underlying29 f1
      obtain ⟨tx, e2, _, htx⟩ := DataW.trod_string Tryz.underlying9 f2
      obtain ⟨kA, kN, kC, e3, t3⟩ := ih n' (by omega) _ _ f3
      obtain ⟨of_, e4, _, _⟩ := DataW.trod_int Tryz.underlying3 f4
      obtain ⟨dA, dN, dC, e5, t5⟩ := ih n' (by omega) _ _ f5
      simp only [List.cons.injEq, and_true] at e0 e1 e2 e4
      subst e0 e1 e2 e3 e4 e5
      have hu2 : 0 ≤ u ∧ u < 18446744073709551616 := by
        simp [Lit.wf, IntKind.min, IntKind.max, IntKind.bits, IntKind.signed] at hu
        omega
      have hun : ((u.toNat : Nat) : Int) = u := Int.toNat_of_nonneg hu2.1
      unfold maxLen at htx
      refine ⟨kd, u.toNat, tx, kA, kN, kC, of_, dA, dN, dC, by unfold U64; omega, htx, ?_, ?_, ?_, ?_, ?_, ?_, Tree.mono _ _ _ t3, Tree.mono _ _ _ t5⟩
      · have := hc 0 (by decide); rw [add_off] at this; simpa using this
      · have := hc 1 (by decide); rw [add_off] at this; rw [hun]; simpa using this
      · have := hc 2 (by decide); rw [add_off] at this; simpa using this
      · have := hc 3 (by decide); rw [add_off] at this; simpa using this
      · have := hc 4 (by decide); rw [add_off] at this; simpa using this
      · have := hc 5 (by decide); rw [add_off] at this; simpa using this
def byteOf : Value → UInt8
  | .int _ z => UInt8.ofNat z.toNat
  | _ => 0
theorem bytes_of {fuel : Nat} {v : Value} {x : DataW H × List MemPlace} (h : DataW.trod enc Tryz.prog w 0 sp held fuel 23 [v] = some x) : ∃ A n c l, v = .slice A n c ∧ l.length = n ∧ Bs w (.slice A n c) l ∧ n ≤ 9223372036854775807 := by
  obtain ⟨A, n, c, hv, hnc, hn, hr⟩ := row_of (fun V => ∃ z : Int, V = .int .u8 z ∧ 0 ≤ z ∧ z < 256) Tryz.underlying23 cells5 h (fun n V y hy => by
    obtain ⟨z, e, _, hz⟩ := DataW.trod_int Tryz.underlying5 hy
    simp only [List.cons.injEq, and_true] at e
    refine ⟨z, e, ?_⟩
    simp [Lit.wf, IntKind.min, IntKind.max, IntKind.bits, IntKind.signed] at hz
    omega)
  rcases hr with rfl | ⟨g, o, rfl, hr⟩
  · exact ⟨A, 0, c, [], hv, rfl, ⟨A, c, rfl, Nat.zero_le _, fun h => absurd rfl h⟩, hn⟩
  · have hch : ∀ i, i < n → ∃ b : UInt8, w.cell? ⟨g, o + i, none⟩ = some (.int .u8 (b.toNat : Int)) := by
      intro i hi
      obtain ⟨V, ⟨z, rfl, hz0, hz1⟩, hcell⟩ := hr i hi
      refine ⟨UInt8.ofNat z.toNat, ?_⟩
      rw [hcell]
      have : ((UInt8.ofNat z.toNat).toNat : Int) = z := by
        simp only [UInt8.toNat_ofNat']
        omega
      rw [this]
    have hl : ∃ l : List UInt8, l.length = n ∧ ∀ j b, l[j]? = some b → w.cell? ⟨g, o + j, none⟩ = some (.int .u8 (b.toNat : Int)) := by
      refine ⟨(List.range n).map fun i => if h : i < n then Classical.choose (hch i h) else 0, by simp, fun j b hb => ?_⟩
      have hj : j < n := by have := (List.getElem?_eq_some_iff.1 hb).1; simpa using this
      rw [List.getElem?_map, List.getElem?_range hj] at hb
      simp only [Option.map_some, Option.some.injEq, hj, dif_pos] at hb
      rw [← hb]
      exact Classical.choose_spec (hch j hj)
    obtain ⟨l, hl1, hl2⟩ := hl
    exact ⟨some ⟨g, o, none⟩, n, c, l, hv, hl1, ⟨some ⟨g, o, none⟩, c, by rw [hl1], by omega, fun _ => ⟨g, o, rfl, hl2⟩⟩, hn⟩
theorem texts_of {fuel : Nat} {v : Value} {x : DataW H × List MemPlace} (h : DataW.trod enc Tryz.prog w 0 sp held fuel 24 [v] = some x) : ∃ A n c, v = .slice A n c ∧ RowOf IsText w A n := by
  obtain ⟨A, n, c, hv, _, hr⟩ := row_of IsText Tryz.underlying24 cells9 h (fun n V y hy => by
    obtain ⟨s, e, _, hs⟩ := DataW.trod_string Tryz.underlying9 hy
    simp only [List.cons.injEq, and_true] at e
    unfold maxLen at hs
    exact ⟨s, e, hs⟩)
  exact ⟨A, n, c, hv, hr⟩
theorem i64s_of {fuel : Nat} {v : Value} {x : DataW H × List MemPlace} (h : DataW.trod enc Tryz.prog w 0 sp held fuel 25 [v] = some x) : ∃ A n c, v = .slice A n c ∧ RowOf IsI64 w A n := by
  obtain ⟨A, n, c, hv, _, hr⟩ := row_of IsI64 Tryz.underlying25 cells2 h (fun n V y hy => by
    obtain ⟨z, e, _, hz⟩ := DataW.trod_int Tryz.underlying2 hy
    simp only [List.cons.injEq, and_true] at e
    exact ⟨z, e⟩)
  exact ⟨A, n, c, hv, hr⟩
theorem u32s_of {fuel : Nat} {v : Value} {x : DataW H × List MemPlace} (h : DataW.trod enc Tryz.prog w 0 sp held fuel 26 [v] = some x) : ∃ A n c, v = .slice A n c ∧ RowOf IsU32 w A n := by
  obtain ⟨A, n, c, hv, _, hr⟩ := row_of IsU32 Tryz.underlying26 cells45 h (fun n V y hy => by
    obtain ⟨z, e, _, hz⟩ := DataW.trod_int Tryz.underlying45 hy
    simp only [List.cons.injEq, and_true] at e
    simp [Lit.wf, IntKind.min, IntKind.max, IntKind.bits, IntKind.signed] at hz
    exact ⟨z, e, by omega, by omega⟩)
  exact ⟨A, n, c, hv, hr⟩
theorem list13 {α : Type} {l : List α} (h : l.length = 13) : ∃ a0 a1 a2 a3 a4 a5 a6 a7 a8 a9 a10 a11 a12, l = [a0, a1, a2, a3, a4, a5, a6, a7, a8, a9, a10, a11, a12] := by
  match l, h with
  | [a0, a1, a2, a3, a4, a5, a6, a7, a8, a9, a10, a11, a12], _ => exact ⟨a0, a1, a2, a3, a4, a5, a6, a7, a8, a9, a10, a11, a12, rfl⟩
def at13 {α : Type} (d a0 a1 a2 a3 a4 a5 a6 a7 a8 a9 a10 a11 a12 : α) : Nat → α
  | 0 => a0
  | 1 => a1
  | 2 => a2
  | 3 => a3
  | 4 => a4
  | 5 => a5
  | 6 => a6
  | 7 => a7
  | 8 => a8
  | 9 => a9
  | 10 => a10
  | 11 => a11
  | 12 => a12
  | _ => d
set_option maxRecDepth 100000 in
/-- The struct that the law is handed. -/
theorem props_in {fuel : Nat} {cs : Array Value} {x : DataW H × List MemPlace} (h : DataW.trod enc Tryz.prog w 0 sp held fuel 28 cs.toList = some x) :
    ∃ (A : Nat → Option Addr) (n c : Nat → Nat) (d : Nat) (l : List UInt8), Value.agg cs = .agg #[.slice (A 0) (n 0) (c 0), .slice (A 1) (n 1) (c 1), .slice (A 2) (n 2) (c 2), .slice (A 3) (n 3) (c 3), .slice (A 4) (n 4) (c 4), .slice (A 5) (n 5) (c 5), .slice (A 6) (n 6) (c 6), .slice (A 7) (n 7) (c 7), .slice (A 8) (n 8) (c 8), .slice (A 9) (n 9) (c 9), .slice (A 10) (n 10) (c 10), .slice (A 11) (n 11) (c 11), .slice (A 12) (n 12) (c 12)] ∧ PropsIn w A n c d l ∧ n 1 ≤ 9223372036854775807 := by
  obtain ⟨xs, n', hnn, _, hlen, hxs, hf⟩ := DataW.trod_struct Tryz.underlying28 h
  subst hnn
  rw [cells28] at hlen
  have hxs13 : xs.length = 13 := hxs
  obtain ⟨c0, c1, c2, c3, c4, c5, c6, c7, c8, c9, c10, c11, c12, hcs⟩ := list13 hlen
  have hca : cs = #[c0, c1, c2, c3, c4, c5, c6, c7, c8, c9, c10, c11, c12] := by
    rw [← Array.toList_inj, hcs]
  rw [hcs] at hf
  have f0 : DataW.trod enc Tryz.prog w 0 sp held n' 22 (([c0, c1, c2, c3, c4, c5, c6, c7, c8, c9, c10, c11, c12].drop 0).take (Tryz.prog.cellsOf 22)) = xs[0]? := hf 0 _ rfl
  have f1 : DataW.trod enc Tryz.prog w 0 sp held n' 23 (([c0, c1, c2, c3, c4, c5, c6, c7, c8, c9, c10, c11, c12].drop 1).take (Tryz.prog.cellsOf 23)) = xs[1]? := hf 1 _ rfl
  have f2 : DataW.trod enc Tryz.prog w 0 sp held n' 24 (([c0, c1, c2, c3, c4, c5, c6, c7, c8, c9, c10, c11, c12].drop 2).take (Tryz.prog.cellsOf 24)) = xs[2]? := hf 2 _ rfl
  have f3 : DataW.trod enc Tryz.prog w 0 sp held n' 24 (([c0, c1, c2, c3, c4, c5, c6, c7, c8, c9, c10, c11, c12].drop 3).take (Tryz.prog.cellsOf 24)) = xs[3]? := hf 3 _ rfl
  have f4 : DataW.trod enc Tryz.prog w 0 sp held n' 24 (([c0, c1, c2, c3, c4, c5, c6, c7, c8, c9, c10, c11, c12].drop 4).take (Tryz.prog.cellsOf 24)) = xs[4]? := hf 4 _ rfl
  have f5 : DataW.trod enc Tryz.prog w 0 sp held n' 22 (([c0, c1, c2, c3, c4, c5, c6, c7, c8, c9, c10, c11, c12].drop 5).take (Tryz.prog.cellsOf 22)) = xs[5]? := hf 5 _ rfl
  have f6 : DataW.trod enc Tryz.prog w 0 sp held n' 24 (([c0, c1, c2, c3, c4, c5, c6, c7, c8, c9, c10, c11, c12].drop 6).take (Tryz.prog.cellsOf 24)) = xs[6]? := hf 6 _ rfl
  have f7 : DataW.trod enc Tryz.prog w 0 sp held n' 24 (([c0, c1, c2, c3, c4, c5, c6, c7, c8, c9, c10, c11, c12].drop 7).take (Tryz.prog.cellsOf 24)) = xs[7]? := hf 7 _ rfl
  have f8 : DataW.trod enc Tryz.prog w 0 sp held n' 25 (([c0, c1, c2, c3, c4, c5, c6, c7, c8, c9, c10, c11, c12].drop 8).take (Tryz.prog.cellsOf 25)) = xs[8]? := hf 8 _ rfl
  have f9 : DataW.trod enc Tryz.prog w 0 sp held n' 25 (([c0, c1, c2, c3, c4, c5, c6, c7, c8, c9, c10, c11, c12].drop 9).take (Tryz.prog.cellsOf 25)) = xs[9]? := hf 9 _ rfl
  have f10 : DataW.trod enc Tryz.prog w 0 sp held n' 24 (([c0, c1, c2, c3, c4, c5, c6, c7, c8, c9, c10, c11, c12].drop 10).take (Tryz.prog.cellsOf 24)) = xs[10]? := hf 10 _ rfl
  have f11 : DataW.trod enc Tryz.prog w 0 sp held n' 26 (([c0, c1, c2, c3, c4, c5, c6, c7, c8, c9, c10, c11, c12].drop 11).take (Tryz.prog.cellsOf 26)) = xs[11]? := hf 11 _ rfl
  have f12 : DataW.trod enc Tryz.prog w 0 sp held n' 24 (([c0, c1, c2, c3, c4, c5, c6, c7, c8, c9, c10, c11, c12].drop 12).take (Tryz.prog.cellsOf 24)) = xs[12]? := hf 12 _ rfl
  rw [cells22] at f0 f5
  rw [cells23] at f1
  rw [cells24] at f2 f3 f4 f6 f7 f10 f12
  rw [cells25] at f8 f9
  rw [cells26] at f11
  simp only [List.drop_zero, List.drop_succ_cons, List.take_succ_cons, List.take_zero] at f0 f1 f2 f3 f4 f5 f6 f7 f8 f9 f10 f11 f12
  obtain ⟨y0, g0⟩ := some_at hxs13 (show 0 < 13 by decide)
  rw [g0] at f0
  obtain ⟨y1, g1⟩ := some_at hxs13 (show 1 < 13 by decide)
  rw [g1] at f1
  obtain ⟨y2, g2⟩ := some_at hxs13 (show 2 < 13 by decide)
  rw [g2] at f2
  obtain ⟨y3, g3⟩ := some_at hxs13 (show 3 < 13 by decide)
  rw [g3] at f3
  obtain ⟨y4, g4⟩ := some_at hxs13 (show 4 < 13 by decide)
  rw [g4] at f4
  obtain ⟨y5, g5⟩ := some_at hxs13 (show 5 < 13 by decide)
  rw [g5] at f5
  obtain ⟨y6, g6⟩ := some_at hxs13 (show 6 < 13 by decide)
  rw [g6] at f6
  obtain ⟨y7, g7⟩ := some_at hxs13 (show 7 < 13 by decide)
  rw [g7] at f7
  obtain ⟨y8, g8⟩ := some_at hxs13 (show 8 < 13 by decide)
  rw [g8] at f8
  obtain ⟨y9, g9⟩ := some_at hxs13 (show 9 < 13 by decide)
  rw [g9] at f9
  obtain ⟨y10, g10⟩ := some_at hxs13 (show 10 < 13 by decide)
  rw [g10] at f10
  obtain ⟨y11, g11⟩ := some_at hxs13 (show 11 < 13 by decide)
  rw [g11] at f11
  obtain ⟨y12, g12⟩ := some_at hxs13 (show 12 < 13 by decide)
  rw [g12] at f12
  obtain ⟨A0, m0, k0, e0, r0⟩ := tree_of _ _ _ f0
  obtain ⟨A1, m1, k1, l, e1, hl, r1, hm1⟩ := bytes_of f1
  obtain ⟨A2, m2, k2, e2, r2⟩ := texts_of f2
  obtain ⟨A3, m3, k3, e3, r3⟩ := texts_of f3
  obtain ⟨A4, m4, k4, e4, r4⟩ := texts_of f4
  obtain ⟨A5, m5, k5, e5, r5⟩ := tree_of _ _ _ f5
  obtain ⟨A6, m6, k6, e6, r6⟩ := texts_of f6
  obtain ⟨A7, m7, k7, e7, r7⟩ := texts_of f7
  obtain ⟨A8, m8, k8, e8, r8⟩ := i64s_of f8
  obtain ⟨A9, m9, k9, e9, r9⟩ := i64s_of f9
  obtain ⟨A10, m10, k10, e10, r10⟩ := texts_of f10
  obtain ⟨A11, m11, k11, e11, r11⟩ := u32s_of f11
  obtain ⟨A12, m12, k12, e12, r12⟩ := texts_of f12
  refine ⟨at13 none A0 A1 A2 A3 A4 A5 A6 A7 A8 A9 A10 A11 A12, at13 0 m0 m1 m2 m3 m4 m5 m6 m7 m8 m9 m10 m11 m12, at13 0 k0 k1 k2 k3 k4 k5 k6 k7 k8 k9 k10 k11 k12, n', l, ?_, ⟨r0, r5, hl, r1, r2, r3, r4, r6, r7, r10, r12, r8, r9, r11⟩, hm1⟩
  rw [hca, e0, e1, e2, e3, e4, e5, e6, e7, e8, e9, e10, e11, e12]
  rfl
end
end Go.Proofs.S
