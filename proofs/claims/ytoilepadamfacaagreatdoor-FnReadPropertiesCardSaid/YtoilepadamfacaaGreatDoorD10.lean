/- The writer puts the length ahead of its bytes, without a count: for lengths within the machine. -/
import Derived.Test.YtoilepadamfacaaGreatDoorD9
set_option linter.unusedVariables false
set_option linter.unusedSimpArgs false
namespace Go.Proofs.S
open Go.RowKit Go.Maps
theorem Bs.chgX {w w1 : World} {X : Nat → Prop} {v : Value} {l : List UInt8} (h : Bs w v l) (hc : Chg X w w1) (hX : ∀ k, k < w.heap.size → X k → False) : Bs w1 v l := by
  obtain ⟨A, c, h1, h2, h3⟩ := h
  refine ⟨A, c, h1, h2, fun hn => ?_⟩
  obtain ⟨b, o, h4, h5⟩ := h3 hn
  exact ⟨b, o, h4, fun j x hx => hc.cell (h5 j x hx) (fun hh => hX b (World.block_lt_of_cell? w ⟨b, o + j, none⟩ (h5 j x hx)) hh)⟩
theorem u64_in {n : Nat} (h : n < 18446744073709551616) : IntKind.u64.wrap (n : Int) = (n : Int) := by simp [IntKind.wrap, IntKind.bits, IntKind.signed]; omega
theorem u64_inI {x : Int} (h0 : 0 ≤ x) (h : x < 18446744073709551616) : IntKind.u64.wrap x = x := by simp [IntKind.wrap, IntKind.bits, IntKind.signed]; omega
theorem Pcs.more {n m base : Nat} {w : World} {v : Value} {G : Int → List UInt8 → Prop} (h : Pcs n base w v G) (hm : n ≤ m) : Pcs m base w v G := by
  obtain ⟨ps, h1, h2, h3⟩ := h
  exact ⟨ps, h1, Nat.le_trans h2 hm, h3⟩
theorem Pcs.own {n base k : Nat} {w : World} {v : Value} {G : Int → List UInt8 → Prop} (h : Pcs n base w v G) (hk : v.ownBlock = some k) : base ≤ k := by
  obtain ⟨ps, h1, _⟩ := h
  exact (World.ownsRow.lt h1 k hk).1
theorem Pcs.apart {n base g : Nat} {w : World} {v : Value} {G : Int → List UInt8 → Prop} {cs : Array Value} {t : TypeId} (h : Pcs n base w v G) (hb : w.heap[g]? = some (.cells cs t (0, 0))) (ht : 154 ≠ t) : v.ownBlock ≠ some g := by
  obtain ⟨ps, h1, _⟩ := h
  intro he
  rcases h1.2 with ⟨rfl, _⟩ | ⟨g', c, cur, rfl, _, hh, _⟩
  · cases he
  · simp only [Value.ownBlock, Option.some.injEq] at he
    subst he
    rw [hb] at hh
    injection hh with hh
    injection hh with _ h2
    exact ht h2.symm
theorem Chg.widen {X : Nat → Prop} {w w1 w2 : World} {b : Nat} (h : Chg X w w1) (hc : Chg (fun k => b ≤ k) w1 w2) (hb : w.heap.size ≤ b) : Chg X w w2 := h.trans hc (fun i hi h => absurd hi (Nat.not_lt.2 (Nat.le_trans hb h)))
def RL9 (base fb n size cnt : Nat) (i : Nat) (v : Value) (m : Nat → Value) (c : Nat) (w : World) : Prop :=
  match i with
  | 0 => v = .int .i64 (n : Int)
  | 1 => v = .pointer (some ⟨fb, 1, none⟩)
  | 2 => v = .int .i64 (size : Int)
  | 3 => v = .int .i64 ((n : Int) + (size : Int))
  | 4 => v = .int .i64 (cnt : Int)
  | 5 => v = .int .u64 (cnt : Int)
  | 6 => v = .pointer (some ⟨fb, 1, none⟩)
  | 7 => v = .int .i64 (size : Int)
  | 8 => Own8 w base v (be size cnt)
  | 9 => v = .int .i64 ((n : Int) + (size : Int))
  | 10 => Own8 w base v (be size cnt)
  | _ => True
theorem RL9_ext (base fb n size cnt : Nat) {i : Nat} {v : Value} {m : Nat → Value} {c : Nat} {w w1 : World} (h : RL9 base fb n size cnt i v m c w) (hc : Chg (fun _ => False) w w1) : RL9 base fb n size cnt i v m (c + 1) w1 := by
  unfold RL9 at h ⊢
  split
  · exact h
  · exact h
  · exact h
  · exact h
  · exact h
  · exact h
  · exact h
  · exact h
  · exact Own8.ext h hc
  · exact h
  · exact Own8.ext h hc
  · trivial
def RL11 (wR : World) (b1 fb nn size kq : Nat) (code : Int) (outV dv hv_ : Value) (head data : List UInt8) (G : Int → List UInt8 → Prop) (i : Nat) (v : Value) (m : Nat → Value) (c : Nat) (w : World) : Prop :=
  match i with
  | 0 => v = outV ∧ Chg (fun _ => False) wR w
  | 1 => v = .pointer (some ⟨fb, 0, none⟩)
  | 2 => v = .int .i64 code
  | 3 => v = .int .i64 (nn : Int)
  | 4 => v = .int .u64 (nn : Int)
  | 5 => v = .pointer (some ⟨fb, 1, none⟩)
  | 6 => v = .int .i64 (size : Int)
  | 7 => Own8 w wR.heap.size v (be size nn)
  | 8 => v = hv_
  | 9 => Own8 w wR.heap.size v (be size nn ++ head)
  | 10 => v = dv
  | 11 => Own8 w wR.heap.size v ((be size nn ++ head) ++ data)
  | 12 => ∃ A7 n7 c7, v = .agg #[.int .i64 code, .slice A7 n7 c7] ∧ Own8 w wR.heap.size (.slice A7 n7 c7) ((be size nn ++ head) ++ data)
  | 13 => ∃ g, v = .slice (some ⟨g, 0, none⟩) 1 1 ∧ PcsNe 1 b1 w v G
  | 14 => PcsNe (kq + 1) b1 w v G
  | 15 => PcsNe (kq + 1) b1 w v G
  | _ => True
theorem RL11_ext (wR : World) (b1 fb nn size kq : Nat) (code : Int) (outV dv hv_ : Value) (head data : List UInt8) (G : Int → List UInt8 → Prop) {i : Nat} {v : Value} {m : Nat → Value} {c : Nat} {w w1 : World} (h : RL11 wR b1 fb nn size kq code outV dv hv_ head data G i v m c w) (hc : Chg (fun _ => False) w w1) : RL11 wR b1 fb nn size kq code outV dv hv_ head data G i v m (c + 1) w1 := by
  unfold RL11 at h ⊢
  split
  · exact ⟨h.1, h.2.reads hc⟩
  · exact h
  · exact h
  · exact h
  · exact h
  · exact h
  · exact h
  · exact Own8.ext h hc
  · exact h
  · exact Own8.ext h hc
  · exact h
  · exact Own8.ext h hc
  · obtain ⟨A7, n7, c7, h1, h2⟩ := h; exact ⟨A7, n7, c7, h1, Own8.ext h2 hc⟩
  · obtain ⟨g, h1, h3⟩ := h; exact ⟨g, h1, h3.chg hc (fun _ h => h.elim)⟩
  · exact h.chg hc (fun _ h => h.elim)
  · exact h.chg hc (fun _ h => h.elim)
  · trivial
theorem RL11_wide (wR : World) (b1 fb nn size kq : Nat) (code : Int) (outV dv hv_ : Value) (head data : List UInt8) (G : Int → List UInt8 → Prop) {i : Nat} {v : Value} {m : Nat → Value} {c : Nat} {w w1 : World} (hm : i ∈ [0, 1, 2, 10]) (h : RL11 wR b1 fb nn size kq code outV dv hv_ head data G i v m c w) (hc : Chg (fun k => wR.heap.size ≤ k) w w1) : RL11 wR b1 fb nn size kq code outV dv hv_ head data G i v m (c + 1) w1 := by
  simp only [List.mem_cons, List.not_mem_nil, or_false] at hm
  rcases hm with rfl | rfl | rfl | rfl
  · exact ⟨h.1, h.2.widen hc (Nat.le_refl _)⟩
  · exact h
  · exact h
  · exact h
set_option maxHeartbeats 8000000 in
set_option maxRecDepth 1000000 in
theorem lengthed_neg {sh lo : Int} {dA : Option Addr} {dC : Nat} {data : List UInt8} {G : Int → List UInt8 → Prop} {w : World} (hs : Bs w (.slice dA data.length dC) data) (hlen : data.length ≤ 2000000000) (hg1 : data.length ≤ 255 → G sh (be 1 data.length ++ [] ++ data)) (hg2 : G lo (be 4 data.length ++ [] ++ data))
    : Calls Tryz.prog 122 #[.int .i64 sh, .int .i64 lo, .slice dA data.length dC, .int .i64 (-1)] w fun e w' => ∃ v, e = .returned v ∧ PcsNe 2 w.heap.size w' v G ∧ Chg (fun _ => False) w w' := by
  have HS := Lib.hid hs; have HL := Lib.hid hlen; have HG1 := Lib.hid hg1; have HG2 := Lib.hid hg2
  clear hs hg1 hg2
  go_enter Tryz.func122, Tryz.ntmps122
  go_wp2_with fail
  go_loopw [9, 20] (fun out i wr => ∃ k : Nat, (k = 0 ∧ i = .int .i64 0 ∨ k = 1 ∧ i = .int .i64 1 ∨ k = 2 ∧ i = .int .i64 2) ∧ (∃ A n c, out = .slice A n c) ∧ Pcs k w.heap.size wr out G ∧ (k = 2 → PcsNe 2 w.heap.size wr out G) ∧ Chg (fun _ => False) w wr ∧ wr.heap[w.heap.size]? = some (.cells #[.int .i64 sh, .int .i64 1, .int .i64 lo, .int .i64 4] 361 (0, 0))) (fun _ i _ => 2 - (intOf i).toNat)
  case atStart => exact ⟨0, .inl ⟨rfl, rfl⟩, ⟨_, _, _, rfl⟩, Pcs.nil _ _ _ _, fun h => absurd h (by decide), (Chg.refl _ w).alloc _, heap_alloc_new _ _⟩
  case round =>
    obtain ⟨k, hk, ⟨A9, n9, c9, rfl⟩, hpcs, hne, hC, hlit⟩ := hrel
    have HPCS := Lib.hid hpcs; have HNE := Lib.hid hne; have HC := Lib.hid hC; have HLIT := Lib.hid hlit
    have hwr : w.heap.size < wr.heap.size := (Array.getElem?_eq_some_iff.1 hlit).1
    clear hpcs hne hC hlit
    rcases hk with ⟨rfl, rfl⟩ | ⟨rfl, rfl⟩ | ⟨rfl, rfl⟩
    · have z0 := blk_cell (k := 0) HLIT.out rfl
      have z1 := blk_cell (k := 1) HLIT.out rfl
      rcases Nat.lt_or_ge 255 data.length with hsm | hsm
      · have hgt : decide ((data.length : Int) > 255) = true := by simp; omega
        go_wp2_with fail
        go_roundw
        case rel => exact ⟨1, .inr (.inl ⟨rfl, rfl⟩), ⟨_, _, _, rfl⟩, (HPCS.out.chg (((Chg.refl (fun _ => False) wr).alloc _).alloc _) (fun _ h => h.elim)).more (by decide), fun h => absurd h (by decide), ((HC.out.alloc _).alloc _), ((((Chg.refl (fun _ => False) wr).alloc _).alloc _).blkF HLIT.out)⟩
        case measure => simp [intOf]
      · have hgt : decide ((data.length : Int) > 255) = false := by simp; omega
        go_upto_region 11 with (fail)
        refine wp_any_world (fun w' => Chg (fun _ => False) wr w' ∧ w'.heap[wr.heap.size]? = some (.cells #[.int .i64 sh, .int .i64 1] 361 (0, 0)) ∧ Bs w' (.slice (some ⟨wr.heap.size + 1, 0, none⟩) 0 0) []) ⟨((Chg.refl _ wr).alloc _).alloc _, ((Chg.refl (fun _ => False) _).alloc _).blkF (heap_alloc_new _ _), Bs.of_own (by simpa using own8_make (wr.alloc (.cells #[.int .i64 sh, .int .i64 1] 361)) 0 (Nat.zero_le _))⟩ ?_
        rintro wR ⟨hR1, hfb, hbs⟩
        have x0 := blk_cell (k := 0) hfb rfl
        have x1 := blk_cell (k := 1) hfb rfl
        have HPCS := Lib.hid (HPCS.out.chg hR1 (fun _ h => h.elim))
        have HLITR := Lib.hid (hR1.blkF HLIT.out)
        have HHEAD := Lib.hid hbs
        have HDATA := Lib.hid (HS.out.chg (HC.out.reads hR1))
        have HGD : Hid (G sh (be 1 data.length ++ [] ++ data)) := Lib.hid (HG1.out (by omega))
        have HKQ : Hid (0 + 1 ≤ 1000) := Lib.hid (by decide)
        have HS8 : Hid (1 ≤ 8) := Lib.hid (by decide)
        have HB1 : w.heap.size ≤ wR.heap.size := (HC.out.reads hR1).size
        have HHL : Hid (1 + ([] : List UInt8).length + data.length ≤ 140737488355328) := Lib.hid (by simp; omega)
        have HCR := Lib.hid (HC.out.reads hR1)
        clear hbs hfb hR1
        refine wp_region_relZ (RL11 wR w.heap.size wr.heap.size data.length 1 0 sh (.slice A9 n9 c9) (.slice dA data.length dC) (.slice (some ⟨wr.heap.size + 1, 0, none⟩) 0 0) [] data G) 14 (fun b w' => Chg (fun k => b = true ∧ ((.slice A9 n9 c9) : Value).ownBlock = some k) wR w') [15] (by kernel_rfl) (by kernel_rfl) (by kernel_rfl) (by kernel_rfl) ((Chg.refl _ wR).drewN 1) ?steps0 ?fin0
        case steps0 =>
            refine ⟨⟨rfl, ?_⟩, ⟨rfl, ?_⟩, ⟨rfl, ?_⟩, ⟨rfl, ?_⟩, ⟨rfl, ?_⟩, ⟨rfl, ?_⟩, ⟨rfl, ?_⟩, ⟨rfl, ?_⟩, ⟨rfl, ?_⟩, ⟨rfl, ?_⟩, ⟨rfl, ?_⟩, ⟨rfl, ?_⟩, ⟨rfl, ?_⟩, ⟨rfl, ?_⟩, ⟨rfl, ?_⟩, ⟨rfl, ?_⟩, trivial⟩
            all_goals (intro vals ev c w1 b hz1 hz2 hz3 hc hI hR hv h0 hcst hfn hgl)
            · obtain rfl := hz1 (by kernel_rfl)
              have HF : Chg (fun _ => False) wR w1 := hI.mono (fun k h => Bool.noConfusion h.1)
              have e9 : ev (.tmp 9) = (.slice A9 n9 c9) := h0 9 (by kernel_rfl)
              exact does_value rfl ⟨⟨e9, HF⟩, HF.any, fun i_ x_ m_ _ _ h_ => RL11_ext wR w.heap.size wr.heap.size data.length 1 0 sh (.slice A9 n9 c9) (.slice dA data.length dC) (.slice (some ⟨wr.heap.size + 1, 0, none⟩) 0 0) [] data G h_ (Chg.refl _ _)⟩
            · obtain rfl := hz1 (by kernel_rfl)
              have HF : Chg (fun _ => False) wR w1 := hI.mono (fun k h => Bool.noConfusion h.1)
              have e11 : ev (.tmp 11) = .pointer (some ⟨wr.heap.size, 0, none⟩) := h0 11 (by kernel_rfl)
              have l_x0 := Chg.cell HF x0 (fun h => h)
              have l_x1 := Chg.cell HF x1 (fun h => h)
              clear hR hv h0 hc
              refine Step.fixed (x := .pointer (some ⟨wr.heap.size, 0, none⟩)) ?_ ⟨rfl, HF.any, fun i_ x_ m_ _ _ h_ => RL11_ext wR w.heap.size wr.heap.size data.length 1 0 sh (.slice A9 n9 c9) (.slice dA data.length dC) (.slice (some ⟨wr.heap.size + 1, 0, none⟩) 0 0) [] data G h_ (Chg.refl _ _)⟩
              unfold OpDoes
              go_simp
            · obtain rfl := hz1 (by kernel_rfl)
              have HF : Chg (fun _ => False) wR w1 := hI.mono (fun k h => Bool.noConfusion h.1)
              have e53 : ev (.tmp 53) = .pointer (some ⟨wr.heap.size, 0, none⟩) := (hv 1 53 (by kernel_rfl) (by kernel_rfl) (Nat.le_of_ble_eq_true (by kernel_rfl))).trans (hR 1 (by kernel_rfl))
              have l_x0 := Chg.cell HF x0 (fun h => h)
              have l_x1 := Chg.cell HF x1 (fun h => h)
              clear hR hv h0 hc
              refine Step.fixed (x := .int .i64 sh) ?_ ⟨rfl, HF.any, fun i_ x_ m_ _ _ h_ => RL11_ext wR w.heap.size wr.heap.size data.length 1 0 sh (.slice A9 n9 c9) (.slice dA data.length dC) (.slice (some ⟨wr.heap.size + 1, 0, none⟩) 0 0) [] data G h_ (Chg.refl _ _)⟩
              unfold OpDoes
              go_simp
            · obtain rfl := hz1 (by kernel_rfl)
              have HF : Chg (fun _ => False) wR w1 := hI.mono (fun k h => Bool.noConfusion h.1)
              have e12 : ev (.tmp 12) = .int .i64 (data.length : Int) := h0 12 (by kernel_rfl)
              have l_x0 := Chg.cell HF x0 (fun h => h)
              have l_x1 := Chg.cell HF x1 (fun h => h)
              clear hR hv h0 hc
              refine Step.fixed (x := .int .i64 (data.length : Int)) ?_ ⟨rfl, HF.any, fun i_ x_ m_ _ _ h_ => RL11_ext wR w.heap.size wr.heap.size data.length 1 0 sh (.slice A9 n9 c9) (.slice dA data.length dC) (.slice (some ⟨wr.heap.size + 1, 0, none⟩) 0 0) [] data G h_ (Chg.refl _ _)⟩
              unfold OpDoes
              go_simp
            · obtain rfl := hz1 (by kernel_rfl)
              have HF : Chg (fun _ => False) wR w1 := hI.mono (fun k h => Bool.noConfusion h.1)
              have e55 : ev (.tmp 55) = .int .i64 (data.length : Int) := (hv 3 55 (by kernel_rfl) (by kernel_rfl) (Nat.le_of_ble_eq_true (by kernel_rfl))).trans (hR 3 (by kernel_rfl))
              have l_x0 := Chg.cell HF x0 (fun h => h)
              have l_x1 := Chg.cell HF x1 (fun h => h)
              have hwr_ : IntKind.u64.wrap ((data.length : Int)) = (data.length : Int) := u64_inI (by omega) (by omega)
              clear hR hv h0 hc
              refine Step.fixed (x := .int .u64 (data.length : Int)) ?_ ⟨rfl, HF.any, fun i_ x_ m_ _ _ h_ => RL11_ext wR w.heap.size wr.heap.size data.length 1 0 sh (.slice A9 n9 c9) (.slice dA data.length dC) (.slice (some ⟨wr.heap.size + 1, 0, none⟩) 0 0) [] data G h_ (Chg.refl _ _)⟩
              unfold OpDoes
              go_simp
            · obtain rfl := hz1 (by kernel_rfl)
              have HF : Chg (fun _ => False) wR w1 := hI.mono (fun k h => Bool.noConfusion h.1)
              have e11 : ev (.tmp 11) = .pointer (some ⟨wr.heap.size, 0, none⟩) := h0 11 (by kernel_rfl)
              have l_x0 := Chg.cell HF x0 (fun h => h)
              have l_x1 := Chg.cell HF x1 (fun h => h)
              clear hR hv h0 hc
              refine Step.fixed (x := .pointer (some ⟨wr.heap.size, 1, none⟩)) ?_ ⟨rfl, HF.any, fun i_ x_ m_ _ _ h_ => RL11_ext wR w.heap.size wr.heap.size data.length 1 0 sh (.slice A9 n9 c9) (.slice dA data.length dC) (.slice (some ⟨wr.heap.size + 1, 0, none⟩) 0 0) [] data G h_ (Chg.refl _ _)⟩
              unfold OpDoes
              go_simp
            · obtain rfl := hz1 (by kernel_rfl)
              have HF : Chg (fun _ => False) wR w1 := hI.mono (fun k h => Bool.noConfusion h.1)
              have e57 : ev (.tmp 57) = .pointer (some ⟨wr.heap.size, 1, none⟩) := (hv 5 57 (by kernel_rfl) (by kernel_rfl) (Nat.le_of_ble_eq_true (by kernel_rfl))).trans (hR 5 (by kernel_rfl))
              have l_x0 := Chg.cell HF x0 (fun h => h)
              have l_x1 := Chg.cell HF x1 (fun h => h)
              clear hR hv h0 hc
              refine Step.fixed (x := .int .i64 (1 : Int)) ?_ ⟨rfl, HF.any, fun i_ x_ m_ _ _ h_ => RL11_ext wR w.heap.size wr.heap.size data.length 1 0 sh (.slice A9 n9 c9) (.slice dA data.length dC) (.slice (some ⟨wr.heap.size + 1, 0, none⟩) 0 0) [] data G h_ (Chg.refl _ _)⟩
              unfold OpDoes
              go_simp
            · obtain rfl := hz1 (by kernel_rfl)
              have HF : Chg (fun _ => False) wR w1 := hI.mono (fun k h => Bool.noConfusion h.1)
              have e56 : ev (.tmp 56) = .int .u64 (data.length : Int) := (hv 4 56 (by kernel_rfl) (by kernel_rfl) (Nat.le_of_ble_eq_true (by kernel_rfl))).trans (hR 4 (by kernel_rfl))
              have e58 : ev (.tmp 58) = .int .i64 (1 : Int) := (hv 6 58 (by kernel_rfl) (by kernel_rfl) (Nat.le_of_ble_eq_true (by kernel_rfl))).trans (hR 6 (by kernel_rfl))
              have hf := hfn 174
              clear hR hv h0 hc
              unfold OpDoes
              go_simp
              refine (big_calls data.length 1 HS8.out w1).mono ?_
              rintro _ w2 ⟨v7, rfl, ho, hC⟩
              exact ⟨_, rfl, Own8.base_le ho HF.size, (HF.reads hC).any, fun i_ x_ m_ _ _ h_ => RL11_ext wR w.heap.size wr.heap.size data.length 1 0 sh (.slice A9 n9 c9) (.slice dA data.length dC) (.slice (some ⟨wr.heap.size + 1, 0, none⟩) 0 0) [] data G h_ hC⟩
            · obtain rfl := hz1 (by kernel_rfl)
              have HF : Chg (fun _ => False) wR w1 := hI.mono (fun k h => Bool.noConfusion h.1)
              have e13 : ev (.tmp 13) = (.slice (some ⟨wr.heap.size + 1, 0, none⟩) 0 0) := h0 13 (by kernel_rfl)
              have l_x0 := Chg.cell HF x0 (fun h => h)
              have l_x1 := Chg.cell HF x1 (fun h => h)
              clear hR hv h0 hc
              refine Step.fixed (x := (.slice (some ⟨wr.heap.size + 1, 0, none⟩) 0 0)) ?_ ⟨rfl, HF.any, fun i_ x_ m_ _ _ h_ => RL11_ext wR w.heap.size wr.heap.size data.length 1 0 sh (.slice A9 n9 c9) (.slice dA data.length dC) (.slice (some ⟨wr.heap.size + 1, 0, none⟩) 0 0) [] data G h_ (Chg.refl _ _)⟩
              unfold OpDoes
              go_simp
            · obtain rfl := hz1 (by kernel_rfl)
              have HF : Chg (fun _ => False) wR w1 := hI.mono (fun k h => Bool.noConfusion h.1)
              have e59 : ev (.tmp 59) = vals 7 := hv 7 59 (by kernel_rfl) (by kernel_rfl) (Nat.le_of_ble_eq_true (by kernel_rfl))
              have e60 : ev (.tmp 60) = (.slice (some ⟨wr.heap.size + 1, 0, none⟩) 0 0) := (hv 8 60 (by kernel_rfl) (by kernel_rfl) (Nat.le_of_ble_eq_true (by kernel_rfl))).trans (hR 8 (by kernel_rfl))
              have h7 : Own8 w1 wR.heap.size (vals 7) (be 1 data.length) := hR 7 (by kernel_rfl)
              obtain ⟨v1, w', hrun, ho, hg, _⟩ := run_app8' h7 (HHEAD.out.chgX HF (fun _ _ h => h)) (by rw [be_length]; have := HHL.out; omega) HF.size
              have hC : Chg (fun k => wR.heap.size ≤ k) w1 w' := (Chg.refl _ w1).grown hg (fun k hk _ => (World.ownsRow.lt h7 k hk).1)
              refine does_value' (w' := w') (v := v1) (by simp only [execOp, e59, e60, resolve, invoke, builtin, List.map_toArray, List.map_cons, List.map_nil, Sem.run_bind, Sem.run_pure, Result.andThen_ok, hrun]) ⟨ho, (HF.widen hC (Nat.le_refl _)).any, fun i_ x_ m_ hne hk h_ => ?_⟩
              have hmem := keep_in [0, 1, 2, 10, 9] (by kernel_rfl) (by kernel_rfl) (by kernel_rfl) hk
              exact RL11_wide wR w.heap.size wr.heap.size data.length 1 0 sh (.slice A9 n9 c9) (.slice dA data.length dC) (.slice (some ⟨wr.heap.size + 1, 0, none⟩) 0 0) [] data G (by simp only [List.mem_cons, List.not_mem_nil, or_false] at hmem ⊢; omega) h_ hC
            · obtain rfl := hz1 (by kernel_rfl)
              have HF : Chg (fun _ => False) wR w1 := hI.mono (fun k h => Bool.noConfusion h.1)
              have e2 : ev (.tmp 2) = (.slice dA data.length dC) := h0 2 (by kernel_rfl)
              have l_x0 := Chg.cell HF x0 (fun h => h)
              have l_x1 := Chg.cell HF x1 (fun h => h)
              clear hR hv h0 hc
              refine Step.fixed (x := (.slice dA data.length dC)) ?_ ⟨rfl, HF.any, fun i_ x_ m_ _ _ h_ => RL11_ext wR w.heap.size wr.heap.size data.length 1 0 sh (.slice A9 n9 c9) (.slice dA data.length dC) (.slice (some ⟨wr.heap.size + 1, 0, none⟩) 0 0) [] data G h_ (Chg.refl _ _)⟩
              unfold OpDoes
              go_simp
            · obtain rfl := hz1 (by kernel_rfl)
              have HF : Chg (fun _ => False) wR w1 := hI.mono (fun k h => Bool.noConfusion h.1)
              have e61 : ev (.tmp 61) = vals 9 := hv 9 61 (by kernel_rfl) (by kernel_rfl) (Nat.le_of_ble_eq_true (by kernel_rfl))
              have e62 : ev (.tmp 62) = (.slice dA data.length dC) := (hv 10 62 (by kernel_rfl) (by kernel_rfl) (Nat.le_of_ble_eq_true (by kernel_rfl))).trans (hR 10 (by kernel_rfl))
              have h9 : Own8 w1 wR.heap.size (vals 9) (be 1 data.length ++ []) := hR 9 (by kernel_rfl)
              obtain ⟨v1, w', hrun, ho, hg, _⟩ := run_app8' h9 (HDATA.out.chgX HF (fun _ _ h => h)) (by rw [List.length_append, be_length]; have := HHL.out; omega) HF.size
              have hC : Chg (fun k => wR.heap.size ≤ k) w1 w' := (Chg.refl _ w1).grown hg (fun k hk _ => (World.ownsRow.lt h9 k hk).1)
              refine does_value' (w' := w') (v := v1) (by simp only [execOp, e61, e62, resolve, invoke, builtin, List.map_toArray, List.map_cons, List.map_nil, Sem.run_bind, Sem.run_pure, Result.andThen_ok, hrun]) ⟨ho, (HF.widen hC (Nat.le_refl _)).any, fun i_ x_ m_ hne hk h_ => ?_⟩
              have hmem := keep_in [0, 1, 2, 10, 11] (by kernel_rfl) (by kernel_rfl) (by kernel_rfl) hk
              exact RL11_wide wR w.heap.size wr.heap.size data.length 1 0 sh (.slice A9 n9 c9) (.slice dA data.length dC) (.slice (some ⟨wr.heap.size + 1, 0, none⟩) 0 0) [] data G (by simp only [List.mem_cons, List.not_mem_nil, or_false] at hmem ⊢; omega) h_ hC
            · obtain rfl := hz1 (by kernel_rfl)
              have HF : Chg (fun _ => False) wR w1 := hI.mono (fun k h => Bool.noConfusion h.1)
              have e54 : ev (.tmp 54) = .int .i64 sh := (hv 2 54 (by kernel_rfl) (by kernel_rfl) (Nat.le_of_ble_eq_true (by kernel_rfl))).trans (hR 2 (by kernel_rfl))
              have e63 : ev (.tmp 63) = vals 11 := hv 11 63 (by kernel_rfl) (by kernel_rfl) (Nat.le_of_ble_eq_true (by kernel_rfl))
              have h7 : Own8 w1 wR.heap.size (vals 11) ((be 1 data.length ++ []) ++ data) := hR 11 (by kernel_rfl)
              obtain ⟨A7, n7, c7, h7e⟩ := h7.slice
              rw [h7e] at e63 h7
              have H7 := Lib.hid h7; clear h7 h7e
              clear hR hv h0 hc
              refine Step.fixed (x := .agg #[.int .i64 sh, .slice A7 n7 c7]) ?_ ⟨⟨_, _, _, rfl, H7.out⟩, HF.any, fun i_ x_ m_ _ _ h_ => RL11_ext wR w.heap.size wr.heap.size data.length 1 0 sh (.slice A9 n9 c9) (.slice dA data.length dC) (.slice (some ⟨wr.heap.size + 1, 0, none⟩) 0 0) [] data G h_ (Chg.refl _ _)⟩
              unfold OpDoes
              go_simp
            · obtain rfl := hz1 (by kernel_rfl)
              have HF : Chg (fun _ => False) wR w1 := hI.mono (fun k h => Bool.noConfusion h.1)
              have e64 : ev (.tmp 64) = vals 12 := hv 12 64 (by kernel_rfl) (by kernel_rfl) (Nat.le_of_ble_eq_true (by kernel_rfl))
              obtain ⟨A7, n7, c7, g1, g2⟩ := (hR 12 (by kernel_rfl) : ∃ A7 n7 c7, vals 12 = .agg #[.int .i64 sh, .slice A7 n7 c7] ∧ Own8 w1 wR.heap.size (.slice A7 n7 c7) ((be 1 data.length ++ []) ++ data))
              rw [g1] at e64
              have H7 := Lib.hid g2; clear g1 g2
              clear hR hv h0 hc
              refine OpDoes.mono (p := fun v w2 => v = .slice (some ⟨w1.heap.size, 0, none⟩) 1 1 ∧ w2 = w1.alloc (.cells #[.int .i64 sh, .slice A7 n7 c7] 154)) ?_ ?_
              · unfold OpDoes
                go_simp
              · rintro v w2 ⟨rfl, rfl⟩
                have hok : PcOk w.heap.size w1 G (.int .i64 sh, .slice A7 n7 c7) := ⟨_, _, rfl, .of_own (Own8.base_le H7.out HB1), HGD.out⟩
                exact ⟨⟨_, rfl, PcsNe.lit1 hok (Nat.le_trans HB1 HF.size)⟩, (HF.reads ((Chg.refl _ _).alloc _)).any, fun i_ x_ m_ _ _ h_ => RL11_ext wR w.heap.size wr.heap.size data.length 1 0 sh (.slice A9 n9 c9) (.slice dA data.length dC) (.slice (some ⟨wr.heap.size + 1, 0, none⟩) 0 0) [] data G h_ ((Chg.refl _ _).alloc _)⟩
            · obtain rfl := hz2 rfl
              have HF : Chg (fun _ => False) wR w1 := hI.mono (fun k h => Bool.noConfusion h.1)
              have e52 : ev (.tmp 52) = vals 0 := hv 0 52 (by kernel_rfl) (by kernel_rfl) (Nat.le_of_ble_eq_true (by kernel_rfl))
              have e65 : ev (.tmp 65) = vals 13 := hv 13 65 (by kernel_rfl) (by kernel_rfl) (Nat.le_of_ble_eq_true (by kernel_rfl))
              obtain ⟨g, g1, g3⟩ := (hR 13 (by kernel_rfl) : ∃ g, vals 13 = .slice (some ⟨g, 0, none⟩) 1 1 ∧ PcsNe 1 w.heap.size w1 (vals 13) G)
              obtain ⟨o1, o2⟩ := (hR 0 (by kernel_rfl) : vals 0 = (.slice A9 n9 c9) ∧ Chg (fun _ => False) wR w1)
              rw [o1] at e52
              rw [g1] at e65 g3
              obtain ⟨v1, w', hrun, hp, _, hgr⟩ := run_appP (HPCS.out.chg o2 (fun _ h => h.elim)) g3 HKQ.out (Nat.le_trans HB1 o2.size)
              refine does_value' (w' := w') (v := v1) (by simp only [execOp, e52, e65, resolve, invoke, builtin, List.map_toArray, List.map_cons, List.map_nil, Sem.run_bind, Sem.run_pure, Result.andThen_ok, hrun]) ⟨hp, HF.any.grown hgr (fun k hk _ => ⟨rfl, hk⟩), fun i_ x_ m_ hne hk h_ => ?_⟩
              have hmem := keep_in [14] (by kernel_rfl) (by kernel_rfl) (by kernel_rfl) hk
              simp only [List.mem_cons, List.not_mem_nil, or_false] at hmem
              exact absurd hmem hne
            · have e66 : ev (.tmp 66) = vals 14 := hv 14 66 (by kernel_rfl) (by kernel_rfl) (Nat.le_of_ble_eq_true (by kernel_rfl))
              have h14 : PcsNe (0 + 1) w.heap.size w1 (vals 14) G := hR 14 (by kernel_rfl)
              exact does_value rfl ⟨e66 ▸ h14, hI.mono (fun k h => ⟨by rw [h.1]; rfl, h.2⟩), fun i_ x_ m_ _ _ h_ => RL11_ext wR w.heap.size wr.heap.size data.length 1 0 sh (.slice A9 n9 c9) (.slice dA data.length dC) (.slice (some ⟨wr.heap.size + 1, 0, none⟩) 0 0) [] data G h_ (Chg.refl _ _)⟩
        case fin0 =>
          intro vals c wZ hb hfin
          obtain ⟨b, hZ⟩ := hb
          have h15 : PcsNe (0 + 1) w.heap.size wZ (vals 15) G := hfin 15 (by kernel_rfl) (by decide)
          clear hfin
          obtain ⟨gZ, lenZ, cZ, e15, _⟩ := h15.at
          rw [e15] at h15
          have HP := Lib.hid h15
          have HCZ := Lib.hid (HCR.out.trans hZ (fun i hi h => absurd hi (Nat.not_lt.2 (HPCS.out.own h.2))))
          have HLZ := Lib.hid ((hZ.block _ (Array.getElem?_eq_some_iff.1 HLITR.out).1 (fun h => HPCS.out.apart HLITR.out (by decide) h.2)).trans HLITR.out)
          clear h15 hZ x0 x1
          simp only [putAll, Act.put, List.setIfInBounds_toArray, List.set_cons_zero, List.set_cons_succ, Nat.reduceAdd]
          rw [e15]
          clear e15
          go_wp2_with fail
          go_roundw
          case rel => exact ⟨1, .inr (.inl ⟨rfl, rfl⟩), ⟨_, _, _, rfl⟩, HP.out.pcs, fun h => absurd h (by decide), HCZ.out, HLZ.out⟩
          case measure => simp [intOf]
    · have z0 := blk_cell (k := 2) HLIT.out rfl
      have z1 := blk_cell (k := 3) HLIT.out rfl
      go_upto_region 11 with (fail)
      refine wp_any_world (fun w' => Chg (fun _ => False) wr w' ∧ w'.heap[wr.heap.size]? = some (.cells #[.int .i64 lo, .int .i64 4] 361 (0, 0)) ∧ Bs w' (.slice (some ⟨wr.heap.size + 1, 0, none⟩) 0 0) []) ⟨((Chg.refl _ wr).alloc _).alloc _, ((Chg.refl (fun _ => False) _).alloc _).blkF (heap_alloc_new _ _), Bs.of_own (by simpa using own8_make (wr.alloc (.cells #[.int .i64 lo, .int .i64 4] 361)) 0 (Nat.zero_le _))⟩ ?_
      rintro wR ⟨hR1, hfb, hbs⟩
      have x0 := blk_cell (k := 0) hfb rfl
      have x1 := blk_cell (k := 1) hfb rfl
      have HPCS := Lib.hid (HPCS.out.chg hR1 (fun _ h => h.elim))
      have HLITR := Lib.hid (hR1.blkF HLIT.out)
      have HHEAD := Lib.hid hbs
      have HDATA := Lib.hid (HS.out.chg (HC.out.reads hR1))
      have HGD : Hid (G lo (be 4 data.length ++ [] ++ data)) := Lib.hid (HG2.out)
      have HKQ : Hid (1 + 1 ≤ 1000) := Lib.hid (by decide)
      have HS8 : Hid (4 ≤ 8) := Lib.hid (by decide)
      have HB1 : w.heap.size ≤ wR.heap.size := (HC.out.reads hR1).size
      have HHL : Hid (4 + ([] : List UInt8).length + data.length ≤ 140737488355328) := Lib.hid (by simp; omega)
      have HCR := Lib.hid (HC.out.reads hR1)
      clear hbs hfb hR1
      refine wp_region_relZ (RL11 wR w.heap.size wr.heap.size data.length 4 1 lo (.slice A9 n9 c9) (.slice dA data.length dC) (.slice (some ⟨wr.heap.size + 1, 0, none⟩) 0 0) [] data G) 14 (fun b w' => Chg (fun k => b = true ∧ ((.slice A9 n9 c9) : Value).ownBlock = some k) wR w') [15] (by kernel_rfl) (by kernel_rfl) (by kernel_rfl) (by kernel_rfl) ((Chg.refl _ wR).drewN 1) ?steps1 ?fin1
      case steps1 =>
          refine ⟨⟨rfl, ?_⟩, ⟨rfl, ?_⟩, ⟨rfl, ?_⟩, ⟨rfl, ?_⟩, ⟨rfl, ?_⟩, ⟨rfl, ?_⟩, ⟨rfl, ?_⟩, ⟨rfl, ?_⟩, ⟨rfl, ?_⟩, ⟨rfl, ?_⟩, ⟨rfl, ?_⟩, ⟨rfl, ?_⟩, ⟨rfl, ?_⟩, ⟨rfl, ?_⟩, ⟨rfl, ?_⟩, ⟨rfl, ?_⟩, trivial⟩
          all_goals (intro vals ev c w1 b hz1 hz2 hz3 hc hI hR hv h0 hcst hfn hgl)
          · obtain rfl := hz1 (by kernel_rfl)
            have HF : Chg (fun _ => False) wR w1 := hI.mono (fun k h => Bool.noConfusion h.1)
            have e9 : ev (.tmp 9) = (.slice A9 n9 c9) := h0 9 (by kernel_rfl)
            exact does_value rfl ⟨⟨e9, HF⟩, HF.any, fun i_ x_ m_ _ _ h_ => RL11_ext wR w.heap.size wr.heap.size data.length 4 1 lo (.slice A9 n9 c9) (.slice dA data.length dC) (.slice (some ⟨wr.heap.size + 1, 0, none⟩) 0 0) [] data G h_ (Chg.refl _ _)⟩
          · obtain rfl := hz1 (by kernel_rfl)
            have HF : Chg (fun _ => False) wR w1 := hI.mono (fun k h => Bool.noConfusion h.1)
            have e11 : ev (.tmp 11) = .pointer (some ⟨wr.heap.size, 0, none⟩) := h0 11 (by kernel_rfl)
            have l_x0 := Chg.cell HF x0 (fun h => h)
            have l_x1 := Chg.cell HF x1 (fun h => h)
            clear hR hv h0 hc
            refine Step.fixed (x := .pointer (some ⟨wr.heap.size, 0, none⟩)) ?_ ⟨rfl, HF.any, fun i_ x_ m_ _ _ h_ => RL11_ext wR w.heap.size wr.heap.size data.length 4 1 lo (.slice A9 n9 c9) (.slice dA data.length dC) (.slice (some ⟨wr.heap.size + 1, 0, none⟩) 0 0) [] data G h_ (Chg.refl _ _)⟩
            unfold OpDoes
            go_simp
          · obtain rfl := hz1 (by kernel_rfl)
            have HF : Chg (fun _ => False) wR w1 := hI.mono (fun k h => Bool.noConfusion h.1)
            have e53 : ev (.tmp 53) = .pointer (some ⟨wr.heap.size, 0, none⟩) := (hv 1 53 (by kernel_rfl) (by kernel_rfl) (Nat.le_of_ble_eq_true (by kernel_rfl))).trans (hR 1 (by kernel_rfl))
            have l_x0 := Chg.cell HF x0 (fun h => h)
            have l_x1 := Chg.cell HF x1 (fun h => h)
            clear hR hv h0 hc
            refine Step.fixed (x := .int .i64 lo) ?_ ⟨rfl, HF.any, fun i_ x_ m_ _ _ h_ => RL11_ext wR w.heap.size wr.heap.size data.length 4 1 lo (.slice A9 n9 c9) (.slice dA data.length dC) (.slice (some ⟨wr.heap.size + 1, 0, none⟩) 0 0) [] data G h_ (Chg.refl _ _)⟩
            unfold OpDoes
            go_simp
          · obtain rfl := hz1 (by kernel_rfl)
            have HF : Chg (fun _ => False) wR w1 := hI.mono (fun k h => Bool.noConfusion h.1)
            have e12 : ev (.tmp 12) = .int .i64 (data.length : Int) := h0 12 (by kernel_rfl)
            have l_x0 := Chg.cell HF x0 (fun h => h)
            have l_x1 := Chg.cell HF x1 (fun h => h)
            clear hR hv h0 hc
            refine Step.fixed (x := .int .i64 (data.length : Int)) ?_ ⟨rfl, HF.any, fun i_ x_ m_ _ _ h_ => RL11_ext wR w.heap.size wr.heap.size data.length 4 1 lo (.slice A9 n9 c9) (.slice dA data.length dC) (.slice (some ⟨wr.heap.size + 1, 0, none⟩) 0 0) [] data G h_ (Chg.refl _ _)⟩
            unfold OpDoes
            go_simp
          · obtain rfl := hz1 (by kernel_rfl)
            have HF : Chg (fun _ => False) wR w1 := hI.mono (fun k h => Bool.noConfusion h.1)
            have e55 : ev (.tmp 55) = .int .i64 (data.length : Int) := (hv 3 55 (by kernel_rfl) (by kernel_rfl) (Nat.le_of_ble_eq_true (by kernel_rfl))).trans (hR 3 (by kernel_rfl))
            have l_x0 := Chg.cell HF x0 (fun h => h)
            have l_x1 := Chg.cell HF x1 (fun h => h)
            have hwr_ : IntKind.u64.wrap ((data.length : Int)) = (data.length : Int) := u64_inI (by omega) (by omega)
            clear hR hv h0 hc
            refine Step.fixed (x := .int .u64 (data.length : Int)) ?_ ⟨rfl, HF.any, fun i_ x_ m_ _ _ h_ => RL11_ext wR w.heap.size wr.heap.size data.length 4 1 lo (.slice A9 n9 c9) (.slice dA data.length dC) (.slice (some ⟨wr.heap.size + 1, 0, none⟩) 0 0) [] data G h_ (Chg.refl _ _)⟩
            unfold OpDoes
            go_simp
          · obtain rfl := hz1 (by kernel_rfl)
            have HF : Chg (fun _ => False) wR w1 := hI.mono (fun k h => Bool.noConfusion h.1)
            have e11 : ev (.tmp 11) = .pointer (some ⟨wr.heap.size, 0, none⟩) := h0 11 (by kernel_rfl)
            have l_x0 := Chg.cell HF x0 (fun h => h)
            have l_x1 := Chg.cell HF x1 (fun h => h)
            clear hR hv h0 hc
            refine Step.fixed (x := .pointer (some ⟨wr.heap.size, 1, none⟩)) ?_ ⟨rfl, HF.any, fun i_ x_ m_ _ _ h_ => RL11_ext wR w.heap.size wr.heap.size data.length 4 1 lo (.slice A9 n9 c9) (.slice dA data.length dC) (.slice (some ⟨wr.heap.size + 1, 0, none⟩) 0 0) [] data G h_ (Chg.refl _ _)⟩
            unfold OpDoes
            go_simp
          · obtain rfl := hz1 (by kernel_rfl)
            have HF : Chg (fun _ => False) wR w1 := hI.mono (fun k h => Bool.noConfusion h.1)
            have e57 : ev (.tmp 57) = .pointer (some ⟨wr.heap.size, 1, none⟩) := (hv 5 57 (by kernel_rfl) (by kernel_rfl) (Nat.le_of_ble_eq_true (by kernel_rfl))).trans (hR 5 (by kernel_rfl))
            have l_x0 := Chg.cell HF x0 (fun h => h)
            have l_x1 := Chg.cell HF x1 (fun h => h)
            clear hR hv h0 hc
            refine Step.fixed (x := .int .i64 (4 : Int)) ?_ ⟨rfl, HF.any, fun i_ x_ m_ _ _ h_ => RL11_ext wR w.heap.size wr.heap.size data.length 4 1 lo (.slice A9 n9 c9) (.slice dA data.length dC) (.slice (some ⟨wr.heap.size + 1, 0, none⟩) 0 0) [] data G h_ (Chg.refl _ _)⟩
            unfold OpDoes
            go_simp
          · obtain rfl := hz1 (by kernel_rfl)
            have HF : Chg (fun _ => False) wR w1 := hI.mono (fun k h => Bool.noConfusion h.1)
            have e56 : ev (.tmp 56) = .int .u64 (data.length : Int) := (hv 4 56 (by kernel_rfl) (by kernel_rfl) (Nat.le_of_ble_eq_true (by kernel_rfl))).trans (hR 4 (by kernel_rfl))
            have e58 : ev (.tmp 58) = .int .i64 (4 : Int) := (hv 6 58 (by kernel_rfl) (by kernel_rfl) (Nat.le_of_ble_eq_true (by kernel_rfl))).trans (hR 6 (by kernel_rfl))
            have hf := hfn 174
            clear hR hv h0 hc
            unfold OpDoes
            go_simp
            refine (big_calls data.length 4 HS8.out w1).mono ?_
            rintro _ w2 ⟨v7, rfl, ho, hC⟩
            exact ⟨_, rfl, Own8.base_le ho HF.size, (HF.reads hC).any, fun i_ x_ m_ _ _ h_ => RL11_ext wR w.heap.size wr.heap.size data.length 4 1 lo (.slice A9 n9 c9) (.slice dA data.length dC) (.slice (some ⟨wr.heap.size + 1, 0, none⟩) 0 0) [] data G h_ hC⟩
          · obtain rfl := hz1 (by kernel_rfl)
            have HF : Chg (fun _ => False) wR w1 := hI.mono (fun k h => Bool.noConfusion h.1)
            have e13 : ev (.tmp 13) = (.slice (some ⟨wr.heap.size + 1, 0, none⟩) 0 0) := h0 13 (by kernel_rfl)
            have l_x0 := Chg.cell HF x0 (fun h => h)
            have l_x1 := Chg.cell HF x1 (fun h => h)
            clear hR hv h0 hc
            refine Step.fixed (x := (.slice (some ⟨wr.heap.size + 1, 0, none⟩) 0 0)) ?_ ⟨rfl, HF.any, fun i_ x_ m_ _ _ h_ => RL11_ext wR w.heap.size wr.heap.size data.length 4 1 lo (.slice A9 n9 c9) (.slice dA data.length dC) (.slice (some ⟨wr.heap.size + 1, 0, none⟩) 0 0) [] data G h_ (Chg.refl _ _)⟩
            unfold OpDoes
            go_simp
          · obtain rfl := hz1 (by kernel_rfl)
            have HF : Chg (fun _ => False) wR w1 := hI.mono (fun k h => Bool.noConfusion h.1)
            have e59 : ev (.tmp 59) = vals 7 := hv 7 59 (by kernel_rfl) (by kernel_rfl) (Nat.le_of_ble_eq_true (by kernel_rfl))
            have e60 : ev (.tmp 60) = (.slice (some ⟨wr.heap.size + 1, 0, none⟩) 0 0) := (hv 8 60 (by kernel_rfl) (by kernel_rfl) (Nat.le_of_ble_eq_true (by kernel_rfl))).trans (hR 8 (by kernel_rfl))
            have h7 : Own8 w1 wR.heap.size (vals 7) (be 4 data.length) := hR 7 (by kernel_rfl)
            obtain ⟨v1, w', hrun, ho, hg, _⟩ := run_app8' h7 (HHEAD.out.chgX HF (fun _ _ h => h)) (by rw [be_length]; have := HHL.out; omega) HF.size
            have hC : Chg (fun k => wR.heap.size ≤ k) w1 w' := (Chg.refl _ w1).grown hg (fun k hk _ => (World.ownsRow.lt h7 k hk).1)
            refine does_value' (w' := w') (v := v1) (by simp only [execOp, e59, e60, resolve, invoke, builtin, List.map_toArray, List.map_cons, List.map_nil, Sem.run_bind, Sem.run_pure, Result.andThen_ok, hrun]) ⟨ho, (HF.widen hC (Nat.le_refl _)).any, fun i_ x_ m_ hne hk h_ => ?_⟩
            have hmem := keep_in [0, 1, 2, 10, 9] (by kernel_rfl) (by kernel_rfl) (by kernel_rfl) hk
            exact RL11_wide wR w.heap.size wr.heap.size data.length 4 1 lo (.slice A9 n9 c9) (.slice dA data.length dC) (.slice (some ⟨wr.heap.size + 1, 0, none⟩) 0 0) [] data G (by simp only [List.mem_cons, List.not_mem_nil, or_false] at hmem ⊢; omega) h_ hC
          · obtain rfl := hz1 (by kernel_rfl)
            have HF : Chg (fun _ => False) wR w1 := hI.mono (fun k h => Bool.noConfusion h.1)
            have e2 : ev (.tmp 2) = (.slice dA data.length dC) := h0 2 (by kernel_rfl)
            have l_x0 := Chg.cell HF x0 (fun h => h)
            have l_x1 := Chg.cell HF x1 (fun h => h)
            clear hR hv h0 hc
            refine Step.fixed (x := (.slice dA data.length dC)) ?_ ⟨rfl, HF.any, fun i_ x_ m_ _ _ h_ => RL11_ext wR w.heap.size wr.heap.size data.length 4 1 lo (.slice A9 n9 c9) (.slice dA data.length dC) (.slice (some ⟨wr.heap.size + 1, 0, none⟩) 0 0) [] data G h_ (Chg.refl _ _)⟩
            unfold OpDoes
            go_simp
          · obtain rfl := hz1 (by kernel_rfl)
            have HF : Chg (fun _ => False) wR w1 := hI.mono (fun k h => Bool.noConfusion h.1)
            have e61 : ev (.tmp 61) = vals 9 := hv 9 61 (by kernel_rfl) (by kernel_rfl) (Nat.le_of_ble_eq_true (by kernel_rfl))
            have e62 : ev (.tmp 62) = (.slice dA data.length dC) := (hv 10 62 (by kernel_rfl) (by kernel_rfl) (Nat.le_of_ble_eq_true (by kernel_rfl))).trans (hR 10 (by kernel_rfl))
            have h9 : Own8 w1 wR.heap.size (vals 9) (be 4 data.length ++ []) := hR 9 (by kernel_rfl)
            obtain ⟨v1, w', hrun, ho, hg, _⟩ := run_app8' h9 (HDATA.out.chgX HF (fun _ _ h => h)) (by rw [List.length_append, be_length]; have := HHL.out; omega) HF.size
            have hC : Chg (fun k => wR.heap.size ≤ k) w1 w' := (Chg.refl _ w1).grown hg (fun k hk _ => (World.ownsRow.lt h9 k hk).1)
            refine does_value' (w' := w') (v := v1) (by simp only [execOp, e61, e62, resolve, invoke, builtin, List.map_toArray, List.map_cons, List.map_nil, Sem.run_bind, Sem.run_pure, Result.andThen_ok, hrun]) ⟨ho, (HF.widen hC (Nat.le_refl _)).any, fun i_ x_ m_ hne hk h_ => ?_⟩
            have hmem := keep_in [0, 1, 2, 10, 11] (by kernel_rfl) (by kernel_rfl) (by kernel_rfl) hk
            exact RL11_wide wR w.heap.size wr.heap.size data.length 4 1 lo (.slice A9 n9 c9) (.slice dA data.length dC) (.slice (some ⟨wr.heap.size + 1, 0, none⟩) 0 0) [] data G (by simp only [List.mem_cons, List.not_mem_nil, or_false] at hmem ⊢; omega) h_ hC
          · obtain rfl := hz1 (by kernel_rfl)
            have HF : Chg (fun _ => False) wR w1 := hI.mono (fun k h => Bool.noConfusion h.1)
            have e54 : ev (.tmp 54) = .int .i64 lo := (hv 2 54 (by kernel_rfl) (by kernel_rfl) (Nat.le_of_ble_eq_true (by kernel_rfl))).trans (hR 2 (by kernel_rfl))
            have e63 : ev (.tmp 63) = vals 11 := hv 11 63 (by kernel_rfl) (by kernel_rfl) (Nat.le_of_ble_eq_true (by kernel_rfl))
            have h7 : Own8 w1 wR.heap.size (vals 11) ((be 4 data.length ++ []) ++ data) := hR 11 (by kernel_rfl)
            obtain ⟨A7, n7, c7, h7e⟩ := h7.slice
            rw [h7e] at e63 h7
            have H7 := Lib.hid h7; clear h7 h7e
            clear hR hv h0 hc
            refine Step.fixed (x := .agg #[.int .i64 lo, .slice A7 n7 c7]) ?_ ⟨⟨_, _, _, rfl, H7.out⟩, HF.any, fun i_ x_ m_ _ _ h_ => RL11_ext wR w.heap.size wr.heap.size data.length 4 1 lo (.slice A9 n9 c9) (.slice dA data.length dC) (.slice (some ⟨wr.heap.size + 1, 0, none⟩) 0 0) [] data G h_ (Chg.refl _ _)⟩
            unfold OpDoes
            go_simp
          · obtain rfl := hz1 (by kernel_rfl)
            have HF : Chg (fun _ => False) wR w1 := hI.mono (fun k h => Bool.noConfusion h.1)
            have e64 : ev (.tmp 64) = vals 12 := hv 12 64 (by kernel_rfl) (by kernel_rfl) (Nat.le_of_ble_eq_true (by kernel_rfl))
            obtain ⟨A7, n7, c7, g1, g2⟩ := (hR 12 (by kernel_rfl) : ∃ A7 n7 c7, vals 12 = .agg #[.int .i64 lo, .slice A7 n7 c7] ∧ Own8 w1 wR.heap.size (.slice A7 n7 c7) ((be 4 data.length ++ []) ++ data))
            rw [g1] at e64
            have H7 := Lib.hid g2; clear g1 g2
            clear hR hv h0 hc
            refine OpDoes.mono (p := fun v w2 => v = .slice (some ⟨w1.heap.size, 0, none⟩) 1 1 ∧ w2 = w1.alloc (.cells #[.int .i64 lo, .slice A7 n7 c7] 154)) ?_ ?_
            · unfold OpDoes
              go_simp
            · rintro v w2 ⟨rfl, rfl⟩
              have hok : PcOk w.heap.size w1 G (.int .i64 lo, .slice A7 n7 c7) := ⟨_, _, rfl, .of_own (Own8.base_le H7.out HB1), HGD.out⟩
              exact ⟨⟨_, rfl, PcsNe.lit1 hok (Nat.le_trans HB1 HF.size)⟩, (HF.reads ((Chg.refl _ _).alloc _)).any, fun i_ x_ m_ _ _ h_ => RL11_ext wR w.heap.size wr.heap.size data.length 4 1 lo (.slice A9 n9 c9) (.slice dA data.length dC) (.slice (some ⟨wr.heap.size + 1, 0, none⟩) 0 0) [] data G h_ ((Chg.refl _ _).alloc _)⟩
          · obtain rfl := hz2 rfl
            have HF : Chg (fun _ => False) wR w1 := hI.mono (fun k h => Bool.noConfusion h.1)
            have e52 : ev (.tmp 52) = vals 0 := hv 0 52 (by kernel_rfl) (by kernel_rfl) (Nat.le_of_ble_eq_true (by kernel_rfl))
            have e65 : ev (.tmp 65) = vals 13 := hv 13 65 (by kernel_rfl) (by kernel_rfl) (Nat.le_of_ble_eq_true (by kernel_rfl))
            obtain ⟨g, g1, g3⟩ := (hR 13 (by kernel_rfl) : ∃ g, vals 13 = .slice (some ⟨g, 0, none⟩) 1 1 ∧ PcsNe 1 w.heap.size w1 (vals 13) G)
            obtain ⟨o1, o2⟩ := (hR 0 (by kernel_rfl) : vals 0 = (.slice A9 n9 c9) ∧ Chg (fun _ => False) wR w1)
            rw [o1] at e52
            rw [g1] at e65 g3
            obtain ⟨v1, w', hrun, hp, _, hgr⟩ := run_appP (HPCS.out.chg o2 (fun _ h => h.elim)) g3 HKQ.out (Nat.le_trans HB1 o2.size)
            refine does_value' (w' := w') (v := v1) (by simp only [execOp, e52, e65, resolve, invoke, builtin, List.map_toArray, List.map_cons, List.map_nil, Sem.run_bind, Sem.run_pure, Result.andThen_ok, hrun]) ⟨hp, HF.any.grown hgr (fun k hk _ => ⟨rfl, hk⟩), fun i_ x_ m_ hne hk h_ => ?_⟩
            have hmem := keep_in [14] (by kernel_rfl) (by kernel_rfl) (by kernel_rfl) hk
            simp only [List.mem_cons, List.not_mem_nil, or_false] at hmem
            exact absurd hmem hne
          · have e66 : ev (.tmp 66) = vals 14 := hv 14 66 (by kernel_rfl) (by kernel_rfl) (Nat.le_of_ble_eq_true (by kernel_rfl))
            have h14 : PcsNe (1 + 1) w.heap.size w1 (vals 14) G := hR 14 (by kernel_rfl)
            exact does_value rfl ⟨e66 ▸ h14, hI.mono (fun k h => ⟨by rw [h.1]; rfl, h.2⟩), fun i_ x_ m_ _ _ h_ => RL11_ext wR w.heap.size wr.heap.size data.length 4 1 lo (.slice A9 n9 c9) (.slice dA data.length dC) (.slice (some ⟨wr.heap.size + 1, 0, none⟩) 0 0) [] data G h_ (Chg.refl _ _)⟩
      case fin1 =>
        intro vals c wZ hb hfin
        obtain ⟨b, hZ⟩ := hb
        have h15 : PcsNe (1 + 1) w.heap.size wZ (vals 15) G := hfin 15 (by kernel_rfl) (by decide)
        clear hfin
        obtain ⟨gZ, lenZ, cZ, e15, _⟩ := h15.at
        rw [e15] at h15
        have HP := Lib.hid h15
        have HCZ := Lib.hid (HCR.out.trans hZ (fun i hi h => absurd hi (Nat.not_lt.2 (HPCS.out.own h.2))))
        have HLZ := Lib.hid ((hZ.block _ (Array.getElem?_eq_some_iff.1 HLITR.out).1 (fun h => HPCS.out.apart HLITR.out (by decide) h.2)).trans HLITR.out)
        clear h15 hZ x0 x1
        simp only [putAll, Act.put, List.setIfInBounds_toArray, List.set_cons_zero, List.set_cons_succ, Nat.reduceAdd]
        rw [e15]
        clear e15
        go_wp2_with fail
        go_roundw
        case rel => exact ⟨2, .inr (.inr ⟨rfl, rfl⟩), ⟨_, _, _, rfl⟩, HP.out.pcs, fun _ => HP.out, HCZ.out, HLZ.out⟩
        case measure => simp [intOf]
    · go_wp2
      go_ret
      exact ⟨_, rfl, HNE.out trivial, HC.out⟩
end Go.Proofs.S
