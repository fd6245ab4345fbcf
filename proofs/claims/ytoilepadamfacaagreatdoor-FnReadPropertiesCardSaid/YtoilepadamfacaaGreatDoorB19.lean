/- The whole reader of the properties reads each field into its place: for a reader that holds an encoding of the properties. -/
import Derived.Test.YtoilepadamfacaaGreatDoorB18
import Derived.Deep.RegionHeld3
set_option linter.unusedVariables false
set_option linter.unusedSimpArgs false
namespace Go.Proofs.S
open Go.RowKit
/-- Where field k stands. -/
def posOf (p0 : Nat) (encs : List (List UInt8)) (k : Nat) : Nat := p0 + (encs.take k).flatten.length
theorem posOf_zero (p0 : Nat) (encs : List (List UInt8)) : posOf p0 encs 0 = p0 := by simp [posOf]
theorem posOf_all (p0 : Nat) (encs : List (List UInt8)) (k : Nat) (h : encs.length ≤ k) : posOf p0 encs k = p0 + encs.flatten.length := by simp [posOf, List.take_of_length_le h]
theorem posOf_succ (p0 : Nat) (encs : List (List UInt8)) (k : Nat) (h : k < encs.length) : posOf p0 encs (k + 1) = posOf p0 encs k + (encs.getD k []).length := by
  unfold posOf
  rw [List.take_succ_eq_append_getElem h, List.flatten_append, List.length_append]
  simp [List.getD_eq_getElem?_getD, List.getElem?_eq_getElem h]
  omega
theorem posOf_at {bs : List UInt8} {p0 : Nat} {encs : List (List UInt8)} (h : At bs p0 encs.flatten) (k : Nat) (hk : k < encs.length) : At bs (posOf p0 encs k) (encs.getD k []) := by
  have e : encs.flatten = (encs.take k).flatten ++ (encs.getD k [] ++ (encs.drop (k + 1)).flatten) := by
    have h1 : encs = encs.take k ++ (encs.getD k [] :: encs.drop (k + 1)) := by
      rw [List.getD_eq_getElem?_getD, List.getElem?_eq_getElem hk]
      simp
    have h2 := congrArg List.flatten h1
    simpa [List.flatten_append] using h2
  rw [e] at h
  exact h.right.left
def pnul (fc : Nat → PF) (k : Nat) : Bool := match fc k with | .nul => true | _ => false
theorem pnul_t {fc : Nat → PF} {k : Nat} (h : pnul fc k = true) : fc k = .nul := by unfold pnul at h; split at h <;> simp_all
theorem pnul_f {fc : Nat → PF} {k : Nat} (h : pnul fc k = false) : fc k ≠ .nul := by unfold pnul at h; split at h <;> simp_all
def pzero : Array Value := #[.nilIface, .slice none 0 0, .pointer none, .pointer none, .pointer none, .nilIface, .pointer none, .pointer none, .pointer none, .pointer none, .pointer none, .pointer none, .pointer none]
def pcells (x : Nat) : Array Value := #[.iface 132 (.pointer (some ⟨x, 0, none⟩)), .nilFunc, .iface 63 (.pointer (some ⟨x, 1, none⟩)), .nilFunc, .iface 181 (.agg #[.pointer (some ⟨x, 2, none⟩)]), .nilFunc, .iface 181 (.agg #[.pointer (some ⟨x, 3, none⟩)]), .nilFunc, .iface 181 (.agg #[.pointer (some ⟨x, 4, none⟩)]), .nilFunc, .iface 132 (.pointer (some ⟨x, 5, none⟩)), .nilFunc, .iface 181 (.agg #[.pointer (some ⟨x, 6, none⟩)]), .nilFunc, .iface 181 (.agg #[.pointer (some ⟨x, 7, none⟩)]), .nilFunc, .iface 183 (.agg #[.pointer (some ⟨x, 8, none⟩)]), .nilFunc, .iface 183 (.agg #[.pointer (some ⟨x, 9, none⟩)]), .nilFunc, .iface 181 (.agg #[.pointer (some ⟨x, 10, none⟩)]), .nilFunc, .iface 143 (.pointer (some ⟨x, 11, none⟩)), .nilFunc, .iface 181 (.agg #[.pointer (some ⟨x, 12, none⟩)]), .nilFunc]
theorem set_same {cs : Array Value} {j : Nat} {v : Value} (h : cs[j]? = some v) : cs.setIfInBounds j v = cs := by
  apply Array.ext_getElem?
  intro q
  have hj := (Array.getElem?_eq_some_iff.1 h).1
  by_cases hq : j = q
  · subst hq
    rw [Array.getElem?_setIfInBounds_self_of_lt hj, h]
  · rw [Array.getElem?_setIfInBounds_ne hq]
theorem props_comp {w : World} {r d n c i fb K m x : Nat} {bs encC : List UInt8} (fc : Nat → PF) (encs : List (List UInt8)) (hK : encs.length = K) (hK13 : K ≤ 13)
    (h : Buf w r d n c i bs) (hi0 : At bs i [0]) (hu : EncUlong 115 encC) (hue : At bs (i + 1) encC) (hl : LHead bs n (i + 1 + encC.length) K m)
    (hfs : At bs (i + (1 + encC.length + m)) encs.flatten) (henc : ∀ k, k < K → PEnc (fc k) (encs.getD k [])) (hrest : ∀ k, K ≤ k → fc k = .nul) (hok : ∀ j, j < 13 → PFOk j (fc j))
    (hx : w.heap[x]? = some (.cells pzero 73 (0, 0))) (hxr : x ≠ r) (hxd : x ≠ d) (hd : d < w.heap.size) (hbig : n ≤ 140737488355328)
    (hfb : w.heap[fb]? = some (.cells (pcells x) 136 (0, 0))) (hfr : fb ≠ r) (hfx : fb ≠ x) :
    Calls Tryz.prog 59 #[.pointer (some ⟨r, 0, none⟩), .int .u8 115, .slice (some ⟨fb, 0, none⟩) 13 13] w
      (fun e w' => e = .returned .nilIface ∧ Buf w' r d n c (i + (1 + encC.length + m) + encs.flatten.length) bs ∧ Chg (fun b => b = r ∨ b = x) w w' ∧
        ∃ cs, w'.heap[x]? = some (.cells cs 73 (0, 0)) ∧ cs.size = 13 ∧ ∀ j, j < 13 → ∃ v, cs[j]? = some v ∧ PAt w.heap.size j (fc j) w' v) := by
  have hp := unmarshalStruct (w := w) (r := r) (d := d) (n := n) (c := c) (i := i) (fb := fb) (fo := 0) (fcap := 13) (K := K) (N := 13) (m := m) (code := 115) (x := x) (t := 73) (cs0 := pzero) (bs := bs) (enc := encC)
    pft (pfv x) (fun _ => .nilFunc) (fun _ => .inl rfl) (posOf (i + (1 + encC.length + m)) encs) id pinit (fun j w' v => PAt w.heap.size j (fc j) w' v) (pnul fc)
    h hi0 hu hue hl (by decide) hK13 (Nat.le_refl _) (by decide) (posOf_zero _ _) hx ?_ (fun _ _ _ _ h => h) hxr hxd ?_ hfr hfx ?_ ?_ ?_ ?_
  · refine hp.mono ?_
    rintro e w' ⟨he, hB, hC, cs, hcs, hsz, hj⟩
    refine ⟨he, ?_, hC, cs, hcs, hsz, fun j hj13 => ?_⟩
    · have := hB
      rw [Nat.min_eq_right hK13, posOf_all _ _ _ (by omega)] at this
      exact this
    · obtain ⟨v, h1, h2, _⟩ := hj j hj13
      exact ⟨v, h1, h2 hj13⟩
  · intro j hj
    have hcase : j = 0 ∨ j = 1 ∨ j = 2 ∨ j = 3 ∨ j = 4 ∨ j = 5 ∨ j = 6 ∨ j = 7 ∨ j = 8 ∨ j = 9 ∨ j = 10 ∨ j = 11 ∨ j = 12 := by omega
    rcases hcase with rfl | rfl | rfl | rfl | rfl | rfl | rfl | rfl | rfl | rfl | rfl | rfl | rfl <;> rfl
  · intro j hj
    have hcase : j = 0 ∨ j = 1 ∨ j = 2 ∨ j = 3 ∨ j = 4 ∨ j = 5 ∨ j = 6 ∨ j = 7 ∨ j = 8 ∨ j = 9 ∨ j = 10 ∨ j = 11 ∨ j = 12 := by omega
    rcases hcase with rfl | rfl | rfl | rfl | rfl | rfl | rfl | rfl | rfl | rfl | rfl | rfl | rfl <;> exact ⟨blk_cell hfb rfl, blk_cell hfb rfl⟩
  · intro j w1 w2 v hv hc
    exact PAt.mono hv (Nat.le_refl _) hc
  · intro k hk hn
    have hf := pnul_t hn
    have he := henc k hk
    rw [hf] at he
    have hat := posOf_at hfs k (by omega)
    have hs := posOf_succ (i + (1 + encC.length + m)) encs k (by omega)
    generalize encs.getD k [] = en at *
    cases he
    exact ⟨hat, hs⟩
  · intro j hj hn w' cs' p hB hsz hxc hin hsz'
    have hf : fc j = .nul := by
      by_cases hjK : j < K
      · exact pnul_t (hn hjK)
      · exact hrest j (by omega)
    refine .inl ⟨rfl, Chg.refl _ _, pinit j, ?_, ?_⟩
    · rw [hxc]
      rw [set_same (j := id j) hin]
    · show PAt _ j (fc j) w' (pinit j)
      rw [hf]
      rfl
  · intro k hk hn
    have hf := pnul_f hn
    have he := henc k hk
    have hat := posOf_at hfs k (by omega)
    have hs := posOf_succ (i + (1 + encC.length + m)) encs k (by omega)
    obtain ⟨y, l, hyl, hy⟩ := he.head hf
    refine ⟨y, (encs.getD k []).length, by rw [hyl] at hat; exact hat.cut, hy, hs, fun w' cs' hB hC hxc hin hsz' => ?_⟩
    refine (pcall (j := k) (by omega) (hok k (by omega)) hf hB he hat hxc hxr hxd hin (Nat.lt_of_lt_of_le hd hC.size) hbig).mono ?_
    rintro e w'' ⟨h1, h2, h3, v, h4, h5⟩
    exact ⟨h1, h2, h3, v, h4, PAt.mono h5 hC.size (Chg.refl _ _)⟩

set_option maxRecDepth 1000000 in
set_option maxHeartbeats 4000000 in
theorem props_unmarshal {w : World} {r d n c i K m x : Nat} {bs encC : List UInt8} (fc : Nat → PF) (encs : List (List UInt8)) (hK : encs.length = K) (hK13 : K ≤ 13)
    (h : Buf w r d n c i bs) (hi0 : At bs i [0]) (hu : EncUlong 115 encC) (hue : At bs (i + 1) encC) (hl : LHead bs n (i + 1 + encC.length) K m)
    (hfs : At bs (i + (1 + encC.length + m)) encs.flatten) (henc : ∀ k, k < K → PEnc (fc k) (encs.getD k [])) (hrest : ∀ k, K ≤ k → fc k = .nul) (hok : ∀ j, j < 13 → PFOk j (fc j))
    (hx : w.heap[x]? = some (.cells pzero 73 (0, 0))) (hxr : x ≠ r) (hxd : x ≠ d) (hd : d < w.heap.size) (hbig : n ≤ 140737488355328) :
    Calls Tryz.prog 26 #[.pointer (some ⟨x, 0, none⟩), .pointer (some ⟨r, 0, none⟩)] w
      (fun e w' => e = .returned .nilIface ∧ Buf w' r d n c (i + (1 + encC.length + m) + encs.flatten.length) bs ∧ Chg (fun b => b = r ∨ b = x) w w' ∧
        ∃ cs, w'.heap[x]? = some (.cells cs 73 (0, 0)) ∧ cs.size = 13 ∧ ∀ j, j < 13 → ∃ v, cs[j]? = some v ∧ PAt w.heap.size j (fc j) w' v) := by
  have hrs := h.rlt
  have hxs : x < w.heap.size := (Array.getElem?_eq_some_iff.1 hx).1
  have hA : Chg (fun _ => False) w (w.alloc (.cells (pcells x) 136)).drew := ((Chg.refl _ w).alloc _).drewN 1
  have hcall := props_comp (w := (w.alloc (.cells (pcells x) 136)).drew) (fb := w.heap.size) fc encs hK hK13 (h.ext hA) hi0 hu hue hl hfs henc hrest hok (hA.blk hx (fun h => h)) hxr hxd (Nat.lt_of_lt_of_le hd hA.size) hbig (heap_alloc_new w _) (by omega) (by omega)
  have HC := Lib.hid hcall; clear hcall
  have HA := Lib.hid hA; clear hA
  clear hu hue hl hfs henc hrest hok hx hi0 h
  go_enter Tryz.func26, Tryz.ntmps26
  go_wp2
  simp only [List.append_eq, List.cons_append, List.nil_append]
  go_region_held3 (fun _ => True) (exact trivial) (first | (go_at_call 60; refine (new_string _ _).mono ?_; rintro e w' ⟨rfl, rfl⟩) | (go_at_call 61; refine (new_time _ _).mono ?_; rintro e w' ⟨rfl, rfl⟩) | (go_at_call 59; refine HC.out.mono ?_; rintro e w' ⟨rfl, hR⟩))
  go_wp2
  go_ret
  obtain ⟨hB, hC, cs, hcs, hsz, hj⟩ := hR
  refine ⟨rfl, hB, HA.out.any.reads hC, cs, hcs, hsz, fun j hj13 => ?_⟩
  obtain ⟨v, h1, h2⟩ := hj j hj13
  exact ⟨v, h1, PAt.mono h2 HA.out.size (Chg.refl _ _)⟩
end Go.Proofs.S
