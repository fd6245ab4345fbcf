/- Small helpers of the reading side: a copy of a byte row, a new buffer, a value or none: for rows within the machine. -/
import Derived.Test.YtoilepadamfacaaGreatDoorB19
set_option linter.unusedVariables false
set_option linter.unusedSimpArgs false
namespace Go.Proofs.S
open Go.RowKit
/-- Bytes that are read, nil and empty alike. -/
def Bs (w : World) (v : Value) (l : List UInt8) : Prop := ∃ A c, v = .slice A l.length c ∧ l.length ≤ c ∧ (l ≠ [] → ∃ b o, A = some ⟨b, o, none⟩ ∧ Sl8 w b o l)
theorem Bs.of_own {w : World} {base : Nat} {v : Value} {l : List UInt8} (h : Own8 w base v l) : Bs w v l := by
  rcases h.2 with ⟨rfl, h0⟩ | ⟨g, cap, cur, rfl, hg, hh, h1, h2, h3, h4⟩
  · exact ⟨none, 0, by rw [h0], by omega, fun hn => absurd (List.eq_nil_of_length_eq_zero h0) hn⟩
  · refine ⟨_, cap, rfl, h1, fun hn => ?_⟩
    obtain ⟨g', c', he, _, _, _, _, hs⟩ := h.reads hn
    injection he with he _ _
    rw [he]
    exact ⟨g', 0, rfl, hs⟩
theorem own8_lit (w : World) (base : Nat) (hb : base ≤ w.heap.size) (cs : List UInt8) (hm : cs.length ≤ maxLen) : Own8 (w.alloc (.cells (c8 cs).toArray 5)) base (.slice (some ⟨w.heap.size, 0, none⟩) cs.length cs.length) cs := by
  have := World.ownsRow_lit (base := base) (e := 5) (size := 1) w (c8 cs).toArray cs.length hb hm (by simp [c8])
  exact this
/-- append(v, x...), x read, nil let in. -/
theorem run_app8' {w : World} {base : Nat} {v u : Value} {l l2 : List UInt8} (h : Own8 w base v l) (hs : Bs w u l2) (hb : l.length + l2.length ≤ 140737488355328) (hbase : base ≤ w.heap.size) :
    ∃ v1 w1, (Builtin.append_ #[23, 23] 23 #[v, u]).run Tryz.prog w = .ok v1 w1 ∧ Own8 w1 base v1 (l ++ l2) ∧ w.grownBy w1 v.ownBlock ∧ (v1.ownBlock = v.ownBlock ∨ v1.ownBlock = some w.heap.size) := by
  obtain ⟨A, c, rfl, hc, hA⟩ := hs
  rcases A with _ | ⟨b, o, s⟩
  · have h0 : l2 = [] := by
      rcases Classical.em (l2 = []) with h | h
      · exact h
      · obtain ⟨_, _, h1, _⟩ := hA h
        cases h1
    subst h0
    refine ⟨v, w, ?_, by simpa using h, World.grownBy.refl w _, .inl rfl⟩
    obtain ⟨i0, hi, hzz⟩ := Option.map_eq_some_iff.1 Tryz_info5
    rcases h.2 with ⟨rfl, hn⟩ | ⟨g, cap, cur, rfl, _, _, hnc, _⟩
    · simp [Builtin.append_, run_underlying Tryz.underlying23, sizeOf, typeInfo, hi, Builtin.lenOf, Builtin.firstCells]
    · simp [Builtin.append_, run_underlying Tryz.underlying23, sizeOf, typeInfo, hi, Builtin.lenOf, Builtin.firstCells, hnc, storeCells]
  · rcases Classical.em (l2 = []) with h0 | h0
    · subst h0
      have hl : (loadCells ⟨b, o, s⟩ 0).run Tryz.prog w = .ok #[] w := by simpa using run_loadCells_list (P := Tryz.prog) w ⟨b, o, s⟩ [] (by simp)
      obtain ⟨i0, hi, hzz⟩ := Option.map_eq_some_iff.1 Tryz_info5
      refine ⟨v, w, ?_, by simpa using h, World.grownBy.refl w _, .inl rfl⟩
      rcases h.2 with ⟨rfl, hn⟩ | ⟨g, cap, cur, rfl, _, _, hnc, _⟩
      · simp [Builtin.append_, run_underlying Tryz.underlying23, sizeOf, typeInfo, hi, Builtin.lenOf, Builtin.firstCells, hl, Result.andThen]
      · simp [Builtin.append_, run_underlying Tryz.underlying23, sizeOf, typeInfo, hi, Builtin.lenOf, Builtin.firstCells, hnc, storeCells, hl, Result.andThen]
    · obtain ⟨b', o', h1, hs⟩ := hA h0
      injection h1 with h1
      rw [h1]
      obtain ⟨v1, w1, q1, q2, q3, _, q5⟩ := run_app8 h (c := c) hs rfl hb hbase
      exact ⟨v1, w1, q1, q2, q3, q5⟩
theorem copied {w : World} {u : Value} {l : List UInt8} (hs : Bs w u l) (hb : l.length ≤ 140737488355328) :
    Calls Tryz.prog 25 #[u] w fun e w' => ∃ v, e = .returned v ∧ Own8 w' w.heap.size v l ∧ Chg (fun _ => False) w w' := by
  have hA : Chg (fun _ => False) w (w.alloc (.cells #[] 5)) := (Chg.refl _ w).alloc _
  have hs1 : Bs (w.alloc (.cells #[] 5)) u l := by
    obtain ⟨A, c, h1, h2, h3⟩ := hs
    refine ⟨A, c, h1, h2, fun hn => ?_⟩
    obtain ⟨b, o, h4, h5⟩ := h3 hn
    exact ⟨b, o, h4, fun j x hx => hA.cell (h5 j x hx) (fun h => h)⟩
  obtain ⟨v1, w1, hrun, hown, hgr, hat⟩ := run_app8' (own8_make w w.heap.size (Nat.le_refl _)) hs1 (by simpa using hb) hA.size
  have hC : Chg (fun _ => False) w w1 := hA.grown hgr (by intro k hk h; simp [Value.ownBlock] at hk; omega)
  have HU := Lib.hid hrun; clear hrun
  obtain ⟨A, c, rfl, h2, h3⟩ := hs
  clear h3 hs1
  go_enter Tryz.func25, Tryz.ntmps25
  go_wp2_with (at_builtin; refine wpList_app HU.out rfl rfl rfl rfl rfl ?_)
  go_ret
  exact ⟨v1, rfl, by simpa using hown, hC⟩
theorem bufNew (v : Value) (hv : ∃ A n c, v = .slice A n c) (w : World) : Calls Tryz.prog 24 #[v] w fun e w' => e = .returned (.pointer (some ⟨w.heap.size, 0, none⟩)) ∧ w' = w.alloc (.cells #[v, .int .i64 0] 129) := by
  obtain ⟨A, n, c, rfl⟩ := hv
  go_enter Tryz.func24, Tryz.ntmps24
  go_wp2
  go_ret
  exact ⟨rfl, rfl⟩
/-- A list of none. -/
def NoneV (v : Value) : Prop := v = .slice none 0 0
/-- A list of one, new. -/
def OneV (base : Nat) (t : TypeId) (x : Value) (w : World) (v : Value) : Prop := ∃ g, v = .slice (some ⟨g, 0, none⟩) 1 1 ∧ base ≤ g ∧ w.heap[g]? = some (.cells #[x] t (0, 0))

theorem few_string_none (w : World) : Calls Tryz.prog 62 #[.pointer none] w fun e w' => e = .returned (.slice none 0 0) ∧ w' = w := by
  go_enter Tryz.func62, Tryz.ntmps62
  go_wp2
  go_ret
  exact ⟨rfl, rfl⟩
theorem few_string_one (s : ByteArray) (g : Nat) (w : World) (h : w.heap[g]? = some (.cells #[.string s] 9 (0, 0))) : Calls Tryz.prog 62 #[.pointer (some ⟨g, 0, none⟩)] w fun e w' => e = .returned (.slice (some ⟨w.heap.size, 0, none⟩) 1 1) ∧ w' = w.alloc (.cells #[.string s] 9) := by
  have c0 := blk_cell (k := 0) h rfl
  go_enter Tryz.func62, Tryz.ntmps62
  go_wp2
  go_ret
  exact ⟨rfl, rfl⟩

theorem few_u32_none (w : World) : Calls Tryz.prog 63 #[.pointer none] w fun e w' => e = .returned (.slice none 0 0) ∧ w' = w := by
  go_enter Tryz.func63, Tryz.ntmps63
  go_wp2
  go_ret
  exact ⟨rfl, rfl⟩
theorem few_u32_one (q : Int) (g : Nat) (w : World) (h : w.heap[g]? = some (.cells #[.int .u32 q] 45 (0, 0))) : Calls Tryz.prog 63 #[.pointer (some ⟨g, 0, none⟩)] w fun e w' => e = .returned (.slice (some ⟨w.heap.size, 0, none⟩) 1 1) ∧ w' = w.alloc (.cells #[.int .u32 q] 45) := by
  have c0 := blk_cell (k := 0) h rfl
  go_enter Tryz.func63, Tryz.ntmps63
  go_wp2
  go_ret
  exact ⟨rfl, rfl⟩

theorem unixMilli (ms : Int) (w : World) (h1 : -9223372036854775808 ≤ ms) (h2 : ms ≤ 9223372036854775807) : Calls Tryz.prog 65 #[timeV ms] w fun e w' => e = .returned (.int .i64 ms) ∧ Chg (fun _ => False) w w' := by
  have hm0 : 0 ≤ ms % 1000 := Int.emod_nonneg _ (by decide)
  have hm1 : ms % 1000 < 1000 := Int.emod_lt_of_pos _ (by decide)
  have ht : (ms % 1000 * 1000000).tdiv 1000000 = ms % 1000 := by
    rw [Int.tdiv_eq_ediv_of_nonneg (by omega)]
    omega
  have hw1 : wrap64 (wrap64 (ms / 1000 * 1000) + ms % 1000) = ms := by
    unfold wrap64
    omega
  have hd : ms % 1000 * 1000000 / 1000000 = ms % 1000 := by omega
  unfold timeV
  go_enter Tryz.func65, Tryz.ntmps65
  go_wp2
  go_ret
  refine ⟨?_, (Chg.refl _ _).alloc _⟩
  first | rfl | (simp [hw1]; done) | (congr 1; simp [hw1]; done)
end Go.Proofs.S
