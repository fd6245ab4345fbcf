/- What a read identity is worth as a value: for identities of the four kinds. -/
import Derived.Test.YtoilepadamfacaaGreatDoorB20
set_option linter.unusedVariables false
set_option linter.unusedSimpArgs false
namespace Go.Proofs.S
open Go.RowKit
theorem conv_bs {w : World} {v : Value} {l : List UInt8} (h : Bs w v l) : (convert 23 9 v).run Tryz.prog w = .ok (.string ⟨l.toArray⟩) w := by
  obtain ⟨A, c, rfl, hc, hA⟩ := h
  rcases A with _ | ⟨b, o, s⟩
  · have h0 : l = [] := by
      rcases Classical.em (l = []) with h | h
      · exact h
      · obtain ⟨_, _, h1, _⟩ := hA h
        cases h1
    subst h0
    exact run_convert_bytes_nil w 23 5 Tryz.underlying23 Tryz.underlying5 0 c 9 Tryz.underlying9
  · rcases Classical.em (l = []) with h0 | h0
    · subst h0
      have hl : (loadCells ⟨b, o, s⟩ 0).run Tryz.prog w = .ok #[] w := by simpa using run_loadCells_list (P := Tryz.prog) w ⟨b, o, s⟩ [] (by simp)
      have hk := run_convert_bytes_string (P := Tryz.prog) w 23 9 5 (some ⟨b, o, s⟩) 0 c Tryz.underlying23 Tryz.underlying5 Tryz.underlying9
      refine Eq.trans hk ?_
      simp only [Conv.bytesToString, hl, Sem.run_bind, Result.andThen_ok]
      rfl
    · obtain ⟨b', o', h1, hs⟩ := hA h0
      cases h1
      exact conv_str (c := c) hs rfl
theorem Bs.chg {w w1 : World} {v : Value} {l : List UInt8} (h : Bs w v l) (hc : Chg (fun _ => False) w w1) : Bs w1 v l := by
  obtain ⟨A, c, h1, h2, h3⟩ := h
  refine ⟨A, c, h1, h2, fun hn => ?_⟩
  obtain ⟨b, o, h4, h5⟩ := h3 hn
  exact ⟨b, o, h4, fun j x hx => hc.cell (h5 j x hx) (fun h => h)⟩
theorem sl8_blk {w : World} {g : Nat} {l : List UInt8} {t : TypeId} (h : w.heap[g]? = some (.cells (c8 l).toArray t (0, 0))) : Sl8 w g 0 l := by
  intro j b hb
  rw [Nat.zero_add]
  exact blk_cell h (by simp [c8, hb])
/-- A value without kids and descriptor. -/
def leafV (k n : Int) (x : ByteArray) : Value := .agg #[.int .i64 k, .int .u64 n, .string x, .slice none 0 0, .int .i64 0, .slice none 0 0]

set_option maxRecDepth 1000000 in
set_option maxHeartbeats 2000000 in
theorem valued_ulong (n : Int) (w : World) : Calls Tryz.prog 64 #[.iface 29 (.int .u64 n)] w fun e w' => e = .returned (.tuple #[leafV 5 n ⟨#[]⟩, .bool true]) ∧ Chg (fun _ => False) w w' := by
  have ta4 : ∀ z : World, (Instr.typeAssert (.iface 29 (.int .u64 n)) 20 4 true).run Tryz.prog z = .ok (.tuple #[.bool false, .bool false]) z := fun _ => by kernel_rfl
  have ta5 : ∀ z : World, (Instr.typeAssert (.iface 29 (.int .u64 n)) 20 5 true).run Tryz.prog z = .ok (.tuple #[.int .u8 0, .bool false]) z := fun _ => by kernel_rfl
  have ta238 : ∀ z : World, (Instr.typeAssert (.iface 29 (.int .u64 n)) 20 184 true).run Tryz.prog z = .ok (.tuple #[.int .u16 0, .bool false]) z := fun _ => by kernel_rfl
  have ta45 : ∀ z : World, (Instr.typeAssert (.iface 29 (.int .u64 n)) 20 45 true).run Tryz.prog z = .ok (.tuple #[.int .u32 0, .bool false]) z := fun _ => by kernel_rfl
  have ta29 : ∀ z : World, (Instr.typeAssert (.iface 29 (.int .u64 n)) 20 29 true).run Tryz.prog z = .ok (.tuple #[(.int .u64 n), .bool true]) z := fun _ => by kernel_rfl
  go_enter Tryz.func64, Tryz.ntmps64
  go_wp2
  refine bodyPost_ret (v := .tuple #[leafV 5 n ⟨#[]⟩, .bool true]) (by simp [results, Tryz.results64, go_sem, leafV]) rfl ⟨rfl, ?_⟩
  exact (Chg.refl _ _).alloc _

set_option maxRecDepth 1000000 in
set_option maxHeartbeats 2000000 in
theorem valued_text (s : ByteArray) (w : World) : Calls Tryz.prog 64 #[.iface 9 (.string s)] w fun e w' => e = .returned (.tuple #[leafV 19 0 s, .bool true]) ∧ Chg (fun _ => False) w w' := by
  have ta4 : ∀ z : World, (Instr.typeAssert (.iface 9 (.string s)) 20 4 true).run Tryz.prog z = .ok (.tuple #[.bool false, .bool false]) z := fun _ => by kernel_rfl
  have ta5 : ∀ z : World, (Instr.typeAssert (.iface 9 (.string s)) 20 5 true).run Tryz.prog z = .ok (.tuple #[.int .u8 0, .bool false]) z := fun _ => by kernel_rfl
  have ta238 : ∀ z : World, (Instr.typeAssert (.iface 9 (.string s)) 20 184 true).run Tryz.prog z = .ok (.tuple #[.int .u16 0, .bool false]) z := fun _ => by kernel_rfl
  have ta45 : ∀ z : World, (Instr.typeAssert (.iface 9 (.string s)) 20 45 true).run Tryz.prog z = .ok (.tuple #[.int .u32 0, .bool false]) z := fun _ => by kernel_rfl
  have ta29 : ∀ z : World, (Instr.typeAssert (.iface 9 (.string s)) 20 29 true).run Tryz.prog z = .ok (.tuple #[.int .u64 0, .bool false]) z := fun _ => by kernel_rfl
  have ta239 : ∀ z : World, (Instr.typeAssert (.iface 9 (.string s)) 20 185 true).run Tryz.prog z = .ok (.tuple #[.int .i8 0, .bool false]) z := fun _ => by kernel_rfl
  have ta240 : ∀ z : World, (Instr.typeAssert (.iface 9 (.string s)) 20 186 true).run Tryz.prog z = .ok (.tuple #[.int .i16 0, .bool false]) z := fun _ => by kernel_rfl
  have ta21 : ∀ z : World, (Instr.typeAssert (.iface 9 (.string s)) 20 21 true).run Tryz.prog z = .ok (.tuple #[.int .i32 0, .bool false]) z := fun _ => by kernel_rfl
  have ta2 : ∀ z : World, (Instr.typeAssert (.iface 9 (.string s)) 20 2 true).run Tryz.prog z = .ok (.tuple #[.int .i64 0, .bool false]) z := fun _ => by kernel_rfl
  have ta241 : ∀ z : World, (Instr.typeAssert (.iface 9 (.string s)) 20 187 true).run Tryz.prog z = .ok (.tuple #[.float .f32 0, .bool false]) z := fun _ => by kernel_rfl
  have ta243 : ∀ z : World, (Instr.typeAssert (.iface 9 (.string s)) 20 189 true).run Tryz.prog z = .ok (.tuple #[.float .f64 0, .bool false]) z := fun _ => by kernel_rfl
  have ta175 : ∀ z : World, (Instr.typeAssert (.iface 9 (.string s)) 20 141 true).run Tryz.prog z = .ok (.tuple #[.agg #[.int .i64 0, .int .i64 0], .bool false]) z := fun _ => by kernel_rfl
  have ta246 : ∀ z : World, (Instr.typeAssert (.iface 9 (.string s)) 20 192 true).run Tryz.prog z = .ok (.tuple #[.agg #[.int .u8 0, .int .u8 0, .int .u8 0, .int .u8 0, .int .u8 0, .int .u8 0, .int .u8 0, .int .u8 0, .int .u8 0, .int .u8 0, .int .u8 0, .int .u8 0, .int .u8 0, .int .u8 0, .int .u8 0, .int .u8 0], .bool false]) z := fun _ => by kernel_rfl
  have ta23 : ∀ z : World, (Instr.typeAssert (.iface 9 (.string s)) 20 23 true).run Tryz.prog z = .ok (.tuple #[.slice none 0 0, .bool false]) z := fun _ => by kernel_rfl
  have ta9 : ∀ z : World, (Instr.typeAssert (.iface 9 (.string s)) 20 9 true).run Tryz.prog z = .ok (.tuple #[(.string s), .bool true]) z := fun _ => by kernel_rfl
  go_enter Tryz.func64, Tryz.ntmps64
  go_wp2
  refine bodyPost_ret (v := .tuple #[leafV 19 0 s, .bool true]) (by simp [results, Tryz.results64, go_sem, leafV]) rfl ⟨rfl, ?_⟩
  exact (Chg.refl _ _).alloc _

set_option maxRecDepth 1000000 in
set_option maxHeartbeats 2000000 in
theorem valued_bin {l : List UInt8} (A : Option Addr) (n c : Nat) (w : World) (hs : Bs w (.slice A n c) l) : Calls Tryz.prog 64 #[.iface 23 (.slice A n c)] w fun e w' => e = .returned (.tuple #[leafV 18 0 ⟨l.toArray⟩, .bool true]) ∧ Chg (fun _ => False) w w' := by
  have hcv := fun (W : World) (hW : Chg (fun _ => False) w W) => conv_bs (w := W) (l := l) (v := .slice A n c) (hs.chg hW)
  have hcv1 := hcv (w.alloc (.cells #[.int .i64 0, .int .u64 0, .string ⟨#[]⟩, .slice none 0 0, .int .i64 0, .slice none 0 0] 81)) ((Chg.refl _ w).alloc _)
  clear hcv hs
  have ta4 : ∀ z : World, (Instr.typeAssert (.iface 23 (.slice A n c)) 20 4 true).run Tryz.prog z = .ok (.tuple #[.bool false, .bool false]) z := fun _ => by kernel_rfl
  have ta5 : ∀ z : World, (Instr.typeAssert (.iface 23 (.slice A n c)) 20 5 true).run Tryz.prog z = .ok (.tuple #[.int .u8 0, .bool false]) z := fun _ => by kernel_rfl
  have ta238 : ∀ z : World, (Instr.typeAssert (.iface 23 (.slice A n c)) 20 184 true).run Tryz.prog z = .ok (.tuple #[.int .u16 0, .bool false]) z := fun _ => by kernel_rfl
  have ta45 : ∀ z : World, (Instr.typeAssert (.iface 23 (.slice A n c)) 20 45 true).run Tryz.prog z = .ok (.tuple #[.int .u32 0, .bool false]) z := fun _ => by kernel_rfl
  have ta29 : ∀ z : World, (Instr.typeAssert (.iface 23 (.slice A n c)) 20 29 true).run Tryz.prog z = .ok (.tuple #[.int .u64 0, .bool false]) z := fun _ => by kernel_rfl
  have ta239 : ∀ z : World, (Instr.typeAssert (.iface 23 (.slice A n c)) 20 185 true).run Tryz.prog z = .ok (.tuple #[.int .i8 0, .bool false]) z := fun _ => by kernel_rfl
  have ta240 : ∀ z : World, (Instr.typeAssert (.iface 23 (.slice A n c)) 20 186 true).run Tryz.prog z = .ok (.tuple #[.int .i16 0, .bool false]) z := fun _ => by kernel_rfl
  have ta21 : ∀ z : World, (Instr.typeAssert (.iface 23 (.slice A n c)) 20 21 true).run Tryz.prog z = .ok (.tuple #[.int .i32 0, .bool false]) z := fun _ => by kernel_rfl
  have ta2 : ∀ z : World, (Instr.typeAssert (.iface 23 (.slice A n c)) 20 2 true).run Tryz.prog z = .ok (.tuple #[.int .i64 0, .bool false]) z := fun _ => by kernel_rfl
  have ta241 : ∀ z : World, (Instr.typeAssert (.iface 23 (.slice A n c)) 20 187 true).run Tryz.prog z = .ok (.tuple #[.float .f32 0, .bool false]) z := fun _ => by kernel_rfl
  have ta243 : ∀ z : World, (Instr.typeAssert (.iface 23 (.slice A n c)) 20 189 true).run Tryz.prog z = .ok (.tuple #[.float .f64 0, .bool false]) z := fun _ => by kernel_rfl
  have ta175 : ∀ z : World, (Instr.typeAssert (.iface 23 (.slice A n c)) 20 141 true).run Tryz.prog z = .ok (.tuple #[.agg #[.int .i64 0, .int .i64 0], .bool false]) z := fun _ => by kernel_rfl
  have ta246 : ∀ z : World, (Instr.typeAssert (.iface 23 (.slice A n c)) 20 192 true).run Tryz.prog z = .ok (.tuple #[.agg #[.int .u8 0, .int .u8 0, .int .u8 0, .int .u8 0, .int .u8 0, .int .u8 0, .int .u8 0, .int .u8 0, .int .u8 0, .int .u8 0, .int .u8 0, .int .u8 0, .int .u8 0, .int .u8 0, .int .u8 0, .int .u8 0], .bool false]) z := fun _ => by kernel_rfl
  have ta23 : ∀ z : World, (Instr.typeAssert (.iface 23 (.slice A n c)) 20 23 true).run Tryz.prog z = .ok (.tuple #[(.slice A n c), .bool true]) z := fun _ => by kernel_rfl
  go_enter Tryz.func64, Tryz.ntmps64
  go_wp2
  refine bodyPost_ret (v := .tuple #[leafV 18 0 ⟨l.toArray⟩, .bool true]) (by simp [results, Tryz.results64, go_sem, leafV]) rfl ⟨rfl, ?_⟩
  exact (Chg.refl _ _).alloc _

set_option maxRecDepth 1000000 in
set_option maxHeartbeats 2000000 in
theorem valued_uuid (b0 b1 b2 b3 b4 b5 b6 b7 b8 b9 b10 b11 b12 b13 b14 b15 : UInt8) (w : World) : Calls Tryz.prog 64 #[.iface 192 (.agg #[.int .u8 (b0.toNat : Int), .int .u8 (b1.toNat : Int), .int .u8 (b2.toNat : Int), .int .u8 (b3.toNat : Int), .int .u8 (b4.toNat : Int), .int .u8 (b5.toNat : Int), .int .u8 (b6.toNat : Int), .int .u8 (b7.toNat : Int), .int .u8 (b8.toNat : Int), .int .u8 (b9.toNat : Int), .int .u8 (b10.toNat : Int), .int .u8 (b11.toNat : Int), .int .u8 (b12.toNat : Int), .int .u8 (b13.toNat : Int), .int .u8 (b14.toNat : Int), .int .u8 (b15.toNat : Int)])] w fun e w' => e = .returned (.tuple #[leafV 17 0 ⟨[b0, b1, b2, b3, b4, b5, b6, b7, b8, b9, b10, b11, b12, b13, b14, b15].toArray⟩, .bool true]) ∧ Chg (fun _ => False) w w' := by
  have hcv := fun (W : World) (hW : W.heap[w.heap.size + 1]? = some (.cells #[.int .u8 (b0.toNat : Int), .int .u8 (b1.toNat : Int), .int .u8 (b2.toNat : Int), .int .u8 (b3.toNat : Int), .int .u8 (b4.toNat : Int), .int .u8 (b5.toNat : Int), .int .u8 (b6.toNat : Int), .int .u8 (b7.toNat : Int), .int .u8 (b8.toNat : Int), .int .u8 (b9.toNat : Int), .int .u8 (b10.toNat : Int), .int .u8 (b11.toNat : Int), .int .u8 (b12.toNat : Int), .int .u8 (b13.toNat : Int), .int .u8 (b14.toNat : Int), .int .u8 (b15.toNat : Int)] 192 (0, 0))) => conv_str (w := W) (g := w.heap.size + 1) (o := 0) (n := 16) (c := 16) (l := [b0, b1, b2, b3, b4, b5, b6, b7, b8, b9, b10, b11, b12, b13, b14, b15]) (sl8_blk hW) rfl
  have hcv1 := hcv ((w.alloc (.cells #[.int .i64 0, .int .u64 0, .string ⟨#[]⟩, .slice none 0 0, .int .i64 0, .slice none 0 0] 81)).alloc (.cells #[.int .u8 (b0.toNat : Int), .int .u8 (b1.toNat : Int), .int .u8 (b2.toNat : Int), .int .u8 (b3.toNat : Int), .int .u8 (b4.toNat : Int), .int .u8 (b5.toNat : Int), .int .u8 (b6.toNat : Int), .int .u8 (b7.toNat : Int), .int .u8 (b8.toNat : Int), .int .u8 (b9.toNat : Int), .int .u8 (b10.toNat : Int), .int .u8 (b11.toNat : Int), .int .u8 (b12.toNat : Int), .int .u8 (b13.toNat : Int), .int .u8 (b14.toNat : Int), .int .u8 (b15.toNat : Int)] 192)) (by simpa using heap_alloc_new (w.alloc (.cells #[.int .i64 0, .int .u64 0, .string ⟨#[]⟩, .slice none 0 0, .int .i64 0, .slice none 0 0] 81)) (.cells #[.int .u8 (b0.toNat : Int), .int .u8 (b1.toNat : Int), .int .u8 (b2.toNat : Int), .int .u8 (b3.toNat : Int), .int .u8 (b4.toNat : Int), .int .u8 (b5.toNat : Int), .int .u8 (b6.toNat : Int), .int .u8 (b7.toNat : Int), .int .u8 (b8.toNat : Int), .int .u8 (b9.toNat : Int), .int .u8 (b10.toNat : Int), .int .u8 (b11.toNat : Int), .int .u8 (b12.toNat : Int), .int .u8 (b13.toNat : Int), .int .u8 (b14.toNat : Int), .int .u8 (b15.toNat : Int)] 192))
  clear hcv
  have ta4 : ∀ z : World, (Instr.typeAssert (.iface 192 (.agg #[.int .u8 (b0.toNat : Int), .int .u8 (b1.toNat : Int), .int .u8 (b2.toNat : Int), .int .u8 (b3.toNat : Int), .int .u8 (b4.toNat : Int), .int .u8 (b5.toNat : Int), .int .u8 (b6.toNat : Int), .int .u8 (b7.toNat : Int), .int .u8 (b8.toNat : Int), .int .u8 (b9.toNat : Int), .int .u8 (b10.toNat : Int), .int .u8 (b11.toNat : Int), .int .u8 (b12.toNat : Int), .int .u8 (b13.toNat : Int), .int .u8 (b14.toNat : Int), .int .u8 (b15.toNat : Int)])) 20 4 true).run Tryz.prog z = .ok (.tuple #[.bool false, .bool false]) z := fun _ => by kernel_rfl
  have ta5 : ∀ z : World, (Instr.typeAssert (.iface 192 (.agg #[.int .u8 (b0.toNat : Int), .int .u8 (b1.toNat : Int), .int .u8 (b2.toNat : Int), .int .u8 (b3.toNat : Int), .int .u8 (b4.toNat : Int), .int .u8 (b5.toNat : Int), .int .u8 (b6.toNat : Int), .int .u8 (b7.toNat : Int), .int .u8 (b8.toNat : Int), .int .u8 (b9.toNat : Int), .int .u8 (b10.toNat : Int), .int .u8 (b11.toNat : Int), .int .u8 (b12.toNat : Int), .int .u8 (b13.toNat : Int), .int .u8 (b14.toNat : Int), .int .u8 (b15.toNat : Int)])) 20 5 true).run Tryz.prog z = .ok (.tuple #[.int .u8 0, .bool false]) z := fun _ => by kernel_rfl
  have ta238 : ∀ z : World, (Instr.typeAssert (.iface 192 (.agg #[.int .u8 (b0.toNat : Int), .int .u8 (b1.toNat : Int), .int .u8 (b2.toNat : Int), .int .u8 (b3.toNat : Int), .int .u8 (b4.toNat : Int), .int .u8 (b5.toNat : Int), .int .u8 (b6.toNat : Int), .int .u8 (b7.toNat : Int), .int .u8 (b8.toNat : Int), .int .u8 (b9.toNat : Int), .int .u8 (b10.toNat : Int), .int .u8 (b11.toNat : Int), .int .u8 (b12.toNat : Int), .int .u8 (b13.toNat : Int), .int .u8 (b14.toNat : Int), .int .u8 (b15.toNat : Int)])) 20 184 true).run Tryz.prog z = .ok (.tuple #[.int .u16 0, .bool false]) z := fun _ => by kernel_rfl
  have ta45 : ∀ z : World, (Instr.typeAssert (.iface 192 (.agg #[.int .u8 (b0.toNat : Int), .int .u8 (b1.toNat : Int), .int .u8 (b2.toNat : Int), .int .u8 (b3.toNat : Int), .int .u8 (b4.toNat : Int), .int .u8 (b5.toNat : Int), .int .u8 (b6.toNat : Int), .int .u8 (b7.toNat : Int), .int .u8 (b8.toNat : Int), .int .u8 (b9.toNat : Int), .int .u8 (b10.toNat : Int), .int .u8 (b11.toNat : Int), .int .u8 (b12.toNat : Int), .int .u8 (b13.toNat : Int), .int .u8 (b14.toNat : Int), .int .u8 (b15.toNat : Int)])) 20 45 true).run Tryz.prog z = .ok (.tuple #[.int .u32 0, .bool false]) z := fun _ => by kernel_rfl
  have ta29 : ∀ z : World, (Instr.typeAssert (.iface 192 (.agg #[.int .u8 (b0.toNat : Int), .int .u8 (b1.toNat : Int), .int .u8 (b2.toNat : Int), .int .u8 (b3.toNat : Int), .int .u8 (b4.toNat : Int), .int .u8 (b5.toNat : Int), .int .u8 (b6.toNat : Int), .int .u8 (b7.toNat : Int), .int .u8 (b8.toNat : Int), .int .u8 (b9.toNat : Int), .int .u8 (b10.toNat : Int), .int .u8 (b11.toNat : Int), .int .u8 (b12.toNat : Int), .int .u8 (b13.toNat : Int), .int .u8 (b14.toNat : Int), .int .u8 (b15.toNat : Int)])) 20 29 true).run Tryz.prog z = .ok (.tuple #[.int .u64 0, .bool false]) z := fun _ => by kernel_rfl
  have ta239 : ∀ z : World, (Instr.typeAssert (.iface 192 (.agg #[.int .u8 (b0.toNat : Int), .int .u8 (b1.toNat : Int), .int .u8 (b2.toNat : Int), .int .u8 (b3.toNat : Int), .int .u8 (b4.toNat : Int), .int .u8 (b5.toNat : Int), .int .u8 (b6.toNat : Int), .int .u8 (b7.toNat : Int), .int .u8 (b8.toNat : Int), .int .u8 (b9.toNat : Int), .int .u8 (b10.toNat : Int), .int .u8 (b11.toNat : Int), .int .u8 (b12.toNat : Int), .int .u8 (b13.toNat : Int), .int .u8 (b14.toNat : Int), .int .u8 (b15.toNat : Int)])) 20 185 true).run Tryz.prog z = .ok (.tuple #[.int .i8 0, .bool false]) z := fun _ => by kernel_rfl
  have ta240 : ∀ z : World, (Instr.typeAssert (.iface 192 (.agg #[.int .u8 (b0.toNat : Int), .int .u8 (b1.toNat : Int), .int .u8 (b2.toNat : Int), .int .u8 (b3.toNat : Int), .int .u8 (b4.toNat : Int), .int .u8 (b5.toNat : Int), .int .u8 (b6.toNat : Int), .int .u8 (b7.toNat : Int), .int .u8 (b8.toNat : Int), .int .u8 (b9.toNat : Int), .int .u8 (b10.toNat : Int), .int .u8 (b11.toNat : Int), .int .u8 (b12.toNat : Int), .int .u8 (b13.toNat : Int), .int .u8 (b14.toNat : Int), .int .u8 (b15.toNat : Int)])) 20 186 true).run Tryz.prog z = .ok (.tuple #[.int .i16 0, .bool false]) z := fun _ => by kernel_rfl
  have ta21 : ∀ z : World, (Instr.typeAssert (.iface 192 (.agg #[.int .u8 (b0.toNat : Int), .int .u8 (b1.toNat : Int), .int .u8 (b2.toNat : Int), .int .u8 (b3.toNat : Int), .int .u8 (b4.toNat : Int), .int .u8 (b5.toNat : Int), .int .u8 (b6.toNat : Int), .int .u8 (b7.toNat : Int), .int .u8 (b8.toNat : Int), .int .u8 (b9.toNat : Int), .int .u8 (b10.toNat : Int), .int .u8 (b11.toNat : Int), .int .u8 (b12.toNat : Int), .int .u8 (b13.toNat : Int), .int .u8 (b14.toNat : Int), .int .u8 (b15.toNat : Int)])) 20 21 true).run Tryz.prog z = .ok (.tuple #[.int .i32 0, .bool false]) z := fun _ => by kernel_rfl
  have ta2 : ∀ z : World, (Instr.typeAssert (.iface 192 (.agg #[.int .u8 (b0.toNat : Int), .int .u8 (b1.toNat : Int), .int .u8 (b2.toNat : Int), .int .u8 (b3.toNat : Int), .int .u8 (b4.toNat : Int), .int .u8 (b5.toNat : Int), .int .u8 (b6.toNat : Int), .int .u8 (b7.toNat : Int), .int .u8 (b8.toNat : Int), .int .u8 (b9.toNat : Int), .int .u8 (b10.toNat : Int), .int .u8 (b11.toNat : Int), .int .u8 (b12.toNat : Int), .int .u8 (b13.toNat : Int), .int .u8 (b14.toNat : Int), .int .u8 (b15.toNat : Int)])) 20 2 true).run Tryz.prog z = .ok (.tuple #[.int .i64 0, .bool false]) z := fun _ => by kernel_rfl
  have ta241 : ∀ z : World, (Instr.typeAssert (.iface 192 (.agg #[.int .u8 (b0.toNat : Int), .int .u8 (b1.toNat : Int), .int .u8 (b2.toNat : Int), .int .u8 (b3.toNat : Int), .int .u8 (b4.toNat : Int), .int .u8 (b5.toNat : Int), .int .u8 (b6.toNat : Int), .int .u8 (b7.toNat : Int), .int .u8 (b8.toNat : Int), .int .u8 (b9.toNat : Int), .int .u8 (b10.toNat : Int), .int .u8 (b11.toNat : Int), .int .u8 (b12.toNat : Int), .int .u8 (b13.toNat : Int), .int .u8 (b14.toNat : Int), .int .u8 (b15.toNat : Int)])) 20 187 true).run Tryz.prog z = .ok (.tuple #[.float .f32 0, .bool false]) z := fun _ => by kernel_rfl
  have ta243 : ∀ z : World, (Instr.typeAssert (.iface 192 (.agg #[.int .u8 (b0.toNat : Int), .int .u8 (b1.toNat : Int), .int .u8 (b2.toNat : Int), .int .u8 (b3.toNat : Int), .int .u8 (b4.toNat : Int), .int .u8 (b5.toNat : Int), .int .u8 (b6.toNat : Int), .int .u8 (b7.toNat : Int), .int .u8 (b8.toNat : Int), .int .u8 (b9.toNat : Int), .int .u8 (b10.toNat : Int), .int .u8 (b11.toNat : Int), .int .u8 (b12.toNat : Int), .int .u8 (b13.toNat : Int), .int .u8 (b14.toNat : Int), .int .u8 (b15.toNat : Int)])) 20 189 true).run Tryz.prog z = .ok (.tuple #[.float .f64 0, .bool false]) z := fun _ => by kernel_rfl
  have ta175 : ∀ z : World, (Instr.typeAssert (.iface 192 (.agg #[.int .u8 (b0.toNat : Int), .int .u8 (b1.toNat : Int), .int .u8 (b2.toNat : Int), .int .u8 (b3.toNat : Int), .int .u8 (b4.toNat : Int), .int .u8 (b5.toNat : Int), .int .u8 (b6.toNat : Int), .int .u8 (b7.toNat : Int), .int .u8 (b8.toNat : Int), .int .u8 (b9.toNat : Int), .int .u8 (b10.toNat : Int), .int .u8 (b11.toNat : Int), .int .u8 (b12.toNat : Int), .int .u8 (b13.toNat : Int), .int .u8 (b14.toNat : Int), .int .u8 (b15.toNat : Int)])) 20 141 true).run Tryz.prog z = .ok (.tuple #[.agg #[.int .i64 0, .int .i64 0], .bool false]) z := fun _ => by kernel_rfl
  have ta246 : ∀ z : World, (Instr.typeAssert (.iface 192 (.agg #[.int .u8 (b0.toNat : Int), .int .u8 (b1.toNat : Int), .int .u8 (b2.toNat : Int), .int .u8 (b3.toNat : Int), .int .u8 (b4.toNat : Int), .int .u8 (b5.toNat : Int), .int .u8 (b6.toNat : Int), .int .u8 (b7.toNat : Int), .int .u8 (b8.toNat : Int), .int .u8 (b9.toNat : Int), .int .u8 (b10.toNat : Int), .int .u8 (b11.toNat : Int), .int .u8 (b12.toNat : Int), .int .u8 (b13.toNat : Int), .int .u8 (b14.toNat : Int), .int .u8 (b15.toNat : Int)])) 20 192 true).run Tryz.prog z = .ok (.tuple #[(.agg #[.int .u8 (b0.toNat : Int), .int .u8 (b1.toNat : Int), .int .u8 (b2.toNat : Int), .int .u8 (b3.toNat : Int), .int .u8 (b4.toNat : Int), .int .u8 (b5.toNat : Int), .int .u8 (b6.toNat : Int), .int .u8 (b7.toNat : Int), .int .u8 (b8.toNat : Int), .int .u8 (b9.toNat : Int), .int .u8 (b10.toNat : Int), .int .u8 (b11.toNat : Int), .int .u8 (b12.toNat : Int), .int .u8 (b13.toNat : Int), .int .u8 (b14.toNat : Int), .int .u8 (b15.toNat : Int)]), .bool true]) z := fun _ => by kernel_rfl
  go_enter Tryz.func64, Tryz.ntmps64
  go_wp2
  refine bodyPost_ret (v := .tuple #[leafV 17 0 ⟨[b0, b1, b2, b3, b4, b5, b6, b7, b8, b9, b10, b11, b12, b13, b14, b15].toArray⟩, .bool true]) (by simp [results, Tryz.results64, go_sem, leafV]) rfl ⟨rfl, ?_⟩
  exact ((Chg.refl _ _).alloc _).alloc _
end Go.Proofs.S
