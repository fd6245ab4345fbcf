/- The reader reads unsigned numbers, strings and byte strings, and the rows that a program owns grow by append: for a reader that holds its bytes. -/
import Derived.Test.YtoilepadamfacaaGreatDoorB2
set_option linter.unusedVariables false
set_option linter.unusedSimpArgs false
namespace Go.Proofs.S
open Go.RowKit
theorem u64_byte (b : UInt8) : IntKind.u64.wrap (b.toNat : Int) = (b.toNat : Int) := by have := b.toNat_lt; simp [IntKind.wrap, IntKind.bits, IntKind.signed]; omega
theorem u32_byte (b : UInt8) : (b.toNat : Int) % 4294967296 = (b.toNat : Int) := by have := b.toNat_lt; omega
theorem i64_byte (b : UInt8) : IntKind.i64.wrap (b.toNat : Int) = (b.toNat : Int) := by have := b.toNat_lt; exact IntWalk.i64_in _ (by omega)
theorem beNat4_lt (b0 b1 b2 b3 : UInt8) : Lib.beNat [b0, b1, b2, b3] < 4294967296 := by
  have := b0.toNat_lt; have := b1.toNat_lt; have := b2.toNat_lt; have := b3.toNat_lt
  simp only [Lib.beNat, Lib.beFrom]; omega
theorem i64_be4 (b0 b1 b2 b3 : UInt8) : IntKind.i64.wrap (Lib.beNat [b0, b1, b2, b3] : Int) = (Lib.beNat [b0, b1, b2, b3] : Int) := by have := beNat4_lt b0 b1 b2 b3; exact IntWalk.i64_in _ (by omega)
theorem strOf (l : List UInt8) : strOfNums (l.map fun b => (b.toNat : Int)) = ⟨l.toArray⟩ := by
  simp [strOfNums, Function.comp_def]
theorem conv_str {w : World} {g o n c : Nat} {l : List UInt8} (h : Sl8 w g o l) (hl : l.length = n) : (convert 23 9 (.slice (some ⟨g, o, none⟩) n c)).run Tryz.prog w = .ok (.string ⟨l.toArray⟩) w := by
  have hk := run_convert_bytes_arg (P := Tryz.prog) w 23 5 Tryz.underlying23 Tryz.underlying5 g o n c (l.map fun b => (b.toNat : Int)) (by simpa using hl) (fun i hi => by
    have hi' : i < l.length := by omega
    rw [h i l[i] (List.getElem?_eq_getElem hi')]
    simp [List.getD_eq_getElem?_getD, List.getElem?_eq_getElem hi']) 9 Tryz.underlying9
  rw [strOf] at hk
  exact hk

theorem readUlong_zero {w : World} {r d n c i : Nat} {bs : List UInt8}  (h : Buf w r d n c i bs) (hi : At bs i [0x44]) :
    Calls Tryz.prog 131 #[.pointer (some ⟨r, 0, none⟩)] w (Reads w r d n c i 1 bs (.tuple #[.int .u64 0, .nilIface])) := by
  go_enter Tryz.func131, Tryz.ntmps131
  go_wp2_with fail
  refine (readType h hi.cut).mono ?_
  rintro _ w1 ⟨rfl, hB, hC⟩
  go_wp2
  go_ret2
  exact ⟨rfl, hB, hC⟩

theorem readUlong_small {w : World} {r d n c i : Nat} {bs : List UInt8} {b : UInt8} (h : Buf w r d n c i bs) (hi : At bs i [0x53, b]) :
    Calls Tryz.prog 131 #[.pointer (some ⟨r, 0, none⟩)] w (Reads w r d n c i 2 bs (.tuple #[.int .u64 (b.toNat : Int), .nilIface])) := by
  go_enter Tryz.func131, Tryz.ntmps131
  go_wp2_with fail
  refine (readType h hi.cut).mono ?_
  rintro _ w1 ⟨rfl, hB, hC⟩
  go_wp2_with fail
  refine (readByte hB hi.tail).mono ?_
  rintro _ w2 ⟨rfl, hB2, hC2⟩
  go_wp2
  go_ret2
  exact ⟨by first | (simp; done) | (simp [u64_byte, u32_byte]; done), by simpa [Nat.add_assoc] using hB2, hC.reads hC2⟩

theorem readUlong_full {w : World} {r d n c i : Nat} {bs : List UInt8} {b0 b1 b2 b3 b4 b5 b6 b7 : UInt8} (h : Buf w r d n c i bs) (hi : At bs i [0x80, b0, b1, b2, b3, b4, b5, b6, b7]) :
    Calls Tryz.prog 131 #[.pointer (some ⟨r, 0, none⟩)] w (Reads w r d n c i 9 bs (.tuple #[.int .u64 (Lib.beNat [b0, b1, b2, b3, b4, b5, b6, b7] : Nat), .nilIface])) := by
  go_enter Tryz.func131, Tryz.ntmps131
  go_wp2_with fail
  refine (readType h hi.cut).mono ?_
  rintro _ w1 ⟨rfl, hB, hC⟩
  go_wp2_with fail
  refine (readUint64_ hB hi.tail).mono ?_
  rintro _ w2 ⟨rfl, hB2, hC2⟩
  go_wp2
  go_ret2
  exact ⟨by first | (simp; done) | (simp [u64_byte, u32_byte]; done), by simpa [Nat.add_assoc] using hB2, hC.reads hC2⟩

theorem readUint32_zero {w : World} {r d n c i : Nat} {bs : List UInt8}  (h : Buf w r d n c i bs) (hi : At bs i [0x43]) :
    Calls Tryz.prog 140 #[.pointer (some ⟨r, 0, none⟩)] w (Reads w r d n c i 1 bs (.tuple #[.int .u32 0, .nilIface])) := by
  go_enter Tryz.func140, Tryz.ntmps140
  go_wp2_with fail
  refine (readType h hi.cut).mono ?_
  rintro _ w1 ⟨rfl, hB, hC⟩
  go_wp2
  go_ret2
  exact ⟨rfl, hB, hC⟩

theorem readUint32_small {w : World} {r d n c i : Nat} {bs : List UInt8} {b : UInt8} (h : Buf w r d n c i bs) (hi : At bs i [0x52, b]) :
    Calls Tryz.prog 140 #[.pointer (some ⟨r, 0, none⟩)] w (Reads w r d n c i 2 bs (.tuple #[.int .u32 (b.toNat : Int), .nilIface])) := by
  go_enter Tryz.func140, Tryz.ntmps140
  go_wp2_with fail
  refine (readType h hi.cut).mono ?_
  rintro _ w1 ⟨rfl, hB, hC⟩
  go_wp2_with fail
  refine (readByte hB hi.tail).mono ?_
  rintro _ w2 ⟨rfl, hB2, hC2⟩
  go_wp2
  go_ret2
  exact ⟨by first | (simp; done) | (simp [u64_byte, u32_byte]; done), by simpa [Nat.add_assoc] using hB2, hC.reads hC2⟩

theorem readUint32_full {w : World} {r d n c i : Nat} {bs : List UInt8} {b0 b1 b2 b3 : UInt8} (h : Buf w r d n c i bs) (hi : At bs i [0x70, b0, b1, b2, b3]) :
    Calls Tryz.prog 140 #[.pointer (some ⟨r, 0, none⟩)] w (Reads w r d n c i 5 bs (.tuple #[.int .u32 (Lib.beNat [b0, b1, b2, b3] : Nat), .nilIface])) := by
  go_enter Tryz.func140, Tryz.ntmps140
  go_wp2_with fail
  refine (readType h hi.cut).mono ?_
  rintro _ w1 ⟨rfl, hB, hC⟩
  go_wp2_with fail
  refine (readUint32_ hB hi.tail).mono ?_
  rintro _ w2 ⟨rfl, hB2, hC2⟩
  go_wp2
  go_ret2
  exact ⟨by first | (simp; done) | (simp [u64_byte, u32_byte]; done), by simpa [Nat.add_assoc] using hB2, hC.reads hC2⟩

theorem readString_a1 {w : World} {r d n c i : Nat} {bs : List UInt8} {b : UInt8} {l : List UInt8} (h : Buf w r d n c i bs) (hi : At bs i (0xa1 :: b :: l)) (hl : l.length = b.toNat) :
    Calls Tryz.prog 145 #[.pointer (some ⟨r, 0, none⟩)] w (Reads w r d n c i (2 + l.length) bs (.tuple #[.string ⟨l.toArray⟩, .nilIface])) := by
  have hwb := i64_byte b
  have H := Lib.hid hl; clear hl
  go_enter Tryz.func145, Tryz.ntmps145
  go_wp2_with fail
  refine (readType h hi.cut).mono ?_
  rintro _ w1 ⟨rfl, hB, hC⟩
  go_wp2_with fail
  refine (readByte hB hi.tail.cut).mono ?_
  rintro _ w2 ⟨rfl, hB2, hC2⟩
  go_wp2_with fail
  refine (next hB2 b.toNat hi.tail.tail H.out).mono ?_
  rintro _ w3 ⟨o, cc, ⟨rfl, hB3, hC3⟩, hcc, hcc2, hS⟩
  have hs := conv_str (c := cc) hS H.out
  go_wp2
  go_ret2
  exact ⟨rfl, by rw [H.out]; simpa [Nat.add_assoc] using hB3, hC.reads (hC2.reads hC3)⟩

theorem readString_a3 {w : World} {r d n c i : Nat} {bs : List UInt8} {b : UInt8} {l : List UInt8} (h : Buf w r d n c i bs) (hi : At bs i (0xa3 :: b :: l)) (hl : l.length = b.toNat) :
    Calls Tryz.prog 145 #[.pointer (some ⟨r, 0, none⟩)] w (Reads w r d n c i (2 + l.length) bs (.tuple #[.string ⟨l.toArray⟩, .nilIface])) := by
  have hwb := i64_byte b
  have H := Lib.hid hl; clear hl
  go_enter Tryz.func145, Tryz.ntmps145
  go_wp2_with fail
  refine (readType h hi.cut).mono ?_
  rintro _ w1 ⟨rfl, hB, hC⟩
  go_wp2_with fail
  refine (readByte hB hi.tail.cut).mono ?_
  rintro _ w2 ⟨rfl, hB2, hC2⟩
  go_wp2_with fail
  refine (next hB2 b.toNat hi.tail.tail H.out).mono ?_
  rintro _ w3 ⟨o, cc, ⟨rfl, hB3, hC3⟩, hcc, hcc2, hS⟩
  have hs := conv_str (c := cc) hS H.out
  go_wp2
  go_ret2
  exact ⟨rfl, by rw [H.out]; simpa [Nat.add_assoc] using hB3, hC.reads (hC2.reads hC3)⟩

theorem readString_b1 {w : World} {r d n c i : Nat} {bs : List UInt8} {b0 b1 b2 b3 : UInt8} {l : List UInt8} (h : Buf w r d n c i bs) (hi : At bs i (0xb1 :: b0 :: b1 :: b2 :: b3 :: l)) (hl : l.length = Lib.beNat [b0, b1, b2, b3]) :
    Calls Tryz.prog 145 #[.pointer (some ⟨r, 0, none⟩)] w (Reads w r d n c i (5 + l.length) bs (.tuple #[.string ⟨l.toArray⟩, .nilIface])) := by
  have hwb := i64_be4 b0 b1 b2 b3
  have H := Lib.hid hl; clear hl
  have hi1 : At bs (i + 1) ([b0, b1, b2, b3] ++ l) := hi.tail
  go_enter Tryz.func145, Tryz.ntmps145
  go_wp2_with fail
  refine (readType h hi.cut).mono ?_
  rintro _ w1 ⟨rfl, hB, hC⟩
  go_wp2_with fail
  refine (next hB 4 hi1.left rfl).mono ?_
  rintro _ w2 ⟨o, cc, ⟨rfl, hB2, hC2⟩, hcc, hcc2, hS⟩
  go_wp2_with fail
  refine (be32 _ _ _ _ _ _ _ _ _ (by omega) hS).mono ?_
  rintro _ w3 ⟨rfl, hC3⟩
  go_wp2_with fail
  refine (next (hB2.ext hC3) (Lib.beNat [b0, b1, b2, b3]) hi1.right H.out).mono ?_
  rintro _ w4 ⟨o, cc, ⟨rfl, hB3, hC4⟩, hcc, hcc2, hS⟩
  have hs := conv_str (c := cc) hS H.out
  go_wp2
  go_ret2
  exact ⟨rfl, by rw [H.out]; simpa [Nat.add_assoc] using hB3, hC.reads (hC2.reads (hC3.any.reads hC4))⟩

theorem readString_b3 {w : World} {r d n c i : Nat} {bs : List UInt8} {b0 b1 b2 b3 : UInt8} {l : List UInt8} (h : Buf w r d n c i bs) (hi : At bs i (0xb3 :: b0 :: b1 :: b2 :: b3 :: l)) (hl : l.length = Lib.beNat [b0, b1, b2, b3]) :
    Calls Tryz.prog 145 #[.pointer (some ⟨r, 0, none⟩)] w (Reads w r d n c i (5 + l.length) bs (.tuple #[.string ⟨l.toArray⟩, .nilIface])) := by
  have hwb := i64_be4 b0 b1 b2 b3
  have H := Lib.hid hl; clear hl
  have hi1 : At bs (i + 1) ([b0, b1, b2, b3] ++ l) := hi.tail
  go_enter Tryz.func145, Tryz.ntmps145
  go_wp2_with fail
  refine (readType h hi.cut).mono ?_
  rintro _ w1 ⟨rfl, hB, hC⟩
  go_wp2_with fail
  refine (next hB 4 hi1.left rfl).mono ?_
  rintro _ w2 ⟨o, cc, ⟨rfl, hB2, hC2⟩, hcc, hcc2, hS⟩
  go_wp2_with fail
  refine (be32 _ _ _ _ _ _ _ _ _ (by omega) hS).mono ?_
  rintro _ w3 ⟨rfl, hC3⟩
  go_wp2_with fail
  refine (next (hB2.ext hC3) (Lib.beNat [b0, b1, b2, b3]) hi1.right H.out).mono ?_
  rintro _ w4 ⟨o, cc, ⟨rfl, hB3, hC4⟩, hcc, hcc2, hS⟩
  have hs := conv_str (c := cc) hS H.out
  go_wp2
  go_ret2
  exact ⟨rfl, by rw [H.out]; simpa [Nat.add_assoc] using hB3, hC.reads (hC2.reads (hC3.any.reads hC4))⟩
end Go.Proofs.S
namespace Go.Proofs.S
open Go.RowKit
def c8 (l : List UInt8) : List Value := l.map fun b => .int .u8 (b.toNat : Int)
theorem c8_length (l : List UInt8) : (c8 l).length = l.length := by simp [c8]
theorem c8_append (l m : List UInt8) : c8 (l ++ m) = c8 l ++ c8 m := by simp [c8]
theorem c8_get {l : List UInt8} {j : Nat} {u : Value} (h : (c8 l)[j]? = some u) : ∃ b, l[j]? = some b ∧ u = .int .u8 (b.toNat : Int) := by
  simp only [c8, List.getElem?_map, Option.map_eq_some_iff] at h
  obtain ⟨b, h1, h2⟩ := h
  exact ⟨b, h1, h2.symm⟩
theorem c8_one {l : List UInt8} : ∀ u ∈ c8 l, u.oneCell' = true := by
  intro u hu
  simp only [c8, List.mem_map] at hu
  obtain ⟨b, _, rfl⟩ := hu
  rfl
/-- A slice of bytes of the call's own: its block from base on. -/
def Own8 (w : World) (base : Nat) (v : Value) (l : List UInt8) : Prop := w.ownsRow base 5 1 v l.length (c8 l)
theorem Tryz_info5 : (Tryz.prog.info? 5).map (fun i => (i.zero, i.size, i.bytes)) = some (some (.int .u8 0), 1, 1) := by kernel_rfl
theorem add_off (g o j : Nat) : (⟨g, o, none⟩ : Addr).add j = ⟨g, o + j, none⟩ := by
  unfold Addr.add
  split
  · rename_i h; subst h; rfl
  · rfl
theorem own8_nil (w : World) (base : Nat) : Own8 w base (.slice none 0 0) [] := World.ownsRow_nil w base 5 1
/-- append(v, l...): l read from anywhere. -/
theorem run_app8 {w : World} {base : Nat} {v : Value} {l l2 : List UInt8} (h : Own8 w base v l) {g o m c : Nat} (hs : Sl8 w g o l2) (hm : l2.length = m) (hb : l.length + m ≤ 140737488355328) (hbase : base ≤ w.heap.size) :
    ∃ v1 w1, (Builtin.append_ #[23, 23] 23 #[v, .slice (some ⟨g, o, none⟩) m c]).run Tryz.prog w = .ok v1 w1 ∧ Own8 w1 base v1 (l ++ l2) ∧ w.grownBy w1 v.ownBlock ∧ (v1 = .slice none 0 0 ↔ v = .slice none 0 0 ∧ m = 0) ∧ (v1.ownBlock = v.ownBlock ∨ v1.ownBlock = some w.heap.size) := by
  obtain ⟨i0, hi, hzz⟩ := Option.map_eq_some_iff.1 Tryz_info5
  simp only [Prod.mk.injEq] at hzz
  obtain ⟨hz0, hz1, hz2⟩ := hzz
  obtain ⟨v1, w1, h1, h2, h3, h4, h5⟩ := run_append_own_at (P := Tryz.prog) w base 23 23 5 i0 (.int .u8 0) 1 1 Tryz.underlying23 hi hz0 hz1 hz2 rfl (by decide) v l.length (c8 l) h ⟨g, o, none⟩ m c (c8 l2) (by rw [c8_length]; omega)
    (fun j u hu => by
      obtain ⟨b, hb, rfl⟩ := c8_get hu
      rw [add_off]
      exact hs j b hb) c8_one (by simp only [maxLen]; omega) (by omega) hbase
  refine ⟨v1, w1, h1, ?_, h3, h4, h5⟩
  show w1.ownsRow base 5 1 v1 _ _
  rw [c8_append, List.length_append, hm]
  exact h2
theorem Own8.reads {w : World} {base : Nat} {v : Value} {l : List UInt8} (h : Own8 w base v l) (hn : l ≠ []) : ∃ g c, v = .slice (some ⟨g, 0, none⟩) l.length c ∧ base ≤ g ∧ g < w.heap.size ∧ l.length ≤ c ∧ c ≤ maxLen ∧ Sl8 w g 0 l := by
  rcases h.2 with ⟨rfl, h0⟩ | ⟨g, cap, cur, rfl, hg, hh, h1, h2, h3, h4⟩
  · exact absurd (List.eq_nil_of_length_eq_zero h0) hn
  · refine ⟨g, cap, rfl, hg, (Array.getElem?_eq_some_iff.1 hh).1, h1, h2, fun j b hb => ?_⟩
    have := h.cells (g := g) rfl j (.int .u8 (b.toNat : Int)) (by simp [c8, hb])
    rwa [add_off] at this
/-- The walk's step at append, its run being known. -/
theorem wpList_app {P : Program} {ops : Array Oper} {rest : List Oper} {o : Oper} {a : Act} {Q : Exit → Act → World → Prop} {w w1 : World} {t : TypeId} {v u v1 : Value} {s x : Operand}
    (hrun : (Builtin.append_ #[t, t] t #[v, u]).run P w = .ok v1 w1) (hgd : o.guard = none) (hty : o.type = t) (ho : o.op = .call { callee := .builtin .append, args := #[s, x], argTypes := #[t, t] }) (hs : a.eval s = v) (hx : a.eval x = u)
    (h : wpList P ops Q rest (a.put o.dst v1) w1) : wpList P ops Q (o :: rest) a w := by
  refine wpList_plain hgd fun K hK => ?_
  unfold Oper.wp execOp
  simp only [ho, hty, resolve, invoke, builtin, Sem.run_bind, Sem.run_pure, Result.andThen_ok, List.map_toArray, List.map_cons, List.map_nil, hs, hx, hrun]
  exact hK _ _ h
end Go.Proofs.S
namespace Go.Proofs.S
open Go.RowKit
theorem Chg.grown {X : Nat → Prop} {a w w1 : World} {row : Option Nat} (h : Chg X a w) (hg : w.grownBy w1 row) (hr : ∀ k, row = some k → k < a.heap.size → X k) : Chg X a w1 :=
  h.trans (Y := fun k => row = some k) ⟨hg.os, hg.tape, hg.output, hg.size, fun k hk hx => hg.block k hk (fun e => hx e.symm)⟩ (fun k hk hy => hr k hy hk)
theorem Own8.chg {X : Nat → Prop} {w w1 : World} {base : Nat} {v : Value} {l : List UInt8} (h : Own8 w base v l) (hc : Chg X w w1) (hx : ∀ k, X k → k < base) : Own8 w1 base v l := by
  refine ⟨h.1, ?_⟩
  rcases h.2 with h2 | ⟨g, cap, cur, rfl, hg, hh, r⟩
  · exact .inl h2
  · exact .inr ⟨g, cap, cur, rfl, hg, (hc.block g (Array.getElem?_eq_some_iff.1 hh).1 (fun hX => by have := hx g hX; omega)).trans hh, r⟩
theorem Own8.base_le {w : World} {base base' : Nat} {v : Value} {l : List UInt8} (h : Own8 w base v l) (hb : base' ≤ base) : Own8 w base' v l := by
  refine ⟨h.1, ?_⟩
  rcases h.2 with h2 | ⟨g, cap, cur, rfl, hg, r⟩
  · exact .inl h2
  · exact .inr ⟨g, cap, cur, rfl, Nat.le_trans hb hg, r⟩
/-- What reading bytes does. -/
def ReadsBin (w : World) (r d n c i m : Nat) (bs l : List UInt8) (e : Ending) (w' : World) : Prop :=
  ∃ v, e = .returned (.tuple #[v, .nilIface]) ∧ Own8 w' w.heap.size v l ∧ Buf w' r d n c (i + m) bs ∧ Chg (· = r) w w'
theorem own8_make (w : World) (base : Nat) (hb : base ≤ w.heap.size) : Own8 (w.alloc (.cells #[] 5)) base (.slice (some ⟨w.heap.size, 0, none⟩) 0 0) [] :=
  World.ownsRow_lit (base := base) (e := 5) (size := 1) w #[] 0 hb (by simp [maxLen]) (by simp)

set_option maxRecDepth 100000 in
theorem readBinary_a0_empty {w : World} {r d n c i : Nat} {bs : List UInt8} {b : UInt8} (h : Buf w r d n c i bs) (hi : At bs i (0xa0 :: b :: [])) (hl : 0 = b.toNat) (hbig : n ≤ 140737488355328) :
    Calls Tryz.prog 146 #[.pointer (some ⟨r, 0, none⟩)] w (ReadsBin w r d n c i (2) bs []) := by
  have hwb := i64_byte b
  have hz0 : (b.toNat : Int) = 0 := by omega
  have H := Lib.hid hl; clear hl
  have hlt := h.rlt
  have HR := Lib.hid h; clear h
  go_enter Tryz.func146, Tryz.ntmps146
  go_wp2_with fail
  refine (readType HR.out hi.cut).mono ?_
  rintro _ w1 ⟨rfl, hB, hC⟩
  go_wp2_with fail
  refine (readByte hB hi.tail.cut).mono ?_
  rintro _ w2 ⟨rfl, hB2, hC2⟩
  have hmk : (Instr.makeSlice 23 (.int .i64 0) (.int .i64 0)).run Tryz.prog w2 = .ok (.slice (some ⟨w2.heap.size, 0, none⟩) 0 0) (w2.alloc (.cells #[] 5)) := by kernel_rfl
  go_wp2
  go_ret2
  refine ⟨_, rfl, own8_make w2 _ (hC.reads hC2).size, ?_, ((hC.reads hC2).alloc _)⟩
  have := hB2.ext ((Chg.refl _ w2).alloc (.cells #[] 5))
  simpa [Nat.add_assoc] using this

set_option maxRecDepth 100000 in
theorem readBinary_a0_some {w : World} {r d n c i : Nat} {bs : List UInt8} {b : UInt8} {l : List UInt8} (h : Buf w r d n c i bs) (hi : At bs i (0xa0 :: b :: l)) (hl : l.length = b.toNat) (hne : 0 < l.length) (hbig : n ≤ 140737488355328) :
    Calls Tryz.prog 146 #[.pointer (some ⟨r, 0, none⟩)] w (ReadsBin w r d n c i (2 + l.length) bs l) := by
  have hwb := i64_byte b
  have hne0 : ((b.toNat : Int) == 0) = false := by rw [beq_eq_false_iff_ne]; omega
  have hle : i + 2 + l.length ≤ n := by
    have e := h.len
    have := hi.le (by have := h.pos; omega)
    simp at this
    omega
  have H := Lib.hid hl; clear hl
  have hlt := h.rlt
  have HR := Lib.hid h; clear h
  go_enter Tryz.func146, Tryz.ntmps146
  go_wp2_with fail
  refine (readType HR.out hi.cut).mono ?_
  rintro _ w1 ⟨rfl, hB, hC⟩
  go_wp2_with fail
  refine (readByte hB hi.tail.cut).mono ?_
  rintro _ w2 ⟨rfl, hB2, hC2⟩
  go_wp2_with fail
  refine (next hB2 (b.toNat) hi.tail.tail H.out).mono ?_
  rintro _ w3 ⟨o, cc, ⟨rfl, hB3, hC3⟩, hcc, hcc2, hS⟩
  have hC13 := hC.reads (hC2.reads hC3)
  obtain ⟨v1, w4, hrun, hown, hgr, hnil, hat⟩ := run_app8 (own8_nil w3 w.heap.size) (c := cc) hS H.out (by simp only [List.length_nil]; have := H.out; omega) hC13.size
  have hC14 : Chg (· = r) w w4 := hC13.grown hgr (by intro k hk; cases hk)
  have hC34 : Chg (fun _ => False) w3 w4 := (Chg.refl _ w3).grown hgr (by intro k hk; cases hk)
  clear hnil hat hgr
  have HU := Lib.hid hrun; clear hrun
  go_wp2_with (at_builtin; refine wpList_app HU.out rfl rfl rfl rfl rfl ?_)
  go_ret2
  refine ⟨_, rfl, by simpa using hown, ?_, hC14⟩
  have := hB3.ext hC34
  rw [H.out]
  simpa [Nat.add_assoc] using this

set_option maxRecDepth 100000 in
theorem readBinary_b0_empty {w : World} {r d n c i : Nat} {bs : List UInt8} {b0 b1 b2 b3 : UInt8} (h : Buf w r d n c i bs) (hi : At bs i (0xb0 :: b0 :: b1 :: b2 :: b3 :: [])) (hl : 0 = Lib.beNat [b0, b1, b2, b3]) (hbig : n ≤ 140737488355328) :
    Calls Tryz.prog 146 #[.pointer (some ⟨r, 0, none⟩)] w (ReadsBin w r d n c i (5) bs []) := by
  have hwb := i64_be4 b0 b1 b2 b3
  have hi1 : At bs (i + 1) ([b0, b1, b2, b3] ++ []) := hi.tail
  have hz0 : ((Lib.beNat [b0, b1, b2, b3] : Nat) : Int) = 0 := by omega
  have H := Lib.hid hl; clear hl
  have hlt := h.rlt
  have HR := Lib.hid h; clear h
  go_enter Tryz.func146, Tryz.ntmps146
  go_wp2_with fail
  refine (readType HR.out hi.cut).mono ?_
  rintro _ w1 ⟨rfl, hB, hC⟩
  go_wp2_with fail
  refine (next hB 4 hi1.left rfl).mono ?_
  rintro _ w1b ⟨o1, cc1, ⟨rfl, hB1, hC1⟩, hcc1, hcc3, hS1⟩
  go_wp2_with fail
  refine (be32 _ _ _ _ _ _ _ _ _ (by omega) hS1).mono ?_
  rintro _ w2 ⟨rfl, hC2a⟩
  have hB2 := hB1.ext hC2a
  have hC2 : Chg (· = r) w1 w2 := hC1.reads hC2a.any
  have hmk : (Instr.makeSlice 23 (.int .i64 0) (.int .i64 0)).run Tryz.prog w2 = .ok (.slice (some ⟨w2.heap.size, 0, none⟩) 0 0) (w2.alloc (.cells #[] 5)) := by kernel_rfl
  go_wp2
  go_ret2
  refine ⟨_, rfl, own8_make w2 _ (hC.reads hC2).size, ?_, ((hC.reads hC2).alloc _)⟩
  have := hB2.ext ((Chg.refl _ w2).alloc (.cells #[] 5))
  simpa [Nat.add_assoc] using this

set_option maxRecDepth 100000 in
theorem readBinary_b0_some {w : World} {r d n c i : Nat} {bs : List UInt8} {b0 b1 b2 b3 : UInt8} {l : List UInt8} (h : Buf w r d n c i bs) (hi : At bs i (0xb0 :: b0 :: b1 :: b2 :: b3 :: l)) (hl : l.length = Lib.beNat [b0, b1, b2, b3]) (hne : 0 < l.length) (hbig : n ≤ 140737488355328) :
    Calls Tryz.prog 146 #[.pointer (some ⟨r, 0, none⟩)] w (ReadsBin w r d n c i (5 + l.length) bs l) := by
  have hwb := i64_be4 b0 b1 b2 b3
  have hi1 : At bs (i + 1) ([b0, b1, b2, b3] ++ l) := hi.tail
  have hne0 : ((Lib.beNat [b0, b1, b2, b3] : Int) == 0) = false := by rw [beq_eq_false_iff_ne]; omega
  have hle : i + 5 + l.length ≤ n := by
    have e := h.len
    have := hi.le (by have := h.pos; omega)
    simp at this
    omega
  have H := Lib.hid hl; clear hl
  have hlt := h.rlt
  have HR := Lib.hid h; clear h
  go_enter Tryz.func146, Tryz.ntmps146
  go_wp2_with fail
  refine (readType HR.out hi.cut).mono ?_
  rintro _ w1 ⟨rfl, hB, hC⟩
  go_wp2_with fail
  refine (next hB 4 hi1.left rfl).mono ?_
  rintro _ w1b ⟨o1, cc1, ⟨rfl, hB1, hC1⟩, hcc1, hcc3, hS1⟩
  go_wp2_with fail
  refine (be32 _ _ _ _ _ _ _ _ _ (by omega) hS1).mono ?_
  rintro _ w2 ⟨rfl, hC2a⟩
  have hB2 := hB1.ext hC2a
  have hC2 : Chg (· = r) w1 w2 := hC1.reads hC2a.any
  go_wp2_with fail
  refine (next hB2 (Lib.beNat [b0, b1, b2, b3]) hi1.right H.out).mono ?_
  rintro _ w3 ⟨o, cc, ⟨rfl, hB3, hC3⟩, hcc, hcc2, hS⟩
  have hC13 := hC.reads (hC2.reads hC3)
  obtain ⟨v1, w4, hrun, hown, hgr, hnil, hat⟩ := run_app8 (own8_nil w3 w.heap.size) (c := cc) hS H.out (by simp only [List.length_nil]; have := H.out; omega) hC13.size
  have hC14 : Chg (· = r) w w4 := hC13.grown hgr (by intro k hk; cases hk)
  have hC34 : Chg (fun _ => False) w3 w4 := (Chg.refl _ w3).grown hgr (by intro k hk; cases hk)
  clear hnil hat hgr
  have HU := Lib.hid hrun; clear hrun
  go_wp2_with (at_builtin; refine wpList_app HU.out rfl rfl rfl rfl rfl ?_)
  go_ret2
  refine ⟨_, rfl, by simpa using hown, ?_, hC14⟩
  have := hB3.ext hC34
  rw [H.out]
  simpa [Nat.add_assoc] using this
end Go.Proofs.S
