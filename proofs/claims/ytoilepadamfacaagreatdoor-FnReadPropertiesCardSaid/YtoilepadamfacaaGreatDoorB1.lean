/- The reader of the wire form reads one byte, and the blocks that may change are told (Buf, Chg): for a reader that holds its bytes, within 2^63. -/
import Derived.Test.YtoilepadamfacaaGreatDoorProg
import Derived.WalkKit
import Derived.WalkLawsBesides
import Derived.WalkSpells
import Derived.Deep.QuietTactic
import Derived.BigQuiet
import Derived.Deep.DeepFit
import Derived.Lib.Hide
import Derived.Lib.Endian
import Derived.Lib.EndianBits
set_option linter.unusedVariables false
set_option linter.unusedSimpArgs false
namespace Go.Proofs.S
open Go.RowKit

/-- What may have turned between two worlds: blocks of X alone; new blocks. -/
structure Chg (X : Nat → Prop) (w w' : World) : Prop where
  os : w'.os = w.os
  tape : w'.tape = w.tape
  output : w'.output = w.output
  size : w.heap.size ≤ w'.heap.size
  block : ∀ k, k < w.heap.size → ¬ X k → w'.heap[k]? = w.heap[k]?

theorem Chg.refl (X : Nat → Prop) (w : World) : Chg X w w := ⟨rfl, rfl, rfl, Nat.le_refl _, fun _ _ _ => rfl⟩
theorem Chg.trans {X Y : Nat → Prop} {a b c : World} (h : Chg X a b) (k : Chg Y b c) (hY : ∀ i, i < a.heap.size → Y i → X i) : Chg X a c :=
  ⟨k.os.trans h.os, k.tape.trans h.tape, k.output.trans h.output, Nat.le_trans h.size k.size, fun i hi hx => (k.block i (Nat.lt_of_lt_of_le hi h.size) (fun hy => hx (hY i hi hy))).trans (h.block i hi hx)⟩
theorem Chg.mono {X Y : Nat → Prop} {a b : World} (h : Chg X a b) (hY : ∀ i, X i → Y i) : Chg Y a b :=
  ⟨h.os, h.tape, h.output, h.size, fun i hi hx => h.block i hi (fun k => hx (hY i k))⟩
theorem Chg.drewN {X : Nat → Prop} {a b : World} (h : Chg X a b) (n : Nat) : Chg X a (b.drewN n) := ⟨h.os, h.tape, h.output, h.size, h.block⟩
theorem Chg.setCell {X : Nat → Prop} {a w : World} (h : Chg X a w) {p : Addr} (hp : p.block < a.heap.size → X p.block) (u : Value) : Chg X a (w.setCell p u) :=
  ⟨h.os, h.tape, h.output, by simpa [World.setCell] using h.size, fun k hk hx => (Below.heap_setCell w p u k (fun e => hx (e ▸ hp (e ▸ hk)))).trans (h.block k hk hx)⟩
theorem Chg.alloc {X : Nat → Prop} {a w : World} (h : Chg X a w) (o : Obj) : Chg X a (w.alloc o) :=
  ⟨h.os, h.tape, h.output, by have := h.size; simp; omega, fun k hk hx => (Below.heap_alloc w o k (Nat.lt_of_lt_of_le hk h.size)).trans (h.block k hk hx)⟩
theorem Chg.cell {X : Nat → Prop} {a b : World} (h : Chg X a b) {p : Addr} {v : Value} (hc : a.cell? p = some v) (hx : ¬ X p.block) : b.cell? p = some v :=
  (World.cell?_of_block (h.block p.block (World.block_lt_of_cell? _ _ hc) hx)).trans hc

/-- A reader: its block r: the bytes' slice, the position. -/
structure Buf (w : World) (r d n c i : Nat) (bs : List UInt8) : Prop where
  blk : w.heap[r]? = some (.cells #[.slice (some ⟨d, 0, none⟩) n c, .int .i64 (i : Int)] 129 (0, 0))
  ne : d ≠ r
  len : bs.length = n
  pos : i ≤ n
  cap : n ≤ c
  big : n ≤ 281474976710656
  cells : ∀ (j : Nat) (b : UInt8), bs[j]? = some b → w.cell? ⟨d, j, none⟩ = some (.int .u8 (b.toNat : Int))

theorem Buf.c0 {w : World} {r d n c i : Nat} {bs : List UInt8} (h : Buf w r d n c i bs) : w.cell? ⟨r, 0, none⟩ = some (.slice (some ⟨d, 0, none⟩) n c) := by simp [World.cell?, h.blk]
theorem Buf.c1 {w : World} {r d n c i : Nat} {bs : List UInt8} (h : Buf w r d n c i bs) : w.cell? ⟨r, 1, none⟩ = some (.int .i64 (i : Int)) := by simp [World.cell?, h.blk]
theorem Buf.f1 {w : World} {r d n c i : Nat} {bs : List UInt8} (h : Buf w r d n c i bs) : w.frozen? ⟨r, 1, none⟩ = false := by simp [World.frozen?, h.blk]

theorem readCheck_no {w : World} {r d n c i : Nat} {bs : List UInt8} (h : Buf w r d n c i bs) (m : Nat) (hm : i + m ≤ n) :
    Calls Tryz.prog 234 #[.pointer (some ⟨r, 0, none⟩), .int .i64 (m : Int)] w fun e w' => e = .returned (.bool false) ∧ ∃ k, w' = w.drewN k := by
  have h0 := h.c0
  have h1 := h.c1
  have hp := h.pos
  have hc := h.cap
  have hb := h.big
  have hs : ((i : Int) + (m : Int) ≤ n) := by omega
  have hw : IntKind.i64.wrap ((i : Int) + (m : Int)) = (i : Int) + (m : Int) := IntWalk.i64_in _ (by omega)
  have hg : decide ((i : Int) + (m : Int) > n) = false := by simp; omega
  go_enter Tryz.func234, Tryz.ntmps234
  go_wp2
  go_quiet (fail)
  go_wp2
  go_ret
  exact ⟨rfl, _, rfl⟩

/-- At place i of bs there stands enc. -/
def At (bs : List UInt8) (i : Nat) (enc : List UInt8) : Prop := ∃ rest, bs.drop i = enc ++ rest
theorem At.head {bs : List UInt8} {i : Nat} {x : UInt8} {l : List UInt8} (h : At bs i (x :: l)) : bs[i]? = some x := by
  obtain ⟨r, h⟩ := h
  have := congrArg (fun l => l[0]?) h
  simpa [List.getElem?_drop] using this
theorem At.tail {bs : List UInt8} {i : Nat} {x : UInt8} {l : List UInt8} (h : At bs i (x :: l)) : At bs (i + 1) l := by
  obtain ⟨r, h⟩ := h
  refine ⟨r, ?_⟩
  have := congrArg (List.drop 1) h
  simpa [List.drop_drop] using this
theorem At.left {bs : List UInt8} {i : Nat} {l l' : List UInt8} (h : At bs i (l ++ l')) : At bs i l := by
  obtain ⟨r, h⟩ := h
  exact ⟨l' ++ r, by rw [h, List.append_assoc]⟩
theorem At.right {bs : List UInt8} {i : Nat} {l l' : List UInt8} (h : At bs i (l ++ l')) : At bs (i + l.length) l' := by
  obtain ⟨r, h⟩ := h
  refine ⟨r, ?_⟩
  rw [← List.drop_drop, h, List.append_assoc, List.drop_left]
theorem At.get {bs : List UInt8} {i j : Nat} {l : List UInt8} (h : At bs i l) {b : UInt8} (hb : l[j]? = some b) : bs[i + j]? = some b := by
  obtain ⟨r, h⟩ := h
  have hj : j < l.length := (List.getElem?_eq_some_iff.1 hb).1
  have := congrArg (fun l => l[j]?) h
  simpa [List.getElem?_drop, List.getElem?_append_left hj, hb] using this
theorem At.le {bs : List UInt8} {i : Nat} {l : List UInt8} (h : At bs i l) (hi : i ≤ bs.length) : i + l.length ≤ bs.length := by
  obtain ⟨r, h⟩ := h
  have := congrArg List.length h
  simp at this
  omega
end Go.Proofs.S
namespace Go.Proofs.S
open Go.RowKit
theorem ret_int {k : IntKind} {a b : Int} (h : a = b) : Ending.returned (.int k a) = .returned (.int k b) := by rw [h]
/-- The bytes l stand in block g from o on. -/
def Sl8 (w : World) (g o : Nat) (l : List UInt8) : Prop := ∀ (j : Nat) (b : UInt8), l[j]? = some b → w.cell? ⟨g, o + j, none⟩ = some (.int .u8 (b.toNat : Int))

set_option maxRecDepth 100000 in
set_option maxHeartbeats 2000000 in
theorem be32 (g o n c : Nat) (b0 b1 b2 b3 : UInt8) (w : World) (hn : 4 ≤ n) (h : Sl8 w g o [b0, b1, b2, b3]) :
    Calls Tryz.prog 192 #[.agg #[], .slice (some ⟨g, o, none⟩) n c] w fun e w' => e = .returned (.int .u32 (Lib.beNat [b0, b1, b2, b3])) ∧ Chg (fun _ => False) w w' := by
  have c0 : w.cell? ⟨g, o, none⟩ = some (.int .u8 (b0.toNat : Int)) := h 0 b0 rfl
  have d0 : (w.alloc (.cells #[] 373)).cell? ⟨g, o, none⟩ = some (.int .u8 (b0.toNat : Int)) := ((Chg.refl (fun _ => False) w).alloc _).cell c0 (fun h => h)
  have t0 := b0.toNat_lt
  have l0 : ((0 : Nat) : Int) < (n : Int) := by omega
  have m0 : (0 : Int) < (n : Int) := by omega
  have c1 : w.cell? ⟨g, o + 1, none⟩ = some (.int .u8 (b1.toNat : Int)) := h 1 b1 rfl
  have d1 : (w.alloc (.cells #[] 373)).cell? ⟨g, o + 1, none⟩ = some (.int .u8 (b1.toNat : Int)) := ((Chg.refl (fun _ => False) w).alloc _).cell c1 (fun h => h)
  have t1 := b1.toNat_lt
  have l1 : ((1 : Nat) : Int) < (n : Int) := by omega
  have m1 : (1 : Int) < (n : Int) := by omega
  have c2 : w.cell? ⟨g, o + 2, none⟩ = some (.int .u8 (b2.toNat : Int)) := h 2 b2 rfl
  have d2 : (w.alloc (.cells #[] 373)).cell? ⟨g, o + 2, none⟩ = some (.int .u8 (b2.toNat : Int)) := ((Chg.refl (fun _ => False) w).alloc _).cell c2 (fun h => h)
  have t2 := b2.toNat_lt
  have l2 : ((2 : Nat) : Int) < (n : Int) := by omega
  have m2 : (2 : Int) < (n : Int) := by omega
  have c3 : w.cell? ⟨g, o + 3, none⟩ = some (.int .u8 (b3.toNat : Int)) := h 3 b3 rfl
  have d3 : (w.alloc (.cells #[] 373)).cell? ⟨g, o + 3, none⟩ = some (.int .u8 (b3.toNat : Int)) := ((Chg.refl (fun _ => False) w).alloc _).cell c3 (fun h => h)
  have t3 := b3.toNat_lt
  have l3 : ((3 : Nat) : Int) < (n : Int) := by omega
  have m3 : (3 : Int) < (n : Int) := by omega
  clear h
  go_enter Tryz.func192, Tryz.ntmps192
  go_wp2
  go_quiet (fail)
  go_wp2
  go_ret
  refine ⟨ret_int ?_, ((Chg.refl _ _).alloc _).drewN _⟩
  simp only [Lib.beNat, Lib.beFrom]
  have e1 : bits .or .u32 ((b3.toNat : Int)) ((b2.toNat : Int) * 256) = (b3.toNat : Int) + (b2.toNat : Int) * 256 := u32_or8 _ _ (by omega) (by omega) (by omega) (by omega) (by omega)
  have e2 : bits .or .u32 ((b3.toNat : Int) + (b2.toNat : Int) * 256) ((b1.toNat : Int) * 65536) = (b3.toNat : Int) + (b2.toNat : Int) * 256 + (b1.toNat : Int) * 65536 := u32_or16 _ _ (by omega) (by omega) (by omega) (by omega) (by omega)
  have e3 : bits .or .u32 ((b3.toNat : Int) + (b2.toNat : Int) * 256 + (b1.toNat : Int) * 65536) ((b0.toNat : Int) * 16777216) = (b3.toNat : Int) + (b2.toNat : Int) * 256 + (b1.toNat : Int) * 65536 + (b0.toNat : Int) * 16777216 := u32_or24 _ _ (by omega) (by omega) (by omega) (by omega) (by omega)
  rw [e1, e2, e3]
  omega

set_option maxRecDepth 100000 in
set_option maxHeartbeats 2000000 in
theorem be64 (g o n c : Nat) (b0 b1 b2 b3 b4 b5 b6 b7 : UInt8) (w : World) (hn : 8 ≤ n) (h : Sl8 w g o [b0, b1, b2, b3, b4, b5, b6, b7]) :
    Calls Tryz.prog 201 #[.agg #[], .slice (some ⟨g, o, none⟩) n c] w fun e w' => e = .returned (.int .u64 (Lib.beNat [b0, b1, b2, b3, b4, b5, b6, b7])) ∧ Chg (fun _ => False) w w' := by
  have c0 : w.cell? ⟨g, o, none⟩ = some (.int .u8 (b0.toNat : Int)) := h 0 b0 rfl
  have d0 : (w.alloc (.cells #[] 373)).cell? ⟨g, o, none⟩ = some (.int .u8 (b0.toNat : Int)) := ((Chg.refl (fun _ => False) w).alloc _).cell c0 (fun h => h)
  have t0 := b0.toNat_lt
  have l0 : ((0 : Nat) : Int) < (n : Int) := by omega
  have m0 : (0 : Int) < (n : Int) := by omega
  have c1 : w.cell? ⟨g, o + 1, none⟩ = some (.int .u8 (b1.toNat : Int)) := h 1 b1 rfl
  have d1 : (w.alloc (.cells #[] 373)).cell? ⟨g, o + 1, none⟩ = some (.int .u8 (b1.toNat : Int)) := ((Chg.refl (fun _ => False) w).alloc _).cell c1 (fun h => h)
  have t1 := b1.toNat_lt
  have l1 : ((1 : Nat) : Int) < (n : Int) := by omega
  have m1 : (1 : Int) < (n : Int) := by omega
  have c2 : w.cell? ⟨g, o + 2, none⟩ = some (.int .u8 (b2.toNat : Int)) := h 2 b2 rfl
  have d2 : (w.alloc (.cells #[] 373)).cell? ⟨g, o + 2, none⟩ = some (.int .u8 (b2.toNat : Int)) := ((Chg.refl (fun _ => False) w).alloc _).cell c2 (fun h => h)
  have t2 := b2.toNat_lt
  have l2 : ((2 : Nat) : Int) < (n : Int) := by omega
  have m2 : (2 : Int) < (n : Int) := by omega
  have c3 : w.cell? ⟨g, o + 3, none⟩ = some (.int .u8 (b3.toNat : Int)) := h 3 b3 rfl
  have d3 : (w.alloc (.cells #[] 373)).cell? ⟨g, o + 3, none⟩ = some (.int .u8 (b3.toNat : Int)) := ((Chg.refl (fun _ => False) w).alloc _).cell c3 (fun h => h)
  have t3 := b3.toNat_lt
  have l3 : ((3 : Nat) : Int) < (n : Int) := by omega
  have m3 : (3 : Int) < (n : Int) := by omega
  have c4 : w.cell? ⟨g, o + 4, none⟩ = some (.int .u8 (b4.toNat : Int)) := h 4 b4 rfl
  have d4 : (w.alloc (.cells #[] 373)).cell? ⟨g, o + 4, none⟩ = some (.int .u8 (b4.toNat : Int)) := ((Chg.refl (fun _ => False) w).alloc _).cell c4 (fun h => h)
  have t4 := b4.toNat_lt
  have l4 : ((4 : Nat) : Int) < (n : Int) := by omega
  have m4 : (4 : Int) < (n : Int) := by omega
  have c5 : w.cell? ⟨g, o + 5, none⟩ = some (.int .u8 (b5.toNat : Int)) := h 5 b5 rfl
  have d5 : (w.alloc (.cells #[] 373)).cell? ⟨g, o + 5, none⟩ = some (.int .u8 (b5.toNat : Int)) := ((Chg.refl (fun _ => False) w).alloc _).cell c5 (fun h => h)
  have t5 := b5.toNat_lt
  have l5 : ((5 : Nat) : Int) < (n : Int) := by omega
  have m5 : (5 : Int) < (n : Int) := by omega
  have c6 : w.cell? ⟨g, o + 6, none⟩ = some (.int .u8 (b6.toNat : Int)) := h 6 b6 rfl
  have d6 : (w.alloc (.cells #[] 373)).cell? ⟨g, o + 6, none⟩ = some (.int .u8 (b6.toNat : Int)) := ((Chg.refl (fun _ => False) w).alloc _).cell c6 (fun h => h)
  have t6 := b6.toNat_lt
  have l6 : ((6 : Nat) : Int) < (n : Int) := by omega
  have m6 : (6 : Int) < (n : Int) := by omega
  have c7 : w.cell? ⟨g, o + 7, none⟩ = some (.int .u8 (b7.toNat : Int)) := h 7 b7 rfl
  have d7 : (w.alloc (.cells #[] 373)).cell? ⟨g, o + 7, none⟩ = some (.int .u8 (b7.toNat : Int)) := ((Chg.refl (fun _ => False) w).alloc _).cell c7 (fun h => h)
  have t7 := b7.toNat_lt
  have l7 : ((7 : Nat) : Int) < (n : Int) := by omega
  have m7 : (7 : Int) < (n : Int) := by omega
  clear h
  go_enter Tryz.func201, Tryz.ntmps201
  go_wp2
  go_quiet (fail)
  go_wp2
  go_ret
  refine ⟨ret_int ?_, ((Chg.refl _ _).alloc _).drewN _⟩
  simp only [Lib.beNat, Lib.beFrom]
  have e1 : bits .or .u64 ((b7.toNat : Int)) ((b6.toNat : Int) * 256) = (b7.toNat : Int) + (b6.toNat : Int) * 256 := u64_or8 _ _ (by omega) (by omega) (by omega) (by omega) (by omega)
  have e2 : bits .or .u64 ((b7.toNat : Int) + (b6.toNat : Int) * 256) ((b5.toNat : Int) * 65536) = (b7.toNat : Int) + (b6.toNat : Int) * 256 + (b5.toNat : Int) * 65536 := u64_or16 _ _ (by omega) (by omega) (by omega) (by omega) (by omega)
  have e3 : bits .or .u64 ((b7.toNat : Int) + (b6.toNat : Int) * 256 + (b5.toNat : Int) * 65536) ((b4.toNat : Int) * 16777216) = (b7.toNat : Int) + (b6.toNat : Int) * 256 + (b5.toNat : Int) * 65536 + (b4.toNat : Int) * 16777216 := u64_or24 _ _ (by omega) (by omega) (by omega) (by omega) (by omega)
  have e4 : bits .or .u64 ((b7.toNat : Int) + (b6.toNat : Int) * 256 + (b5.toNat : Int) * 65536 + (b4.toNat : Int) * 16777216) ((b3.toNat : Int) * 4294967296) = (b7.toNat : Int) + (b6.toNat : Int) * 256 + (b5.toNat : Int) * 65536 + (b4.toNat : Int) * 16777216 + (b3.toNat : Int) * 4294967296 := u64_or32 _ _ (by omega) (by omega) (by omega) (by omega) (by omega)
  have e5 : bits .or .u64 ((b7.toNat : Int) + (b6.toNat : Int) * 256 + (b5.toNat : Int) * 65536 + (b4.toNat : Int) * 16777216 + (b3.toNat : Int) * 4294967296) ((b2.toNat : Int) * 1099511627776) = (b7.toNat : Int) + (b6.toNat : Int) * 256 + (b5.toNat : Int) * 65536 + (b4.toNat : Int) * 16777216 + (b3.toNat : Int) * 4294967296 + (b2.toNat : Int) * 1099511627776 := u64_or40 _ _ (by omega) (by omega) (by omega) (by omega) (by omega)
  have e6 : bits .or .u64 ((b7.toNat : Int) + (b6.toNat : Int) * 256 + (b5.toNat : Int) * 65536 + (b4.toNat : Int) * 16777216 + (b3.toNat : Int) * 4294967296 + (b2.toNat : Int) * 1099511627776) ((b1.toNat : Int) * 281474976710656) = (b7.toNat : Int) + (b6.toNat : Int) * 256 + (b5.toNat : Int) * 65536 + (b4.toNat : Int) * 16777216 + (b3.toNat : Int) * 4294967296 + (b2.toNat : Int) * 1099511627776 + (b1.toNat : Int) * 281474976710656 := u64_or48 _ _ (by omega) (by omega) (by omega) (by omega) (by omega)
  have e7 : bits .or .u64 ((b7.toNat : Int) + (b6.toNat : Int) * 256 + (b5.toNat : Int) * 65536 + (b4.toNat : Int) * 16777216 + (b3.toNat : Int) * 4294967296 + (b2.toNat : Int) * 1099511627776 + (b1.toNat : Int) * 281474976710656) ((b0.toNat : Int) * 72057594037927936) = (b7.toNat : Int) + (b6.toNat : Int) * 256 + (b5.toNat : Int) * 65536 + (b4.toNat : Int) * 16777216 + (b3.toNat : Int) * 4294967296 + (b2.toNat : Int) * 1099511627776 + (b1.toNat : Int) * 281474976710656 + (b0.toNat : Int) * 72057594037927936 := u64_or56 _ _ (by omega) (by omega) (by omega) (by omega) (by omega)
  rw [e1, e2, e3, e4, e5, e6, e7]
  omega
end Go.Proofs.S
namespace Go.Proofs.S
open Go.RowKit

/-- The reader, on by m bytes. -/
theorem Buf.on {w w' : World} {r d n c i : Nat} {bs : List UInt8} (h : Buf w r d n c i bs) (m : Nat) (hm : i + m ≤ n) (hb : ∀ k, k ≠ r → w'.heap[k]? = w.heap[k]?)
    (hr : w'.heap[r]? = some (.cells #[.slice (some ⟨d, 0, none⟩) n c, .int .i64 ((i : Int) + (m : Int))] 129 (0, 0))) : Buf w' r d n c (i + m) bs :=
  ⟨by rw [hr]; simp, h.ne, h.len, hm, h.cap, h.big, fun j b hj => (World.cell?_of_block (a := ⟨d, j, none⟩) (hb d h.ne)).trans (h.cells j b hj)⟩

theorem Buf.set {w : World} {r d n c i : Nat} {bs : List UInt8} (h : Buf w r d n c i bs) (m : Nat) (hm : i + m ≤ n) (k : Nat) :
    Buf ((w.drewN k).setCell ⟨r, 1, none⟩ (.int .i64 ((i : Int) + (m : Int)))) r d n c (i + m) bs :=
  h.on m hm (fun j hj => by rw [Below.heap_setCell _ _ _ _ hj]; rfl) (by
    have := h.blk
    simp only [World.setCell, Array.getElem?_modify]
    simp [World.drewN, this])

theorem Buf.drewN {w : World} {r d n c i : Nat} {bs : List UInt8} (h : Buf w r d n c i bs) (k : Nat) : Buf (w.drewN k) r d n c i bs :=
  ⟨h.blk, h.ne, h.len, h.pos, h.cap, h.big, h.cells⟩

theorem Chg.buf (w : World) (r k : Nat) (v : Value) : Chg (· = r) w ((w.drewN k).setCell ⟨r, 1, none⟩ v) := Chg.setCell (X := (· = r)) (p := ⟨r, 1, none⟩) ((Chg.refl (· = r) w).drewN k) (fun _ => rfl) v
theorem Chg.reads {X : Nat → Prop} {a b c : World} (h : Chg X a b) (k : Chg X b c) : Chg X a c := h.trans k (fun _ _ h => h)
theorem Buf.sl8 {w : World} {r d n c i : Nat} {bs l : List UInt8} (h : Buf w r d n c i bs) {j : Nat} (hl : At bs j l) : Sl8 w d j l := fun _ _ hb => h.cells _ _ (hl.get hb)

/-- What a reading does. -/
def Reads (w : World) (r d n c i m : Nat) (bs : List UInt8) (v : Value) (e : Ending) (w' : World) : Prop :=
  e = .returned v ∧ Buf w' r d n c (i + m) bs ∧ Chg (· = r) w w'

theorem readByte {w : World} {r d n c i : Nat} {bs : List UInt8} {x : UInt8} (h : Buf w r d n c i bs) (hi : At bs i [x]) :
    Calls Tryz.prog 189 #[.pointer (some ⟨r, 0, none⟩)] w (Reads w r d n c i 1 bs (.tuple #[.int .u8 (x.toNat : Int), .nilIface])) := by
  have h0 := h.c0
  have h1 := h.c1
  have f1 := h.f1
  have hl := h.len
  have hp := h.pos
  have hc := h.cap
  have hb := h.big
  have hle := hi.le (by omega)
  simp only [List.length_cons, List.length_nil] at hle
  have hci := h.cells i x hi.head
  have hw : IntKind.i64.wrap ((i : Int) + 1) = (i : Int) + 1 := IntWalk.i64_in _ (by omega)
  have hin : (i : Int) < (n : Int) := by omega
  have hi0 : (0 : Int) ≤ (i : Int) := by omega
  have H := Lib.hid h; clear h
  have HL := Lib.hid hl; clear hl
  go_enter Tryz.func189, Tryz.ntmps189
  go_wp2_with (go_at_call 234; refine (readCheck_no H.out 1 (by have := HL.out; omega)).mono ?_; rintro e w' ⟨rfl, k, rfl⟩)
  go_quiet (fail)
  go_wp2
  go_ret2
  refine ⟨rfl, ?_, ?_⟩
  · have := H.out.set 1 (by have := HL.out; omega) (k + nq)
    simpa [World.drewN_drewN] using this
  · exact Chg.buf _ _ _ _


theorem next_in {w : World} {r d n c i : Nat} {bs l : List UInt8} (h : Buf w r d n c i bs) (m : Nat) (hl : At bs i l) (hlm : l.length = m) (hic : i < c) :
    Calls Tryz.prog 191 #[.pointer (some ⟨r, 0, none⟩), .int .i64 (m : Int)] w (Reads w r d n c i m bs (.tuple #[.slice (some ⟨d, i, none⟩) m (c - i), .bool true])) := by
  have h0 := h.c0
  have h1 := h.c1
  have f1 := h.f1
  have hle : i + m ≤ n := by
    have e := h.len
    have := hl.le (by have := h.pos; omega)
    omega
  have hp := h.pos
  have hc := h.cap
  have hb := h.big
  have hw : IntKind.i64.wrap ((i : Int) + (m : Int)) = (i : Int) + (m : Int) := IntWalk.i64_in _ (by omega)
  have hi0 : (0 : Int) ≤ (i : Int) := by omega
  have H := Lib.hid h; clear h
  have HL := Lib.hid hlm; clear hlm
  go_enter Tryz.func191, Tryz.ntmps191
  go_wp2_with (go_at_call 234; refine (readCheck_no H.out m (by omega)).mono ?_; rintro e w' ⟨rfl, k, rfl⟩)
  go_quiet (fail)
  go_wp2
  go_ret2
  refine ⟨by simp, ?_, ?_⟩
  · have := H.out.set m (by omega) (k + nq)
    simpa [World.drewN_drewN] using this
  · exact Chg.buf _ _ _ _
theorem next_end {w : World} {r d n c : Nat} {bs : List UInt8} (h : Buf w r d n c c bs) :
    Calls Tryz.prog 191 #[.pointer (some ⟨r, 0, none⟩), .int .i64 0] w (Reads w r d n c c 0 bs (.tuple #[.slice (some ⟨d, 0, none⟩) 0 0, .bool true])) := by
  have h0 := h.c0
  have h1 := h.c1
  have f1 := h.f1
  have hp := h.pos
  have hc := h.cap
  have hb := h.big
  have hi0 : (0 : Int) ≤ (c : Int) := by omega
  have H := Lib.hid h; clear h
  go_enter Tryz.func191, Tryz.ntmps191
  go_wp2_with (go_at_call 234; refine (readCheck_no H.out 0 (by omega)).mono ?_; rintro e w' ⟨rfl, k, rfl⟩)
  go_quiet (fail)
  go_wp2
  go_ret2
  refine ⟨by simp, ?_, ?_⟩
  · have := H.out.set 0 (by omega) (k + nq)
    simpa [World.drewN_drewN] using this
  · exact Chg.buf _ _ _ _
theorem next {w : World} {r d n c i : Nat} {bs l : List UInt8} (h : Buf w r d n c i bs) (m : Nat) (hl : At bs i l) (hlm : l.length = m) :
    Calls Tryz.prog 191 #[.pointer (some ⟨r, 0, none⟩), .int .i64 (m : Int)] w (fun e w' => ∃ o cc, Reads w r d n c i m bs (.tuple #[.slice (some ⟨d, o, none⟩) m cc, .bool true]) e w' ∧ m ≤ cc ∧ cc ≤ c ∧ Sl8 w' d o l) := by
  have hle : i + m ≤ n := by
    have e := h.len
    have := hl.le (by have := h.pos; omega)
    omega
  have hc := h.cap
  rcases Nat.lt_or_ge i c with hic | hic
  · refine (next_in h m hl hlm hic).mono ?_
    intro e w' hr
    exact ⟨i, c - i, hr, by omega, by omega, hr.2.1.sl8 hl⟩
  · obtain rfl : m = 0 := by omega
    obtain rfl : i = c := by omega
    refine (next_end h).mono ?_
    intro e w' hr
    refine ⟨0, 0, hr, by omega, by omega, ?_⟩
    intro j b hb
    have := (List.getElem?_eq_some_iff.1 hb).1
    omega

theorem peekByte {w : World} {r d n c i : Nat} {bs : List UInt8} {x : UInt8} (h : Buf w r d n c i bs) (hi : At bs i [x]) :
    Calls Tryz.prog 235 #[.pointer (some ⟨r, 0, none⟩)] w fun e w' => e = .returned (.tuple #[.int .u8 (x.toNat : Int), .nilIface]) ∧ ∃ k, w' = w.drewN k := by
  have h0 := h.c0
  have h1 := h.c1
  have hl := h.len
  have hp := h.pos
  have hc := h.cap
  have hb := h.big
  have hle := hi.le (by omega)
  simp only [List.length_cons, List.length_nil] at hle
  have hci := h.cells i x hi.head
  have hin : (i : Int) < (n : Int) := by omega
  have hi0 : (0 : Int) ≤ (i : Int) := by omega
  have H := Lib.hid h; clear h
  have HL := Lib.hid hl; clear hl
  go_enter Tryz.func235, Tryz.ntmps235
  go_wp2_with (go_at_call 234; refine (readCheck_no H.out 1 (by have := HL.out; omega)).mono ?_; rintro e w' ⟨rfl, k, rfl⟩)
  go_quiet (fail)
  go_wp2
  go_ret2
  exact ⟨rfl, _, World.drewN_drewN ..⟩
theorem peekType {w : World} {r d n c i : Nat} {bs : List UInt8} {x : UInt8} (h : Buf w r d n c i bs) (hi : At bs i [x]) :
    Calls Tryz.prog 193 #[.pointer (some ⟨r, 0, none⟩)] w fun e w' => e = .returned (.tuple #[.int .u8 (x.toNat : Int), .nilIface]) ∧ ∃ k, w' = w.drewN k := by
  go_enter Tryz.func193, Tryz.ntmps193
  go_wp2_with fail
  refine (peekByte h hi).mono ?_
  rintro _ w1 ⟨rfl, k, rfl⟩
  go_wp2
  go_ret2
  exact ⟨rfl, _, rfl⟩
theorem readType {w : World} {r d n c i : Nat} {bs : List UInt8} {x : UInt8} (h : Buf w r d n c i bs) (hi : At bs i [x]) :
    Calls Tryz.prog 130 #[.pointer (some ⟨r, 0, none⟩)] w (Reads w r d n c i 1 bs (.tuple #[.int .u8 (x.toNat : Int), .nilIface])) := by
  go_enter Tryz.func130, Tryz.ntmps130
  go_wp2_with fail
  refine (readByte h hi).mono ?_
  rintro _ w1 ⟨rfl, hB, hC⟩
  go_wp2
  go_ret2
  exact ⟨rfl, hB, hC⟩
theorem len_ {w : World} {r d n c i : Nat} {bs : List UInt8} (h : Buf w r d n c i bs) :
    Calls Tryz.prog 133 #[.pointer (some ⟨r, 0, none⟩)] w fun e w' => e = .returned (.int .i64 ((n - i : Nat) : Int)) ∧ ∃ k, w' = w.drewN k := by
  have h0 := h.c0
  have h1 := h.c1
  have hp := h.pos
  have hc := h.cap
  have hb := h.big
  have hw : IntKind.i64.wrap ((n : Int) - (i : Int)) = (n : Int) - (i : Int) := IntWalk.i64_in _ (by omega)
  go_enter Tryz.func133, Tryz.ntmps133
  go_wp2
  go_quiet (fail)
  go_wp2
  go_ret
  refine ⟨?_, _, rfl⟩
  simp
  omega
theorem skip {w : World} {r d n c i : Nat} {bs : List UInt8} (h : Buf w r d n c i bs) (m : Nat) (hm : i + m ≤ n) :
    Calls Tryz.prog 134 #[.pointer (some ⟨r, 0, none⟩), .int .i64 (m : Int)] w (Reads w r d n c i m bs (.tuple #[])) := by
  have h0 := h.c0
  have h1 := h.c1
  have f1 := h.f1
  have hc := h.cap
  have hb := h.big
  have hw : IntKind.i64.wrap ((i : Int) + (m : Int)) = (i : Int) + (m : Int) := IntWalk.i64_in _ (by omega)
  have H := Lib.hid h; clear h
  go_enter Tryz.func134, Tryz.ntmps134
  go_wp2
  go_end0
  refine ⟨rfl, ?_, ?_⟩
  · have := H.out.set m hm 0
    simpa [World.drewN] using this
  · exact Chg.buf w r 0 _
end Go.Proofs.S
