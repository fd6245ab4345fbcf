/- The reader reads numbers of fixed width: for a reader that holds its bytes. -/
import Derived.Test.YtoilepadamfacaaGreatDoorB1
import Derived.Lib.Endian
set_option linter.unusedVariables false
set_option linter.unusedSimpArgs false
namespace Go.Proofs.S
open Go.RowKit
theorem Buf.keep {w w' : World} {r d n c i : Nat} {bs : List UInt8} (h : Buf w r d n c i bs) (hd : w'.heap[d]? = w.heap[d]?) (hr : w'.heap[r]? = w.heap[r]?) : Buf w' r d n c i bs :=
  ⟨hr.trans h.blk, h.ne, h.len, h.pos, h.cap, h.big, fun j b hj => (World.cell?_of_block (a := ⟨d, j, none⟩) hd).trans (h.cells j b hj)⟩
theorem Buf.rlt {w : World} {r d n c i : Nat} {bs : List UInt8} (h : Buf w r d n c i bs) : r < w.heap.size := (Array.getElem?_eq_some_iff.1 h.blk).1

theorem bytes_ {w : World} {r d n c i : Nat} {bs : List UInt8} (h : Buf w r d n c i bs) (hic : i < c) :
    Calls Tryz.prog 28 #[.pointer (some ⟨r, 0, none⟩)] w fun e w' => e = .returned (.slice (some ⟨d, i, none⟩) (n - i) (c - i)) ∧ ∃ k, w' = w.drewN k := by
  have h0 := h.c0
  have h1 := h.c1
  have hp := h.pos
  have hc := h.cap
  have hb := h.big
  have hi0 : (0 : Int) ≤ (i : Int) := by omega
  go_enter Tryz.func28, Tryz.ntmps28
  go_wp2
  go_quiet (fail)
  go_wp2
  go_ret
  exact ⟨rfl, _, rfl⟩
theorem bytes_end {w : World} {r d n c : Nat} {bs : List UInt8} (h : Buf w r d n c c bs) :
    Calls Tryz.prog 28 #[.pointer (some ⟨r, 0, none⟩)] w fun e w' => e = .returned (.slice (some ⟨d, 0, none⟩) (n - c) 0) ∧ ∃ k, w' = w.drewN k := by
  have h0 := h.c0
  have h1 := h.c1
  have hp := h.pos
  have hc := h.cap
  have hb := h.big
  have hi0 : (0 : Int) ≤ (c : Int) := by omega
  go_enter Tryz.func28, Tryz.ntmps28
  go_wp2
  go_quiet (fail)
  go_wp2
  go_ret
  exact ⟨by simp; omega, _, rfl⟩

theorem tryNull_yes {w : World} {r d n c i : Nat} {bs : List UInt8} (h : Buf w r d n c i bs) (hi : At bs i [0x40]) :
    Calls Tryz.prog 83 #[.pointer (some ⟨r, 0, none⟩)] w (Reads w r d n c i 1 bs (.bool true)) := by
  have hle : i + 1 ≤ n := by
    have e := h.len
    have := hi.le (by have := h.pos; omega)
    simp at this
    omega
  have hc := h.cap
  have hci := h.cells i 0x40 hi.head
  have hgt : decide (((n - i : Nat) : Int) > 0) = true := by simp; omega
  have hlt : (0 : Int) < ((n - i : Nat) : Int) := by omega
  have H := Lib.hid h; clear h
  go_enter Tryz.func83, Tryz.ntmps83
  go_wp2_with fail
  refine (len_ H.out).mono ?_
  rintro _ w1 ⟨rfl, k, rfl⟩
  go_wp2_with fail
  refine (bytes_ (H.out.drewN k) (by omega)).mono ?_
  rintro _ w1 ⟨rfl, k2, rfl⟩
  go_wp2_with fail
  refine (skip (H.out.drewN _) 1 (by omega)).mono ?_
  rintro _ w1 ⟨rfl, hB, hC⟩
  go_wp2
  go_ret
  exact ⟨rfl, hB, ((Chg.refl _ _).drewN _).reads hC⟩
theorem tryNull_no {w : World} {r d n c i : Nat} {bs : List UInt8} {x : UInt8} (h : Buf w r d n c i bs) (hi : At bs i [x]) (hx : ((x.toNat : Int) == 64) = false) :
    Calls Tryz.prog 83 #[.pointer (some ⟨r, 0, none⟩)] w fun e w' => e = .returned (.bool false) ∧ ∃ k, w' = w.drewN k := by
  have hle : i + 1 ≤ n := by
    have e := h.len
    have := hi.le (by have := h.pos; omega)
    simp at this
    omega
  have hc := h.cap
  have hci := h.cells i x hi.head
  have hgt : decide (((n - i : Nat) : Int) > 0) = true := by simp; omega
  have hlt : (0 : Int) < ((n - i : Nat) : Int) := by omega
  have H := Lib.hid h; clear h
  go_enter Tryz.func83, Tryz.ntmps83
  go_wp2_with fail
  refine (len_ H.out).mono ?_
  rintro _ w1 ⟨rfl, k, rfl⟩
  go_wp2_with fail
  refine (bytes_ (H.out.drewN k) (by omega)).mono ?_
  rintro _ w1 ⟨rfl, k2, rfl⟩
  go_wp2
  go_ret
  exact ⟨rfl, _, rfl⟩

/-- The forms of an unsigned number of 64 bits. -/
inductive EncUlong : Nat → List UInt8 → Prop
  | zero : EncUlong 0 [0x44]
  | small (b : UInt8) : EncUlong b.toNat [0x53, b]
  | full (b0 b1 b2 b3 b4 b5 b6 b7 : UInt8) : EncUlong (Lib.beNat [b0, b1, b2, b3, b4, b5, b6, b7]) [0x80, b0, b1, b2, b3, b4, b5, b6, b7]
inductive EncUint : Nat → List UInt8 → Prop
  | zero : EncUint 0 [0x43]
  | small (b : UInt8) : EncUint b.toNat [0x52, b]
  | full (b0 b1 b2 b3 : UInt8) : EncUint (Lib.beNat [b0, b1, b2, b3]) [0x70, b0, b1, b2, b3]

theorem At.cut {bs : List UInt8} {i : Nat} {x : UInt8} {l : List UInt8} (h : At bs i (x :: l)) : At bs i [x] := At.left (l := [x]) (l' := l) h
theorem Reads.done {w w1 w' : World} {r d n c i m k : Nat} {bs : List UInt8} {v : Value} (hC : Chg (· = r) w w1) (hB : Buf w' r d n c (i + m + k) bs) (hC' : Chg (· = r) w1 w') (j : Nat) (hj : m + k = j) : Reads w r d n c i j bs v (.returned v) w' :=
  ⟨rfl, by rw [← hj, ← Nat.add_assoc]; exact hB, hC.reads hC'⟩

/-- Worlds in which nothing old has turned. -/
structure Ex (w : World) where
  val : World
  chg : Chg (fun _ => False) w val
instance (w : World) : Nonempty (Ex w) := ⟨⟨w, Chg.refl _ _⟩⟩
instance (w : World) : Inhabited (Ex w) := ⟨⟨w, Chg.refl _ _⟩⟩
theorem Ex.cell {w : World} (q : Ex w) {p : Addr} {v : Value} (h : w.cell? p = some v) : q.val.cell? p = some v := q.chg.cell h (fun h => h)
theorem wp_region_ext {P : Program} {id : Nat} {Q : Exit → Act → World → Prop} {a : Act} {w : World} {l : List Oper} (hm : P.follows .mixedOrders = true) (hB : Region.lexB .any l.toArray = true)
    (h : wpQuiet P l.toArray (fun w' => ∃ q : Ex w, w' = q.val) (fun a' => ∀ w', (∃ q : Ex w, w' = q.val) → Q .normal a' w') l a) : (Code.region id l.toArray true).wp P Q a w :=
  wp_region_quiet (C := fun w' => ∃ q : Ex w, w' = q.val) hm hB ⟨⟨w.drewN 1, (Chg.refl _ _).drewN 1⟩, rfl⟩ (by simpa using h)
theorem Calls.ext_of {P : Program} {f : FuncId} {args : Array Value} {w : World} {q : Ex w} {v : Value}
    (h : Calls P f args q.val fun e w' => e = .returned v ∧ Chg (fun _ => False) q.val w') : Calls P f args q.val fun e w'' => e = .returned v ∧ ∃ q' : Ex w, w'' = q'.val :=
  h.mono fun _ _ ⟨he, hm⟩ => ⟨he, ⟨_, q.chg.reads hm⟩, rfl⟩

theorem Buf.dlt {w : World} {r d n c i : Nat} {bs : List UInt8} (h : Buf w r d n c i bs) (hn : 0 < n) : d < w.heap.size := by
  have hl := h.len
  have h0 : 0 < bs.length := by omega
  exact World.block_lt_of_cell? w ⟨d, 0, none⟩ (h.cells 0 _ (List.getElem?_eq_getElem h0))
theorem Buf.chg {X : Nat → Prop} {w w' : World} {r d n c i : Nat} {bs : List UInt8} (h : Buf w r d n c i bs) (k : Chg X w w') (hr : ¬ X r) (hd : ¬ X d) : Buf w' r d n c i bs :=
  ⟨(k.block r h.rlt hr).trans h.blk, h.ne, h.len, h.pos, h.cap, h.big, fun j b hj => k.cell (h.cells j b hj) hd⟩
theorem Buf.ext {w w' : World} {r d n c i : Nat} {bs : List UInt8} (h : Buf w r d n c i bs) (k : Chg (fun _ => False) w w') : Buf w' r d n c i bs := h.chg k (fun h => h) (fun h => h)
theorem Chg.any {X : Nat → Prop} {a b : World} (h : Chg (fun _ => False) a b) : Chg X a b := h.mono (fun _ h => h.elim)

theorem readUint32_ {w : World} {r d n c i : Nat} {bs : List UInt8} {b0 b1 b2 b3 : UInt8} (h : Buf w r d n c i bs) (hi : At bs i [b0, b1, b2, b3]) :
    Calls Tryz.prog 195 #[.pointer (some ⟨r, 0, none⟩)] w (Reads w r d n c i 4 bs (.tuple #[.int .u32 (Lib.beNat [b0, b1, b2, b3]), .nilIface])) := by
  have h0 := h.c0
  have h1 := h.c1
  have hle : i + 4 ≤ n := by
    have e := h.len
    have := hi.le (by have := h.pos; omega)
    simp at this
    omega
  have hc := h.cap
  have hb := h.big
  have hw : IntKind.i64.wrap ((i : Int) + 4) = (i : Int) + 4 := IntWalk.i64_in _ (by omega)
  have hic : i < c := by omega
  have hi0 : (0 : Int) ≤ (i : Int) := by omega
  have H := Lib.hid h; clear h
  go_enter Tryz.func195, Tryz.ntmps195
  go_wp2_with (go_at_call 234; refine (readCheck_no H.out 4 (by omega)).mono ?_; rintro e w' ⟨rfl, k, rfl⟩)
  have e0 : ∀ q : Ex (w.drewN k), q.val.cell? ⟨r, 0, none⟩ = some (.slice (some ⟨d, 0, none⟩) n c) := fun q => q.cell h0
  have e1 : ∀ q : Ex (w.drewN k), q.val.cell? ⟨r, 1, none⟩ = some (.int .i64 (i : Int)) := fun q => q.cell h1
  refine wp_region_ext (by kernel_rfl) (by kernel_rfl) ?_
  repeat (go_big_quiet_step ((rename_i q; refine Calls.ext_of (v := .int .u32 (Lib.beNat [b0, b1, b2, b3])) ?_; exact be32 _ _ _ _ _ _ _ _ _ (by omega) (fun j b hj => q.cell (H.out.cells _ _ (hi.get hj))))))
  refine wpQuiet_nil ?_
  rintro _ ⟨⟨w1, hC⟩, rfl⟩
  clear e0 e1 h0 h1
  have H1 := Lib.hid ((H.out.drewN k).ext hC)
  have g1 := H1.out.c1
  have f1 := H1.out.f1
  go_wp2
  go_ret2
  refine ⟨rfl, ?_, ?_⟩
  · have := H1.out.set 4 (by omega) 0
    simpa [World.drewN] using this
  · exact (((Chg.refl _ w).drewN k).reads hC.any).reads (Chg.buf _ _ 0 _)

theorem readUint64_ {w : World} {r d n c i : Nat} {bs : List UInt8} {b0 b1 b2 b3 b4 b5 b6 b7 : UInt8} (h : Buf w r d n c i bs) (hi : At bs i [b0, b1, b2, b3, b4, b5, b6, b7]) :
    Calls Tryz.prog 190 #[.pointer (some ⟨r, 0, none⟩)] w (Reads w r d n c i 8 bs (.tuple #[.int .u64 (Lib.beNat [b0, b1, b2, b3, b4, b5, b6, b7]), .nilIface])) := by
  have h0 := h.c0
  have h1 := h.c1
  have hle : i + 8 ≤ n := by
    have e := h.len
    have := hi.le (by have := h.pos; omega)
    simp at this
    omega
  have hc := h.cap
  have hb := h.big
  have hw : IntKind.i64.wrap ((i : Int) + 8) = (i : Int) + 8 := IntWalk.i64_in _ (by omega)
  have hic : i < c := by omega
  have hi0 : (0 : Int) ≤ (i : Int) := by omega
  have H := Lib.hid h; clear h
  go_enter Tryz.func190, Tryz.ntmps190
  go_wp2_with (go_at_call 234; refine (readCheck_no H.out 8 (by omega)).mono ?_; rintro e w' ⟨rfl, k, rfl⟩)
  have e0 : ∀ q : Ex (w.drewN k), q.val.cell? ⟨r, 0, none⟩ = some (.slice (some ⟨d, 0, none⟩) n c) := fun q => q.cell h0
  have e1 : ∀ q : Ex (w.drewN k), q.val.cell? ⟨r, 1, none⟩ = some (.int .i64 (i : Int)) := fun q => q.cell h1
  refine wp_region_ext (by kernel_rfl) (by kernel_rfl) ?_
  repeat (go_big_quiet_step ((rename_i q; refine Calls.ext_of (v := .int .u64 (Lib.beNat [b0, b1, b2, b3, b4, b5, b6, b7])) ?_; exact be64 _ _ _ _ _ _ _ _ _ _ _ _ _ (by omega) (fun j b hj => q.cell (H.out.cells _ _ (hi.get hj))))))
  refine wpQuiet_nil ?_
  rintro _ ⟨⟨w1, hC⟩, rfl⟩
  clear e0 e1 h0 h1
  have H1 := Lib.hid ((H.out.drewN k).ext hC)
  have g1 := H1.out.c1
  have f1 := H1.out.f1
  go_wp2
  go_ret2
  refine ⟨rfl, ?_, ?_⟩
  · have := H1.out.set 8 (by omega) 0
    simpa [World.drewN] using this
  · exact (((Chg.refl _ w).drewN k).reads hC.any).reads (Chg.buf _ _ 0 _)
end Go.Proofs.S
