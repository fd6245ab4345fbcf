/- The reader reads times, list heads and composite heads: for a reader that holds the bytes of one encoding. -/
import Derived.Test.YtoilepadamfacaaGreatDoorB5
set_option linter.unusedVariables false
set_option linter.unusedSimpArgs false
namespace Go.Proofs.S
open Go.RowKit
/-- The moment of milliseconds: seconds, nanoseconds. -/
def timeV (ms : Int) : Value := .agg #[.int .i64 (ms / 1000), .int .i64 (ms % 1000 * 1000000)]
theorem at_pos (q r : Int) (w : World) (h0 : 0 ≤ r) (h1 : r < 1000000000) :
    Calls Tryz.prog 202 #[.int .i64 q, .int .i64 r] w fun e w' => e = .returned (.agg #[.int .i64 q, .int .i64 r]) ∧ Chg (fun _ => False) w w' := by
  have hlt : decide (r < 0) = false := by simp; omega
  have hge : decide (r ≥ 1000000000) = false := by simp; omega
  have hge2 : decide (1000000000 ≤ r) = false := by simp; omega
  go_enter Tryz.func202, Tryz.ntmps202
  go_wp2
  refine bodyPost_ret (v := .agg #[.int .i64 q, .int .i64 r]) (by simp [results, Tryz.results202, go_sem]) rfl ⟨rfl, ?_⟩
  exact (Chg.refl _ _).alloc _
theorem at_neg (q r : Int) (w : World) (hq : -9223372036854775807 ≤ q) (hq2 : q ≤ 9223372036854775807) (h0 : r < 0) (h1 : -1000000000 < r) :
    Calls Tryz.prog 202 #[.int .i64 q, .int .i64 r] w fun e w' => e = .returned (.agg #[.int .i64 (q - 1), .int .i64 (r + 1000000000)]) ∧ Chg (fun _ => False) w w' := by
  have hlt : decide (r < 0) = true := by simp; omega
  have hz : r.tdiv 1000000000 = 0 := by
    obtain ⟨k, rfl⟩ : ∃ k : Int, r = -k := ⟨-r, by omega⟩
    rw [Int.neg_tdiv, Int.tdiv_eq_ediv_of_nonneg (by omega)]
    omega
  have hz2 : IntKind.i64.wrap (r.tdiv 1000000000) = 0 := by rw [hz]; rfl
  have hw1 : IntKind.i64.wrap (q + 0) = q := by rw [Int.add_zero]; exact IntWalk.i64_in _ (by omega)
  have hw2 : IntKind.i64.wrap (r + 1000000000) = r + 1000000000 := IntWalk.i64_in _ (by omega)
  have hw3 : IntKind.i64.wrap (q - 1) = q - 1 := IntWalk.i64_in _ (by omega)
  have hw4 : IntKind.i64.wrap q = q := IntWalk.i64_in _ (by omega)
  have hw5 : IntKind.i64.wrap r = r := IntWalk.i64_in _ (by omega)
  have HZ := Lib.hid hz; clear hz
  go_enter Tryz.func202, Tryz.ntmps202
  go_wp2
  refine bodyPost_ret (v := .agg #[.int .i64 (q - 1), .int .i64 (r + 1000000000)]) (by simp [results, Tryz.results202, go_sem]) rfl ⟨rfl, ?_⟩
  exact (Chg.refl _ _).alloc _
theorem atMilli (ms : Int) (w : World) (hq : -9223372036854775808 ≤ ms) (hq2 : ms ≤ 9223372036854775807) :
    Calls Tryz.prog 198 #[.int .i64 ms] w fun e w' => e = .returned (timeV ms) ∧ Chg (fun _ => False) w w' := by
  have hd := Int.mul_tdiv_add_tmod ms 1000
  have hm1 : -1000 < ms.tmod 1000 := by have := Int.lt_tmod_of_pos ms (show (0:Int) < 1000 by decide); omega
  have hm2 : ms.tmod 1000 < 1000 := Int.tmod_lt_of_pos ms (by decide)
  have hw1 : IntKind.i64.wrap (ms.tdiv 1000) = ms.tdiv 1000 := IntWalk.i64_in _ (by omega)
  have hw2 : IntKind.i64.wrap (ms.tmod 1000) = ms.tmod 1000 := IntWalk.i64_in _ (by omega)
  have hw3 : IntKind.i64.wrap (ms.tmod 1000 * 1000000) = ms.tmod 1000 * 1000000 := IntWalk.i64_in _ (by omega)
  have HD := Lib.hid hd; clear hd
  go_enter Tryz.func198, Tryz.ntmps198
  go_wp2_with fail
  refine Calls.mono (R := fun e w1 => e = .returned (timeV ms) ∧ Chg (fun _ => False) (w.alloc (.cells #[.int .i64 0, .int .i64 0] 141)) w1) ?_ ?_
  · by_cases h0 : 0 ≤ ms.tmod 1000
    · refine (at_pos _ _ _ (by omega) (by omega)).mono ?_
      rintro _ w1 ⟨rfl, hC⟩
      refine ⟨?_, hC⟩
      have := HD.out
      unfold timeV
      rw [show ms.tdiv 1000 = ms / 1000 by omega, show ms.tmod 1000 = ms % 1000 by omega]
    · have hHD := HD.out
      refine (at_neg _ _ _ (by omega) (by omega) (by omega) (by omega)).mono ?_
      rintro _ w1 ⟨rfl, hC⟩
      refine ⟨?_, hC⟩
      have := HD.out
      unfold timeV
      rw [show ms.tdiv 1000 - 1 = ms / 1000 by omega, show ms.tmod 1000 * 1000000 + 1000000000 = ms % 1000 * 1000000 by omega]
  rintro _ w1 ⟨rfl, hC⟩
  have hb : w1.heap[w.heap.size]? = some (.cells #[.int .i64 0, .int .i64 0] 141 (0, 0)) := (hC.block _ (by simp) (fun h => h)).trans (heap_alloc_new w _)
  have c0 : w1.cell? ⟨w.heap.size, 0, none⟩ = some (.int .i64 0) := by simp [World.cell?, hb]
  have c1 : w1.cell? ⟨w.heap.size, 1, none⟩ = some (.int .i64 0) := by simp [World.cell?, hb]
  have f0 : w1.frozen? ⟨w.heap.size, 0, none⟩ = false := by simp [World.frozen?, hb]
  have f1 : w1.frozen? ⟨w.heap.size, 1, none⟩ = false := by simp [World.frozen?, hb]
  have hC' : Chg (fun _ => False) w w1 := ((Chg.refl _ w).alloc _).reads hC
  clear hb
  unfold timeV
  go_wp2
  refine bodyPost_ret (v := timeV ms) (by simp [results, Tryz.results198, go_sem, timeV, c0, c1]) rfl ⟨rfl, ?_⟩
  exact (hC'.setCell (by simp) _).setCell (by simp) _
theorem setCell_blk {w : World} {g k : Nat} {cs : Array Value} {t : TypeId} {fr : Nat × Nat} (h : w.heap[g]? = some (.cells cs t fr)) (v : Value) : (w.setCell ⟨g, k, none⟩ v).heap[g]? = some (.cells (cs.setIfInBounds k v) t fr) := by
  simp only [World.setCell, Array.getElem?_modify, h]
  simp
theorem blk_new {X : Nat → Prop} {w w1 : World} {o : Obj} (h : Chg X (w.alloc o) w1) (hx : ¬ X w.heap.size) : w1.heap[w.heap.size]? = some o := (h.block _ (by simp) hx).trans (heap_alloc_new w _)
theorem blk_cell {w : World} {g k : Nat} {cs : Array Value} {t : TypeId} {fr : Nat × Nat} {v : Value} (h : w.heap[g]? = some (.cells cs t fr)) (hk : cs[k]? = some v) : w.cell? ⟨g, k, none⟩ = some v := by simp [World.cell?, h, hk]
theorem blk_free {w : World} {g k : Nat} {cs : Array Value} {t : TypeId} (h : w.heap[g]? = some (.cells cs t (0, 0))) : w.frozen? ⟨g, k, none⟩ = false := by simp [World.frozen?, h]
theorem Chg.blk {X : Nat → Prop} {w w1 : World} {g : Nat} {o : Obj} (h : Chg X w w1) (hg : w.heap[g]? = some o) (hx : ¬ X g) : w1.heap[g]? = some o := (h.block g (Array.getElem?_eq_some_iff.1 hg).1 hx).trans hg
/-- From behind a new block. -/
theorem Chg.from_alloc {X : Nat → Prop} {w w1 : World} {o : Obj} (h : Chg X (w.alloc o) w1) : Chg X w w1 := ((Chg.refl X w).alloc o).reads h
theorem not_r {r n : Nat} (h : r < n) : ¬ (fun k => k = r) n := fun e => by have : n = r := e; omega
theorem readTimestamp {w : World} {r d n c i : Nat} {bs : List UInt8} {b0 b1 b2 b3 b4 b5 b6 b7 : UInt8} (h : Buf w r d n c i bs) (hi : At bs i [0x83, b0, b1, b2, b3, b4, b5, b6, b7]) :
    Calls Tryz.prog 148 #[.pointer (some ⟨r, 0, none⟩)] w (Reads w r d n c i 9 bs (.tuple #[timeV (wrap64 (Lib.beNat [b0, b1, b2, b3, b4, b5, b6, b7])), .nilIface])) := by
  have hr := h.rlt
  have hd : d < w.heap.size := h.dlt (by
    have e := h.len
    have := hi.le (by have := h.pos; omega)
    simp at this
    omega)
  have H := Lib.hid h; clear h
  generalize hm : wrap64 (Lib.beNat [b0, b1, b2, b3, b4, b5, b6, b7]) = ms
  have hms : -9223372036854775808 ≤ ms ∧ ms ≤ 9223372036854775807 := by
    rw [← hm]
    unfold wrap64
    omega
  go_enter Tryz.func148, Tryz.ntmps148
  go_wp2_with fail
  refine (readType (H.out.ext ((Chg.refl _ w).alloc _)) hi.cut).mono ?_
  rintro _ w1 ⟨rfl, hB, hC⟩
  have hg1 := blk_new hC (not_r hr)
  go_wp2_with fail
  refine (readUint64_ hB hi.tail).mono ?_
  rintro _ w2 ⟨rfl, hB2, hC2⟩
  have hg2 := hC2.blk hg1 (not_r hr)
  have HM := Lib.hid hm; clear hm
  go_wp2_with fail
  rw [HM.out]
  refine (atMilli _ _ hms.1 hms.2).mono ?_
  rintro _ w3 ⟨rfl, hC3⟩
  have hg3 := hC3.blk hg2 (fun h => h)
  have c0 := blk_cell (k := 0) hg3 rfl
  have c1 := blk_cell (k := 1) hg3 rfl
  have f0 := blk_free (k := 0) hg3
  have f1 := blk_free (k := 1) hg3
  unfold timeV
  go_wp2
  refine bodyPost_ret (v := .tuple #[timeV ms, .nilIface]) (by simp [results, Tryz.results148, go_sem, timeV, c0, c1]) rfl ⟨rfl, ?_, ?_⟩
  · have hB3 := (hB2.ext hC3)
    have := hB3.chg (((Chg.refl (· = w.heap.size) w3).setCell (p := ⟨w.heap.size, 0, none⟩) (fun _ => rfl) (.int .i64 (ms / 1000))).setCell (p := ⟨w.heap.size, 1, none⟩) (fun _ => rfl) (.int .i64 (ms % 1000 * 1000000))) (fun e => by have : r = w.heap.size := e; omega) (fun e => by have : d = w.heap.size := e; omega)
    simpa [Nat.add_assoc] using this
  · have hC' : Chg (· = r) w w3 := hC.from_alloc.reads (hC2.reads hC3.any)
    exact (hC'.setCell (p := ⟨w.heap.size, 0, none⟩) (fun e => absurd e (Nat.lt_irrefl _)) _).setCell (p := ⟨w.heap.size, 1, none⟩) (fun e => absurd e (Nat.lt_irrefl _)) _
end Go.Proofs.S
namespace Go.Proofs.S
open Go.RowKit
theorem Sl8.c {w : World} {g o : Nat} {l : List UInt8} (h : Sl8 w g o l) (j : Nat) (b : UInt8) (hb : l[j]? = some b) : w.cell? ⟨g, o + j, none⟩ = some (.int .u8 (b.toNat : Int)) := h j b hb

set_option maxRecDepth 100000 in
theorem readListHeader_zero {w : World} {r d n c i : Nat} {bs : List UInt8} (h : Buf w r d n c i bs) (hi : At bs i [0x45]) :
    Calls Tryz.prog 132 #[.pointer (some ⟨r, 0, none⟩)] w (Reads w r d n c i 1 bs (.tuple #[.int .i64 0, .nilIface])) := by
  go_enter Tryz.func132, Tryz.ntmps132
  go_wp2_with fail
  refine (readType h hi.cut).mono ?_
  rintro _ w1 ⟨rfl, hB, hC⟩
  go_wp2_with fail
  refine (len_ hB).mono ?_
  rintro _ w2 ⟨rfl, k, rfl⟩
  go_wp2
  go_ret2
  exact ⟨rfl, hB.drewN _, hC.drewN _⟩

set_option maxRecDepth 100000 in
theorem readListHeader_8 {w : World} {r d n c i : Nat} {bs : List UInt8} {s k : UInt8} (h : Buf w r d n c i bs) (hi : At bs i [0xc0, s, k]) (hs : i + 2 + s.toNat ≤ n) (hk : k.toNat + 1 ≤ s.toNat) :
    Calls Tryz.prog 132 #[.pointer (some ⟨r, 0, none⟩)] w (Reads w r d n c i 3 bs (.tuple #[.int .i64 (k.toNat : Int), .nilIface])) := by
  have hb := h.big
  have hc := h.cap
  go_enter Tryz.func132, Tryz.ntmps132
  go_wp2_with fail
  refine (readType h hi.cut).mono ?_
  rintro _ w1 ⟨rfl, hB, hC⟩
  go_wp2_with fail
  refine (len_ hB).mono ?_
  rintro _ w2 ⟨rfl, j, rfl⟩
  obtain ⟨L, hL⟩ : ∃ L, L = n - (i + 1) := ⟨_, rfl⟩
  rw [← hL]
  have hL1 : (L : Int) ≤ 281474976710656 := by omega
  have hL0 : (s.toNat : Int) ≤ (L : Int) - 1 := by omega
  have HL := Lib.hid hL; clear hL
  go_wp2_with fail
  refine (next (hB.drewN _) 2 hi.tail rfl).mono ?_
  rintro _ w3 ⟨o, cc, ⟨rfl, hB3, hC3⟩, hcc, hcc2, hS⟩
  have e0 : w3.cell? ⟨d, o, none⟩ = some (.int .u8 (s.toNat : Int)) := hS 0 s rfl
  have e1 := hS 1 k rfl
  have w_s := i64_byte s
  have w_k := i64_byte k
  have s0 := s.toNat_lt
  have k0 := k.toNat_lt
  have w_l : IntKind.i64.wrap ((L : Int) - 1) = (L : Int) - 1 := IntWalk.i64_in _ (by omega)
  have w_s2 : IntKind.i64.wrap ((s.toNat : Int) - 1) = (s.toNat : Int) - 1 := IntWalk.i64_in _ (by omega)
  have g1 : decide ((s.toNat : Int) > (L : Int) - 1) = false := by simp; omega
  have g2 : decide ((k.toNat : Int) > 65536) = false := by simp; omega
  have g3 : decide ((s.toNat : Int) < 1) = false := by simp; omega
  have g4 : decide ((k.toNat : Int) > (s.toNat : Int) - 1) = false := by simp; omega
  have g5 : (k.toNat : Int) ≤ 65536 := by omega
  have g6 : (1 : Int) ≤ (s.toNat : Int) := by omega
  have g7 : (k.toNat : Int) ≤ (s.toNat : Int) - 1 := by omega
  go_wp2
  go_ret2
  exact ⟨rfl, by simpa [Nat.add_assoc] using hB3, (hC.drewN j).reads hC3⟩
set_option maxRecDepth 100000 in
theorem readListHeader_32 {w : World} {r d n c i : Nat} {bs : List UInt8} {s0 s1 s2 s3 k0 k1 k2 k3 : UInt8} (h : Buf w r d n c i bs) (hi : At bs i [0xd0, s0, s1, s2, s3, k0, k1, k2, k3])
    (hs : i + 5 + Lib.beNat [s0, s1, s2, s3] ≤ n) (hk : Lib.beNat [k0, k1, k2, k3] + 4 ≤ Lib.beNat [s0, s1, s2, s3]) (hk2 : Lib.beNat [k0, k1, k2, k3] ≤ 65536) :
    Calls Tryz.prog 132 #[.pointer (some ⟨r, 0, none⟩)] w (Reads w r d n c i 9 bs (.tuple #[.int .i64 (Lib.beNat [k0, k1, k2, k3] : Nat), .nilIface])) := by
  have hb := h.big
  have hc := h.cap
  go_enter Tryz.func132, Tryz.ntmps132
  go_wp2_with fail
  refine (readType h hi.cut).mono ?_
  rintro _ w1 ⟨rfl, hB, hC⟩
  go_wp2_with fail
  refine (len_ hB).mono ?_
  rintro _ w2 ⟨rfl, j, rfl⟩
  obtain ⟨L, hL⟩ : ∃ L, L = n - (i + 1) := ⟨_, rfl⟩
  rw [← hL]
  have hL1 : (L : Int) ≤ 281474976710656 := by omega
  have hL0 : (Lib.beNat [s0, s1, s2, s3] : Int) ≤ (L : Int) - 4 := by omega
  have HL := Lib.hid hL; clear hL
  go_wp2_with fail
  refine (next (hB.drewN _) 8 hi.tail rfl).mono ?_
  rintro _ w3 ⟨o, cc, ⟨rfl, hB3, hC3⟩, hcc, hcc2, hS⟩
  have e7 := hS 7 k3 rfl
  have hS1 : Sl8 w3 d o [s0, s1, s2, s3] := fun j b hj => hS j b (by match j, hj with | 0, hj => exact hj | 1, hj => exact hj | 2, hj => exact hj | 3, hj => exact hj)
  have hS2 : Sl8 w3 d (o + 4) [k0, k1, k2, k3] := fun j b hj => by
    rw [Nat.add_assoc]
    exact hS (4 + j) b (by match j, hj with | 0, hj => exact hj | 1, hj => exact hj | 2, hj => exact hj | 3, hj => exact hj)
  have hccI : (4 : Nat) ≤ cc := by omega
  have hcc8 : (8 : Int) ≤ (cc : Int) := by omega
  have hcc4 : (4 : Int) ≤ (cc : Int) := by omega
  have hcc48 : ¬ cc = 4 := by omega
  have q1 := fun (x : World) (hx : Chg (fun _ => False) w3 x) => be32 d o 4 cc s0 s1 s2 s3 x (by omega) (fun j b hj => hx.cell (hS1 j b hj) (fun h => h))
  have q2 := fun (x : World) (hx : Chg (fun _ => False) w3 x) => be32 d (o + 4) 4 (cc - 4) k0 k1 k2 k3 x (by omega) (fun j b hj => hx.cell (hS2 j b hj) (fun h => h))
  have Q1 := Lib.hid q1; clear q1
  have Q2 := Lib.hid q2; clear q2
  have hlt1 := beNat4_lt s0 s1 s2 s3
  have w_s := i64_be4 s0 s1 s2 s3
  have w_k := i64_be4 k0 k1 k2 k3
  clear hS hS1 hS2
  generalize hSn : Lib.beNat [s0, s1, s2, s3] = S at *
  generalize hKn : Lib.beNat [k0, k1, k2, k3] = K at *
  have w_l : IntKind.i64.wrap ((L : Int) - 4) = (L : Int) - 4 := IntWalk.i64_in _ (by omega)
  have w_s2 : IntKind.i64.wrap ((S : Int) - 4) = (S : Int) - 4 := IntWalk.i64_in _ (by omega)
  have g1 : decide ((S : Int) > (L : Int) - 4) = false := by simp; omega
  have g2 : decide ((K : Int) > 65536) = false := by simp; omega
  have g3 : decide ((S : Int) < 4) = false := by simp; omega
  have g4 : decide ((K : Int) > (S : Int) - 4) = false := by simp; omega
  have g5 : (K : Int) ≤ 65536 := by omega
  have g6 : (4 : Int) ≤ (S : Int) := by omega
  have g7 : (K : Int) ≤ (S : Int) - 4 := by omega
  have HSn := Lib.hid hSn; clear hSn
  have HKn := Lib.hid hKn; clear hKn
  go_wp2_with fail
  refine wp_region_ext (by kernel_rfl) (by kernel_rfl) ?_
  repeat (go_big_quiet_step ((rename_i q; refine Calls.ext_of (v := .int .u32 S) ?_; exact Q1.out q.val q.chg)))
  refine wpQuiet_nil ?_
  rintro w4 ⟨⟨_, hC4⟩, rfl⟩
  have e7' : w4.cell? ⟨d, o + 7, none⟩ = some (.int .u8 (k3.toNat : Int)) := hC4.cell e7 (fun h => h)
  go_wp2_with fail
  refine wp_region_ext (by kernel_rfl) (by kernel_rfl) ?_
  repeat (go_big_quiet_step ((rename_i q; refine Calls.ext_of (v := .int .u32 K) ?_; exact Q2.out q.val (hC4.reads q.chg))))
  refine wpQuiet_nil ?_
  rintro w5 ⟨⟨_, hC5⟩, rfl⟩
  go_wp2
  go_ret2
  exact ⟨rfl, by simpa [Nat.add_assoc] using (hB3.ext hC4).ext hC5, (hC.drewN j).reads (hC3.reads (hC4.any.reads hC5.any))⟩
end Go.Proofs.S
namespace Go.Proofs.S
open Go.RowKit
/-- The head of a list at place i: k values follow; the head has m bytes. -/
inductive LHead (bs : List UInt8) (n i : Nat) : Nat → Nat → Prop
  | zero (h : At bs i [0x45]) : LHead bs n i 0 1
  | short (s k : UInt8) (h : At bs i [0xc0, s, k]) (hs : i + 2 + s.toNat ≤ n) (hk : k.toNat + 1 ≤ s.toNat) : LHead bs n i k.toNat 3
  | long (s0 s1 s2 s3 k0 k1 k2 k3 : UInt8) (h : At bs i [0xd0, s0, s1, s2, s3, k0, k1, k2, k3]) (hs : i + 5 + Lib.beNat [s0, s1, s2, s3] ≤ n)
      (hk : Lib.beNat [k0, k1, k2, k3] + 4 ≤ Lib.beNat [s0, s1, s2, s3]) (hk2 : Lib.beNat [k0, k1, k2, k3] ≤ 65536) : LHead bs n i (Lib.beNat [k0, k1, k2, k3]) 9
theorem readListHeader {w : World} {r d n c i k m : Nat} {bs : List UInt8} (h : Buf w r d n c i bs) (hi : LHead bs n i k m) :
    Calls Tryz.prog 132 #[.pointer (some ⟨r, 0, none⟩)] w (Reads w r d n c i m bs (.tuple #[.int .i64 (k : Int), .nilIface])) := by
  cases hi with
  | zero hi => exact readListHeader_zero h hi
  | short s k hi hs hk => exact readListHeader_8 h hi hs hk
  | long s0 s1 s2 s3 k0 k1 k2 k3 hi hs hk hk2 => exact readListHeader_32 h hi hs hk hk2
/-- The forms of an unsigned number of 64 bits. -/
theorem readUlong {w : World} {r d n c i k : Nat} {bs enc : List UInt8} (h : Buf w r d n c i bs) (hu : EncUlong k enc) (hi : At bs i enc) :
    Calls Tryz.prog 131 #[.pointer (some ⟨r, 0, none⟩)] w (Reads w r d n c i enc.length bs (.tuple #[.int .u64 (k : Int), .nilIface])) := by
  cases hu with
  | zero => exact readUlong_zero h hi
  | small b => exact readUlong_small h hi
  | full b0 b1 b2 b3 b4 b5 b6 b7 => exact readUlong_full h hi
theorem readUint32 {w : World} {r d n c i k : Nat} {bs enc : List UInt8} (h : Buf w r d n c i bs) (hu : EncUint k enc) (hi : At bs i enc) :
    Calls Tryz.prog 140 #[.pointer (some ⟨r, 0, none⟩)] w (Reads w r d n c i enc.length bs (.tuple #[.int .u32 (k : Int), .nilIface])) := by
  cases hu with
  | zero => exact readUint32_zero h hi
  | small b => exact readUint32_small h hi
  | full b0 b1 b2 b3 => exact readUint32_full h hi
theorem u8_wrap (k : Nat) (h : k < 256) : IntKind.u8.wrap (k : Int) = (k : Int) := by simp [IntKind.wrap, IntKind.bits, IntKind.signed]; omega
theorem readCompositeHeader {w : World} {r d n c i k m code : Nat} {bs enc : List UInt8} (h : Buf w r d n c i bs) (h0 : At bs i [0]) (hu : EncUlong code enc) (hi : At bs (i + 1) enc) (hl : LHead bs n (i + 1 + enc.length) k m) (hc : code < 256) :
    Calls Tryz.prog 82 #[.pointer (some ⟨r, 0, none⟩)] w (Reads w r d n c i (1 + enc.length + m) bs (.tuple #[.int .u8 (code : Int), .int .i64 (k : Int), .nilIface])) := by
  have hw := u8_wrap code hc
  have hw2 : (code : Int) % 256 = code := by omega
  go_enter Tryz.func82, Tryz.ntmps82
  go_wp2_with fail
  refine (readType h h0).mono ?_
  rintro _ w1 ⟨rfl, hB, hC⟩
  go_wp2_with fail
  refine (readUlong hB hu hi).mono ?_
  rintro _ w2 ⟨rfl, hB2, hC2⟩
  go_wp2_with fail
  refine (readListHeader hB2 hl).mono ?_
  rintro _ w3 ⟨rfl, hB3, hC3⟩
  go_wp2
  go_ret3
  exact ⟨by simp [hw2], by simpa [Nat.add_assoc] using hB3, hC.reads (hC2.reads hC3)⟩
end Go.Proofs.S
