/- The whole law of ReadProperties answers true: for properties, a form and a tail within the machine, where the table of UTF-8 stands as the library lays it. -/
import Derived.Test.YtoilepadamfacaaGreatDoorD32
set_option linter.unusedVariables false
set_option linter.unusedSimpArgs false
namespace Go.Proofs.S
open Go.RowKit Go.Maps
set_option maxHeartbeats 16000000 in
set_option maxRecDepth 1000000 in
/-- The law: true, whatever it is handed. -/
theorem law_calls {w : World} {A : Nat → Option Addr} {n c : Nat → Nat} {d : Nat} {l : List UInt8} (h : PropsIn w A n c d l) (hn1 : n 1 ≤ 9223372036854775807) {Ab : Option Addr} {nb cb : Nat} {lb : List UInt8} (hb : Bs w (.slice Ab nb cb) lb) (hlb : lb.length = nb) (fm : Int) (hV : ValidOk w) :
    Calls Tryz.prog 3 #[.agg #[.slice (A 0) (n 0) (c 0), .slice (A 1) (n 1) (c 1), .slice (A 2) (n 2) (c 2), .slice (A 3) (n 3) (c 3), .slice (A 4) (n 4) (c 4), .slice (A 5) (n 5) (c 5), .slice (A 6) (n 6) (c 6), .slice (A 7) (n 7) (c 7), .slice (A 8) (n 8) (c 8), .slice (A 9) (n 9) (c 9), .slice (A 10) (n 10) (c 10), .slice (A 11) (n 11) (c 11), .slice (A 12) (n 12) (c 12)], .int .u64 fm, .slice Ab nb cb] w fun e w' => e = .returned (.bool true) ∧ Chg (fun _ => False) w w' := by
  have HP := Lib.hid h; have HBH := Lib.hid hb; have HLB := Lib.hid hlb; have HV := Lib.hid hV; have HN1 := Lib.hid hn1
  clear h hb hlb hV hn1
  go_enter Tryz.func3, Tryz.ntmps3
  go_upto_region 1 with (fail)
  refine wp_any_world (fun w' => Chg (fun _ => False) w w' ∧ w'.heap[w.heap.size]? = some (.cells #[.slice (A 0) (n 0) (c 0), .slice (A 1) (n 1) (c 1), .slice (A 2) (n 2) (c 2), .slice (A 3) (n 3) (c 3), .slice (A 4) (n 4) (c 4), .slice (A 5) (n 5) (c 5), .slice (A 6) (n 6) (c 6), .slice (A 7) (n 7) (c 7), .slice (A 8) (n 8) (c 8), .slice (A 9) (n 9) (c 9), .slice (A 10) (n 10) (c 10), .slice (A 11) (n 11) (c 11), .slice (A 12) (n 12) (c 12)] 28 (0, 0))) ⟨(Chg.refl _ w).alloc _, heap_alloc_new _ _⟩ ?_
  rintro w1 ⟨hC1, hb1⟩
  have HC1 := Lib.hid hC1; have HB1 := Lib.hid hb1
  have z0 := blk_cell (k := 0) hb1 rfl
  have z1 := blk_cell (k := 1) hb1 rfl
  have z2 := blk_cell (k := 2) hb1 rfl
  have z3 := blk_cell (k := 3) hb1 rfl
  have z4 := blk_cell (k := 4) hb1 rfl
  have z5 := blk_cell (k := 5) hb1 rfl
  have z6 := blk_cell (k := 6) hb1 rfl
  have z7 := blk_cell (k := 7) hb1 rfl
  have z8 := blk_cell (k := 8) hb1 rfl
  have z9 := blk_cell (k := 9) hb1 rfl
  have z10 := blk_cell (k := 10) hb1 rfl
  have z11 := blk_cell (k := 11) hb1 rfl
  have z12 := blk_cell (k := 12) hb1 rfl
  clear hC1 hb1
  go_wp2_with fail
  refine (zz15_calls (HP.out.ext HC1.out)).mono ?_
  rintro _ w2 ⟨b, rfl, hC2⟩
  have HC2 := Lib.hid (HC1.out.reads hC2); have HB2 := Lib.hid (hC2.blkF HB1.out)
  clear hC2 z0 z1 z2 z3 z4 z5 z6 z7 z8 z9 z10 z11 z12
  cases b with
  | false =>
    go_wp2_with fail
    go_ret
    exact ⟨rfl, HC2.out⟩
  | true =>
  rcases Nat.lt_or_ge 2147483647 nb with hz | hz
  · have hd : decide ((nb : Int) > 2147483647) = true := by simp; omega
    go_wp2_with fail
    go_ret
    exact ⟨rfl, HC2.out⟩
  have hdz : decide ((nb : Int) > 2147483647) = false := by simp; omega
  go_upto_region 4 with (fail)
  clear hdz
  refine wp_any_world (fun w' => Chg (fun _ => False) w2 w' ∧ w'.heap[w2.heap.size]? = some (.cells #[.string ⟨#[97]⟩] 9 (0, 0)) ∧ w'.heap[w2.heap.size + 1]? = some (.cells #[.slice none 0 0, .slice none 0 0, .slice none 0 0, .slice (some ⟨w2.heap.size, 0, none⟩) 1 1, .slice none 0 0, .slice none 0 0, .slice none 0 0, .slice none 0 0, .slice none 0 0, .slice none 0 0, .slice none 0 0, .slice none 0 0, .slice none 0 0] 28 (0, 0))) (new2 w2 _ _) ?_
  rintro w3 ⟨hC3, hs3, ht3⟩
  have HC3 := Lib.hid (HC2.out.reads hC3); have HS3 := Lib.hid (blk_cell (k := 0) hs3 rfl); have HT3 := Lib.hid ht3; have HB3 := Lib.hid (hC3.blkF HB2.out)
  have s0 := blk_cell (k := 0) ht3 rfl
  have s1 := blk_cell (k := 1) ht3 rfl
  have s2 := blk_cell (k := 2) ht3 rfl
  have s3 := blk_cell (k := 3) ht3 rfl
  have s4 := blk_cell (k := 4) ht3 rfl
  have s5 := blk_cell (k := 5) ht3 rfl
  have s6 := blk_cell (k := 6) ht3 rfl
  have s7 := blk_cell (k := 7) ht3 rfl
  have s8 := blk_cell (k := 8) ht3 rfl
  have s9 := blk_cell (k := 9) ht3 rfl
  have s10 := blk_cell (k := 10) ht3 rfl
  have s11 := blk_cell (k := 11) ht3 rfl
  have s12 := blk_cell (k := 12) ht3 rfl
  clear hC3 hs3 ht3
  go_wp2_with fail
  refine (props_sample HS3.out).mono ?_
  rintro _ w4 ⟨gs, rfl, hgs, hFs, hC4⟩
  have HC4 := Lib.hid (HC3.out.reads hC4); have HFs := Lib.hid hFs; have HS4 := Lib.hid (hC4.cell HS3.out (fun h => h)); have HT4 := Lib.hid (hC4.blkF HT3.out); have HB4 := Lib.hid (hC4.blkF HB3.out)
  have hgl : gs < w4.heap.size := World.block_lt_of_cell? _ ⟨gs, 0, none⟩ (hFs 0 (by decide)).1.c0
  clear hFs hC4 hgs s0 s1 s2 s3 s4 s5 s6 s7 s8 s9 s10 s11 s12
  have hA4 : Chg (fun _ => False) w4 (w4.alloc (.cells #[.int .u64 0, .bool true] 40)) := (Chg.refl _ w4).alloc _
  go_wp2_with fail
  refine (composite_put (F := FS) (n := 13) (by decide) (by decide) FS_fields.flat (fun j hj => ⟨(HFs.out j hj).1.chg hA4 (fun h => h), (HFs.out j hj).2.chg hA4 (fun h => h)⟩) ⟨0, true, heap_alloc_new _ _⟩ (by omega)).mono ?_
  rintro e w5 ⟨v5, m5, dbs, encs, enc, rfl, hO5, hd5, hm5, hnul5, hl5, he5, hE5, hF5, hC5⟩
  obtain ⟨A5, n5, c5, rfl⟩ := hO5.slice
  have HC45 : Hid (Chg (fun _ => False) w4 w5) := Lib.hid (hA4.trans hC5 (fun i hi h => absurd hi (by have h' : i = w4.heap.size := h; omega)))
  have HC5 := Lib.hid (HC4.out.reads HC45.out)
  have HRP := Lib.hid (read_put (lb := []) FS_fields hm5 hd5 hnul5 hl5 he5 hE5 (by rw [List.append_nil]; exact Bs.of_own hO5) (by decide))
  have HS5 := Lib.hid (HC45.out.cell HS4.out (fun h => h)); have HT5 := Lib.hid (HC45.out.blkF HT4.out); have HB5 := Lib.hid (HC45.out.blkF HB4.out)
  clear hA4 hO5 hd5 hm5 hnul5 hl5 he5 hE5 hF5 hC5
  go_wp2_with fail
  refine HRP.out.mono ?_
  rintro _ w6 ⟨A6, n6, b6, A61, n61, b61, Y, rfl, hC6, hsl, hal, _⟩
  have HC6 := Lib.hid (HC5.out.reads hC6); have HSL := Lib.hid hsl; have HAL := Lib.hid hal
  have HS6 := Lib.hid (hC6.cell HS5.out (fun h => h)); have HT6 := Lib.hid (hC6.blkF HT5.out); have HB6 := Lib.hid (hC6.blkF HB5.out)
  clear hC6 hsl hal HRP
  go_upto_region 5 with (fail)
  refine wp_any_world (fun w' => Chg (fun _ => False) w6 w' ∧ w'.heap[w6.heap.size]? = some (.cells #[.slice (A6 0) (n6 0) (b6 0), .slice (A6 1) (n6 1) (b6 1), .slice (A6 2) (n6 2) (b6 2), .slice (A6 3) (n6 3) (b6 3), .slice (A6 4) (n6 4) (b6 4), .slice (A6 5) (n6 5) (b6 5), .slice (A6 6) (n6 6) (b6 6), .slice (A6 7) (n6 7) (b6 7), .slice (A6 8) (n6 8) (b6 8), .slice (A6 9) (n6 9) (b6 9), .slice (A6 10) (n6 10) (b6 10), .slice (A6 11) (n6 11) (b6 11), .slice (A6 12) (n6 12) (b6 12)] 28 (0, 0))) ⟨(Chg.refl _ w6).alloc _, heap_alloc_new _ _⟩ ?_
  rintro w7 ⟨hC7, hb7⟩
  have HC7 := Lib.hid (HC6.out.reads hC7); have HR7 := Lib.hid hb7
  have HS7 := Lib.hid (hC7.cell HS6.out (fun h => h)); have HT7 := Lib.hid (hC7.blkF HT6.out); have HB7 := Lib.hid (hC7.blkF HB6.out)
  have HSL7 : Hid (∀ j, j < 13 → SlotAt j w7 (A6 j) (n6 j) (b6 j) (Y j)) := Lib.hid (fun j hj => (HSL.out j hj).ext hj hC7)
  clear hC7 hb7 HSL
  have tok1 : True := trivial
  have HD7 : Hid (Chg (fun _ => False) w7 w7.drew) := Lib.hid ((Chg.refl _ w7).drewN 1)
  have s0 : w7.drew.cell? ⟨w2.heap.size + 1, 0, none⟩ = some (.slice none 0 0) := blk_cell (k := 0) (HD7.out.blkF HT7.out) rfl
  have s1 : w7.drew.cell? ⟨w2.heap.size + 1, 1, none⟩ = some (.slice none 0 0) := blk_cell (k := 1) (HD7.out.blkF HT7.out) rfl
  have s2 : w7.drew.cell? ⟨w2.heap.size + 1, 2, none⟩ = some (.slice none 0 0) := blk_cell (k := 2) (HD7.out.blkF HT7.out) rfl
  have s3 : w7.drew.cell? ⟨w2.heap.size + 1, 3, none⟩ = some (.slice (some ⟨w2.heap.size, 0, none⟩) 1 1) := blk_cell (k := 3) (HD7.out.blkF HT7.out) rfl
  have s4 : w7.drew.cell? ⟨w2.heap.size + 1, 4, none⟩ = some (.slice none 0 0) := blk_cell (k := 4) (HD7.out.blkF HT7.out) rfl
  have s5 : w7.drew.cell? ⟨w2.heap.size + 1, 5, none⟩ = some (.slice none 0 0) := blk_cell (k := 5) (HD7.out.blkF HT7.out) rfl
  have s6 : w7.drew.cell? ⟨w2.heap.size + 1, 6, none⟩ = some (.slice none 0 0) := blk_cell (k := 6) (HD7.out.blkF HT7.out) rfl
  have s7 : w7.drew.cell? ⟨w2.heap.size + 1, 7, none⟩ = some (.slice none 0 0) := blk_cell (k := 7) (HD7.out.blkF HT7.out) rfl
  have s8 : w7.drew.cell? ⟨w2.heap.size + 1, 8, none⟩ = some (.slice none 0 0) := blk_cell (k := 8) (HD7.out.blkF HT7.out) rfl
  have s9 : w7.drew.cell? ⟨w2.heap.size + 1, 9, none⟩ = some (.slice none 0 0) := blk_cell (k := 9) (HD7.out.blkF HT7.out) rfl
  have s10 : w7.drew.cell? ⟨w2.heap.size + 1, 10, none⟩ = some (.slice none 0 0) := blk_cell (k := 10) (HD7.out.blkF HT7.out) rfl
  have s11 : w7.drew.cell? ⟨w2.heap.size + 1, 11, none⟩ = some (.slice none 0 0) := blk_cell (k := 11) (HD7.out.blkF HT7.out) rfl
  have s12 : w7.drew.cell? ⟨w2.heap.size + 1, 12, none⟩ = some (.slice none 0 0) := blk_cell (k := 12) (HD7.out.blkF HT7.out) rfl
  have r0 : w7.drew.cell? ⟨w6.heap.size, 0, none⟩ = some (.slice (A6 0) (n6 0) (b6 0)) := blk_cell (k := 0) (HD7.out.blkF HR7.out) rfl
  have r1 : w7.drew.cell? ⟨w6.heap.size, 1, none⟩ = some (.slice (A6 1) (n6 1) (b6 1)) := blk_cell (k := 1) (HD7.out.blkF HR7.out) rfl
  have r2 : w7.drew.cell? ⟨w6.heap.size, 2, none⟩ = some (.slice (A6 2) (n6 2) (b6 2)) := blk_cell (k := 2) (HD7.out.blkF HR7.out) rfl
  have r3 : w7.drew.cell? ⟨w6.heap.size, 3, none⟩ = some (.slice (A6 3) (n6 3) (b6 3)) := blk_cell (k := 3) (HD7.out.blkF HR7.out) rfl
  have r4 : w7.drew.cell? ⟨w6.heap.size, 4, none⟩ = some (.slice (A6 4) (n6 4) (b6 4)) := blk_cell (k := 4) (HD7.out.blkF HR7.out) rfl
  have r5 : w7.drew.cell? ⟨w6.heap.size, 5, none⟩ = some (.slice (A6 5) (n6 5) (b6 5)) := blk_cell (k := 5) (HD7.out.blkF HR7.out) rfl
  have r6 : w7.drew.cell? ⟨w6.heap.size, 6, none⟩ = some (.slice (A6 6) (n6 6) (b6 6)) := blk_cell (k := 6) (HD7.out.blkF HR7.out) rfl
  have r7 : w7.drew.cell? ⟨w6.heap.size, 7, none⟩ = some (.slice (A6 7) (n6 7) (b6 7)) := blk_cell (k := 7) (HD7.out.blkF HR7.out) rfl
  have r8 : w7.drew.cell? ⟨w6.heap.size, 8, none⟩ = some (.slice (A6 8) (n6 8) (b6 8)) := blk_cell (k := 8) (HD7.out.blkF HR7.out) rfl
  have r9 : w7.drew.cell? ⟨w6.heap.size, 9, none⟩ = some (.slice (A6 9) (n6 9) (b6 9)) := blk_cell (k := 9) (HD7.out.blkF HR7.out) rfl
  have r10 : w7.drew.cell? ⟨w6.heap.size, 10, none⟩ = some (.slice (A6 10) (n6 10) (b6 10)) := blk_cell (k := 10) (HD7.out.blkF HR7.out) rfl
  have r11 : w7.drew.cell? ⟨w6.heap.size, 11, none⟩ = some (.slice (A6 11) (n6 11) (b6 11)) := blk_cell (k := 11) (HD7.out.blkF HR7.out) rfl
  have r12 : w7.drew.cell? ⟨w6.heap.size, 12, none⟩ = some (.slice (A6 12) (n6 12) (b6 12)) := blk_cell (k := 12) (HD7.out.blkF HR7.out) rfl
  go_region_held3 (fun w' => w'.cell? ⟨w2.heap.size + 1, 0, none⟩ = some (.slice none 0 0) ∧ w'.cell? ⟨w2.heap.size + 1, 1, none⟩ = some (.slice none 0 0) ∧ w'.cell? ⟨w2.heap.size + 1, 2, none⟩ = some (.slice none 0 0) ∧ w'.cell? ⟨w2.heap.size + 1, 3, none⟩ = some (.slice (some ⟨w2.heap.size, 0, none⟩) 1 1) ∧ w'.cell? ⟨w2.heap.size + 1, 4, none⟩ = some (.slice none 0 0) ∧ w'.cell? ⟨w2.heap.size + 1, 5, none⟩ = some (.slice none 0 0) ∧ w'.cell? ⟨w2.heap.size + 1, 6, none⟩ = some (.slice none 0 0) ∧ w'.cell? ⟨w2.heap.size + 1, 7, none⟩ = some (.slice none 0 0) ∧ w'.cell? ⟨w2.heap.size + 1, 8, none⟩ = some (.slice none 0 0) ∧ w'.cell? ⟨w2.heap.size + 1, 9, none⟩ = some (.slice none 0 0) ∧ w'.cell? ⟨w2.heap.size + 1, 10, none⟩ = some (.slice none 0 0) ∧ w'.cell? ⟨w2.heap.size + 1, 11, none⟩ = some (.slice none 0 0) ∧ w'.cell? ⟨w2.heap.size + 1, 12, none⟩ = some (.slice none 0 0) ∧ w'.cell? ⟨w6.heap.size, 0, none⟩ = some (.slice (A6 0) (n6 0) (b6 0)) ∧ w'.cell? ⟨w6.heap.size, 1, none⟩ = some (.slice (A6 1) (n6 1) (b6 1)) ∧ w'.cell? ⟨w6.heap.size, 2, none⟩ = some (.slice (A6 2) (n6 2) (b6 2)) ∧ w'.cell? ⟨w6.heap.size, 3, none⟩ = some (.slice (A6 3) (n6 3) (b6 3)) ∧ w'.cell? ⟨w6.heap.size, 4, none⟩ = some (.slice (A6 4) (n6 4) (b6 4)) ∧ w'.cell? ⟨w6.heap.size, 5, none⟩ = some (.slice (A6 5) (n6 5) (b6 5)) ∧ w'.cell? ⟨w6.heap.size, 6, none⟩ = some (.slice (A6 6) (n6 6) (b6 6)) ∧ w'.cell? ⟨w6.heap.size, 7, none⟩ = some (.slice (A6 7) (n6 7) (b6 7)) ∧ w'.cell? ⟨w6.heap.size, 8, none⟩ = some (.slice (A6 8) (n6 8) (b6 8)) ∧ w'.cell? ⟨w6.heap.size, 9, none⟩ = some (.slice (A6 9) (n6 9) (b6 9)) ∧ w'.cell? ⟨w6.heap.size, 10, none⟩ = some (.slice (A6 10) (n6 10) (b6 10)) ∧ w'.cell? ⟨w6.heap.size, 11, none⟩ = some (.slice (A6 11) (n6 11) (b6 11)) ∧ w'.cell? ⟨w6.heap.size, 12, none⟩ = some (.slice (A6 12) (n6 12) (b6 12))) ((repeat' apply And.intro) <;> with_reducible assumption) (first
    | (go_at_call 8; have _t := tok1; refine (props_sample (HD7.out.cell HS7.out (fun h => h))).mono ?_; rintro _ w8 ⟨g8, rfl, hg8, hF8, hC8⟩; have HC78 := Lib.hid (HD7.out.reads hC8); have HF8 := Lib.hid hF8; have ht8 := HC78.out.blkF HT7.out; have hr8 := HC78.out.blkF HR7.out; have sa0 : w8.cell? ⟨w2.heap.size + 1, 0, none⟩ = some (.slice none 0 0) := blk_cell (k := 0) ht8 rfl; have sa1 : w8.cell? ⟨w2.heap.size + 1, 1, none⟩ = some (.slice none 0 0) := blk_cell (k := 1) ht8 rfl; have sa2 : w8.cell? ⟨w2.heap.size + 1, 2, none⟩ = some (.slice none 0 0) := blk_cell (k := 2) ht8 rfl; have sa3 : w8.cell? ⟨w2.heap.size + 1, 3, none⟩ = some (.slice (some ⟨w2.heap.size, 0, none⟩) 1 1) := blk_cell (k := 3) ht8 rfl; have sa4 : w8.cell? ⟨w2.heap.size + 1, 4, none⟩ = some (.slice none 0 0) := blk_cell (k := 4) ht8 rfl; have sa5 : w8.cell? ⟨w2.heap.size + 1, 5, none⟩ = some (.slice none 0 0) := blk_cell (k := 5) ht8 rfl; have sa6 : w8.cell? ⟨w2.heap.size + 1, 6, none⟩ = some (.slice none 0 0) := blk_cell (k := 6) ht8 rfl; have sa7 : w8.cell? ⟨w2.heap.size + 1, 7, none⟩ = some (.slice none 0 0) := blk_cell (k := 7) ht8 rfl; have sa8 : w8.cell? ⟨w2.heap.size + 1, 8, none⟩ = some (.slice none 0 0) := blk_cell (k := 8) ht8 rfl; have sa9 : w8.cell? ⟨w2.heap.size + 1, 9, none⟩ = some (.slice none 0 0) := blk_cell (k := 9) ht8 rfl; have sa10 : w8.cell? ⟨w2.heap.size + 1, 10, none⟩ = some (.slice none 0 0) := blk_cell (k := 10) ht8 rfl; have sa11 : w8.cell? ⟨w2.heap.size + 1, 11, none⟩ = some (.slice none 0 0) := blk_cell (k := 11) ht8 rfl; have sa12 : w8.cell? ⟨w2.heap.size + 1, 12, none⟩ = some (.slice none 0 0) := blk_cell (k := 12) ht8 rfl; have ra0 : w8.cell? ⟨w6.heap.size, 0, none⟩ = some (.slice (A6 0) (n6 0) (b6 0)) := blk_cell (k := 0) hr8 rfl; have ra1 : w8.cell? ⟨w6.heap.size, 1, none⟩ = some (.slice (A6 1) (n6 1) (b6 1)) := blk_cell (k := 1) hr8 rfl; have ra2 : w8.cell? ⟨w6.heap.size, 2, none⟩ = some (.slice (A6 2) (n6 2) (b6 2)) := blk_cell (k := 2) hr8 rfl; have ra3 : w8.cell? ⟨w6.heap.size, 3, none⟩ = some (.slice (A6 3) (n6 3) (b6 3)) := blk_cell (k := 3) hr8 rfl; have ra4 : w8.cell? ⟨w6.heap.size, 4, none⟩ = some (.slice (A6 4) (n6 4) (b6 4)) := blk_cell (k := 4) hr8 rfl; have ra5 : w8.cell? ⟨w6.heap.size, 5, none⟩ = some (.slice (A6 5) (n6 5) (b6 5)) := blk_cell (k := 5) hr8 rfl; have ra6 : w8.cell? ⟨w6.heap.size, 6, none⟩ = some (.slice (A6 6) (n6 6) (b6 6)) := blk_cell (k := 6) hr8 rfl; have ra7 : w8.cell? ⟨w6.heap.size, 7, none⟩ = some (.slice (A6 7) (n6 7) (b6 7)) := blk_cell (k := 7) hr8 rfl; have ra8 : w8.cell? ⟨w6.heap.size, 8, none⟩ = some (.slice (A6 8) (n6 8) (b6 8)) := blk_cell (k := 8) hr8 rfl; have ra9 : w8.cell? ⟨w6.heap.size, 9, none⟩ = some (.slice (A6 9) (n6 9) (b6 9)) := blk_cell (k := 9) hr8 rfl; have ra10 : w8.cell? ⟨w6.heap.size, 10, none⟩ = some (.slice (A6 10) (n6 10) (b6 10)) := blk_cell (k := 10) hr8 rfl; have ra11 : w8.cell? ⟨w6.heap.size, 11, none⟩ = some (.slice (A6 11) (n6 11) (b6 11)) := blk_cell (k := 11) hr8 rfl; have ra12 : w8.cell? ⟨w6.heap.size, 12, none⟩ = some (.slice (A6 12) (n6 12) (b6 12)) := blk_cell (k := 12) hr8 rfl; clear hF8 hC8 hg8 ht8 hr8 _t tok1)
    | (go_at_call 8; refine (props_of (F := Y) (fun j hj => (HSL7.out j hj).ext hj HC78.out)).mono ?_; rintro _ w9 ⟨g9, rfl, hg9, hF9, hC9⟩; have HC79 := Lib.hid (HC78.out.reads hC9); have HC89 := Lib.hid hC9; have HF9 := Lib.hid hF9; have ht9 := HC79.out.blkF HT7.out; have hr9 := HC79.out.blkF HR7.out; have sb0 : w9.cell? ⟨w2.heap.size + 1, 0, none⟩ = some (.slice none 0 0) := blk_cell (k := 0) ht9 rfl; have sb1 : w9.cell? ⟨w2.heap.size + 1, 1, none⟩ = some (.slice none 0 0) := blk_cell (k := 1) ht9 rfl; have sb2 : w9.cell? ⟨w2.heap.size + 1, 2, none⟩ = some (.slice none 0 0) := blk_cell (k := 2) ht9 rfl; have sb3 : w9.cell? ⟨w2.heap.size + 1, 3, none⟩ = some (.slice (some ⟨w2.heap.size, 0, none⟩) 1 1) := blk_cell (k := 3) ht9 rfl; have sb4 : w9.cell? ⟨w2.heap.size + 1, 4, none⟩ = some (.slice none 0 0) := blk_cell (k := 4) ht9 rfl; have sb5 : w9.cell? ⟨w2.heap.size + 1, 5, none⟩ = some (.slice none 0 0) := blk_cell (k := 5) ht9 rfl; have sb6 : w9.cell? ⟨w2.heap.size + 1, 6, none⟩ = some (.slice none 0 0) := blk_cell (k := 6) ht9 rfl; have sb7 : w9.cell? ⟨w2.heap.size + 1, 7, none⟩ = some (.slice none 0 0) := blk_cell (k := 7) ht9 rfl; have sb8 : w9.cell? ⟨w2.heap.size + 1, 8, none⟩ = some (.slice none 0 0) := blk_cell (k := 8) ht9 rfl; have sb9 : w9.cell? ⟨w2.heap.size + 1, 9, none⟩ = some (.slice none 0 0) := blk_cell (k := 9) ht9 rfl; have sb10 : w9.cell? ⟨w2.heap.size + 1, 10, none⟩ = some (.slice none 0 0) := blk_cell (k := 10) ht9 rfl; have sb11 : w9.cell? ⟨w2.heap.size + 1, 11, none⟩ = some (.slice none 0 0) := blk_cell (k := 11) ht9 rfl; have sb12 : w9.cell? ⟨w2.heap.size + 1, 12, none⟩ = some (.slice none 0 0) := blk_cell (k := 12) ht9 rfl; have rb0 : w9.cell? ⟨w6.heap.size, 0, none⟩ = some (.slice (A6 0) (n6 0) (b6 0)) := blk_cell (k := 0) hr9 rfl; have rb1 : w9.cell? ⟨w6.heap.size, 1, none⟩ = some (.slice (A6 1) (n6 1) (b6 1)) := blk_cell (k := 1) hr9 rfl; have rb2 : w9.cell? ⟨w6.heap.size, 2, none⟩ = some (.slice (A6 2) (n6 2) (b6 2)) := blk_cell (k := 2) hr9 rfl; have rb3 : w9.cell? ⟨w6.heap.size, 3, none⟩ = some (.slice (A6 3) (n6 3) (b6 3)) := blk_cell (k := 3) hr9 rfl; have rb4 : w9.cell? ⟨w6.heap.size, 4, none⟩ = some (.slice (A6 4) (n6 4) (b6 4)) := blk_cell (k := 4) hr9 rfl; have rb5 : w9.cell? ⟨w6.heap.size, 5, none⟩ = some (.slice (A6 5) (n6 5) (b6 5)) := blk_cell (k := 5) hr9 rfl; have rb6 : w9.cell? ⟨w6.heap.size, 6, none⟩ = some (.slice (A6 6) (n6 6) (b6 6)) := blk_cell (k := 6) hr9 rfl; have rb7 : w9.cell? ⟨w6.heap.size, 7, none⟩ = some (.slice (A6 7) (n6 7) (b6 7)) := blk_cell (k := 7) hr9 rfl; have rb8 : w9.cell? ⟨w6.heap.size, 8, none⟩ = some (.slice (A6 8) (n6 8) (b6 8)) := blk_cell (k := 8) hr9 rfl; have rb9 : w9.cell? ⟨w6.heap.size, 9, none⟩ = some (.slice (A6 9) (n6 9) (b6 9)) := blk_cell (k := 9) hr9 rfl; have rb10 : w9.cell? ⟨w6.heap.size, 10, none⟩ = some (.slice (A6 10) (n6 10) (b6 10)) := blk_cell (k := 10) hr9 rfl; have rb11 : w9.cell? ⟨w6.heap.size, 11, none⟩ = some (.slice (A6 11) (n6 11) (b6 11)) := blk_cell (k := 11) hr9 rfl; have rb12 : w9.cell? ⟨w6.heap.size, 12, none⟩ = some (.slice (A6 12) (n6 12) (b6 12)) := blk_cell (k := 12) hr9 rfl; clear hF9 hC9 hg9 ht9 hr9)
    | (go_at_call 10; refine (same_calls (F := FS) (Y := Y) (n := 13) (by decide) (by decide) (FS_fields.pair HAL.out) (fun j hj => ⟨(HF8.out j hj).1.chg HC89.out (fun h => h), (HF8.out j hj).2.chg HC89.out (fun h => h)⟩) HF9.out).mono ?_; rintro _ w10 ⟨rfl, hC10⟩; have HC710 := Lib.hid (HC79.out.reads hC10); have ht10 := HC710.out.blkF HT7.out; have hr10 := HC710.out.blkF HR7.out; have sc0 : w10.cell? ⟨w2.heap.size + 1, 0, none⟩ = some (.slice none 0 0) := blk_cell (k := 0) ht10 rfl; have sc1 : w10.cell? ⟨w2.heap.size + 1, 1, none⟩ = some (.slice none 0 0) := blk_cell (k := 1) ht10 rfl; have sc2 : w10.cell? ⟨w2.heap.size + 1, 2, none⟩ = some (.slice none 0 0) := blk_cell (k := 2) ht10 rfl; have sc3 : w10.cell? ⟨w2.heap.size + 1, 3, none⟩ = some (.slice (some ⟨w2.heap.size, 0, none⟩) 1 1) := blk_cell (k := 3) ht10 rfl; have sc4 : w10.cell? ⟨w2.heap.size + 1, 4, none⟩ = some (.slice none 0 0) := blk_cell (k := 4) ht10 rfl; have sc5 : w10.cell? ⟨w2.heap.size + 1, 5, none⟩ = some (.slice none 0 0) := blk_cell (k := 5) ht10 rfl; have sc6 : w10.cell? ⟨w2.heap.size + 1, 6, none⟩ = some (.slice none 0 0) := blk_cell (k := 6) ht10 rfl; have sc7 : w10.cell? ⟨w2.heap.size + 1, 7, none⟩ = some (.slice none 0 0) := blk_cell (k := 7) ht10 rfl; have sc8 : w10.cell? ⟨w2.heap.size + 1, 8, none⟩ = some (.slice none 0 0) := blk_cell (k := 8) ht10 rfl; have sc9 : w10.cell? ⟨w2.heap.size + 1, 9, none⟩ = some (.slice none 0 0) := blk_cell (k := 9) ht10 rfl; have sc10 : w10.cell? ⟨w2.heap.size + 1, 10, none⟩ = some (.slice none 0 0) := blk_cell (k := 10) ht10 rfl; have sc11 : w10.cell? ⟨w2.heap.size + 1, 11, none⟩ = some (.slice none 0 0) := blk_cell (k := 11) ht10 rfl; have sc12 : w10.cell? ⟨w2.heap.size + 1, 12, none⟩ = some (.slice none 0 0) := blk_cell (k := 12) ht10 rfl; have rc0 : w10.cell? ⟨w6.heap.size, 0, none⟩ = some (.slice (A6 0) (n6 0) (b6 0)) := blk_cell (k := 0) hr10 rfl; have rc1 : w10.cell? ⟨w6.heap.size, 1, none⟩ = some (.slice (A6 1) (n6 1) (b6 1)) := blk_cell (k := 1) hr10 rfl; have rc2 : w10.cell? ⟨w6.heap.size, 2, none⟩ = some (.slice (A6 2) (n6 2) (b6 2)) := blk_cell (k := 2) hr10 rfl; have rc3 : w10.cell? ⟨w6.heap.size, 3, none⟩ = some (.slice (A6 3) (n6 3) (b6 3)) := blk_cell (k := 3) hr10 rfl; have rc4 : w10.cell? ⟨w6.heap.size, 4, none⟩ = some (.slice (A6 4) (n6 4) (b6 4)) := blk_cell (k := 4) hr10 rfl; have rc5 : w10.cell? ⟨w6.heap.size, 5, none⟩ = some (.slice (A6 5) (n6 5) (b6 5)) := blk_cell (k := 5) hr10 rfl; have rc6 : w10.cell? ⟨w6.heap.size, 6, none⟩ = some (.slice (A6 6) (n6 6) (b6 6)) := blk_cell (k := 6) hr10 rfl; have rc7 : w10.cell? ⟨w6.heap.size, 7, none⟩ = some (.slice (A6 7) (n6 7) (b6 7)) := blk_cell (k := 7) hr10 rfl; have rc8 : w10.cell? ⟨w6.heap.size, 8, none⟩ = some (.slice (A6 8) (n6 8) (b6 8)) := blk_cell (k := 8) hr10 rfl; have rc9 : w10.cell? ⟨w6.heap.size, 9, none⟩ = some (.slice (A6 9) (n6 9) (b6 9)) := blk_cell (k := 9) hr10 rfl; have rc10 : w10.cell? ⟨w6.heap.size, 10, none⟩ = some (.slice (A6 10) (n6 10) (b6 10)) := blk_cell (k := 10) hr10 rfl; have rc11 : w10.cell? ⟨w6.heap.size, 11, none⟩ = some (.slice (A6 11) (n6 11) (b6 11)) := blk_cell (k := 11) hr10 rfl; have rc12 : w10.cell? ⟨w6.heap.size, 12, none⟩ = some (.slice (A6 12) (n6 12) (b6 12)) := blk_cell (k := 12) hr10 rfl; clear hC10 ht10 hr10))
  go_upto_region 6 with (fail)
  refine wp_any_world (fun w' => Chg (fun _ => False) w7 w') HC710.out ?_
  clear s0 s1 s2 s3 s4 s5 s6 s7 s8 s9 s10 s11 s12 r0 r1 r2 r3 r4 r5 r6 r7 r8 r9 r10 r11 r12 sa0 sa1 sa2 sa3 sa4 sa5 sa6 sa7 sa8 sa9 sa10 sa11 sa12 ra0 ra1 ra2 ra3 ra4 ra5 ra6 ra7 ra8 ra9 ra10 ra11 ra12 sb0 sb1 sb2 sb3 sb4 sb5 sb6 sb7 sb8 sb9 sb10 sb11 sb12 rb0 rb1 rb2 rb3 rb4 rb5 rb6 rb7 rb8 rb9 rb10 rb11 rb12 sc0 sc1 sc2 sc3 sc4 sc5 sc6 sc7 sc8 sc9 sc10 sc11 sc12 rc0 rc1 rc2 rc3 rc4 rc5 rc6 rc7 rc8 rc9 rc10 rc11 rc12 HC710 HC79 HC89 HC78 HF8 HF9 HD7
  rintro wa hCa
  have HCA := Lib.hid (HC7.out.reads hCa); have HBA := Lib.hid (hCa.blkF HB7.out)
  have hbx := HBA.out
  have z0 := blk_cell (k := 0) hbx rfl
  have z1 := blk_cell (k := 1) hbx rfl
  have z2 := blk_cell (k := 2) hbx rfl
  have z3 := blk_cell (k := 3) hbx rfl
  have z4 := blk_cell (k := 4) hbx rfl
  have z5 := blk_cell (k := 5) hbx rfl
  have z6 := blk_cell (k := 6) hbx rfl
  have z7 := blk_cell (k := 7) hbx rfl
  have z8 := blk_cell (k := 8) hbx rfl
  have z9 := blk_cell (k := 9) hbx rfl
  have z10 := blk_cell (k := 10) hbx rfl
  have z11 := blk_cell (k := 11) hbx rfl
  have z12 := blk_cell (k := 12) hbx rfl
  clear hCa hbx HSL7 HR7 HT7 HS7 HB7 HAL
  go_wp2_with fail
  refine (asked_calls (HP.out.ext HCA.out)).mono ?_
  rintro _ wb ⟨b, rfl, hCb, hask⟩
  have HCB := Lib.hid (HCA.out.reads hCb); have HBB := Lib.hid (hCb.blkF HBA.out); have HASK := Lib.hid hask
  clear hCb hask z0 z1 z2 z3 z4 z5 z6 z7 z8 z9 z10 z11 z12
  cases b with
  | false =>
    go_wp2_with fail
    go_ret
    exact ⟨rfl, HCB.out⟩
  | true =>
  obtain ⟨F, hF⟩ := fields_of (HP.out.ext HCB.out) (HASK.out (by trivial)) HN1.out
  have HF := Lib.hid hF
  have hbx := HBB.out
  have z0 := blk_cell (k := 0) hbx rfl
  have z1 := blk_cell (k := 1) hbx rfl
  have z2 := blk_cell (k := 2) hbx rfl
  have z3 := blk_cell (k := 3) hbx rfl
  have z4 := blk_cell (k := 4) hbx rfl
  have z5 := blk_cell (k := 5) hbx rfl
  have z6 := blk_cell (k := 6) hbx rfl
  have z7 := blk_cell (k := 7) hbx rfl
  have z8 := blk_cell (k := 8) hbx rfl
  have z9 := blk_cell (k := 9) hbx rfl
  have z10 := blk_cell (k := 10) hbx rfl
  have z11 := blk_cell (k := 11) hbx rfl
  have z12 := blk_cell (k := 12) hbx rfl
  clear hF hbx
  go_wp2_with fail
  refine (props_of (F := F) (fun j hj => (HF.out j hj).slot)).mono ?_
  rintro _ wc ⟨gc, rfl, hgc, hFc, hCc⟩
  have HCC := Lib.hid (HCB.out.reads hCc); have HBC := Lib.hid (hCc.blkF HBB.out); have HFC := Lib.hid hFc; have HCBC := Lib.hid hCc
  clear hgc hFc hCc z0 z1 z2 z3 z4 z5 z6 z7 z8 z9 z10 z11 z12
  go_wp2_with fail
  refine (fits_calls (F := F) (n := 13) (by decide) (by decide) HFC.out (fun j hj => (HF.out j hj).ok) (fun j hj => ((HF.out j hj).ext hj HCBC.out).tree) (HV.out.ext HCC.out)).mono ?_
  rintro _ wd ⟨b, rfl, hCd, hfit⟩
  have HCD := Lib.hid (HCC.out.reads hCd); have HBD := Lib.hid (hCd.blkF HBC.out); have HFIT := Lib.hid hfit; have HCBD := Lib.hid (HCBC.out.reads hCd)
  clear hCd hfit
  cases b with
  | false =>
    go_wp2_with fail
    go_ret
    exact ⟨rfl, HCD.out⟩
  | true =>
  rcases Nat.lt_or_ge 100 nb with hz1 | hz1
  · have hd : decide ((nb : Int) > 100) = true := by simp; omega
    go_wp2_with fail
    go_ret
    exact ⟨rfl, HCD.out⟩
  have hdz : decide ((nb : Int) > 100) = false := by simp; omega
  have HFS := Lib.hid (fields_fit HF.out (HFIT.out (by trivial)))
  have hbx := HBD.out
  have z0 := blk_cell (k := 0) hbx rfl
  have z1 := blk_cell (k := 1) hbx rfl
  have z2 := blk_cell (k := 2) hbx rfl
  have z3 := blk_cell (k := 3) hbx rfl
  have z4 := blk_cell (k := 4) hbx rfl
  have z5 := blk_cell (k := 5) hbx rfl
  have z6 := blk_cell (k := 6) hbx rfl
  have z7 := blk_cell (k := 7) hbx rfl
  have z8 := blk_cell (k := 8) hbx rfl
  have z9 := blk_cell (k := 9) hbx rfl
  have z10 := blk_cell (k := 10) hbx rfl
  have z11 := blk_cell (k := 11) hbx rfl
  have z12 := blk_cell (k := 12) hbx rfl
  clear hbx HFIT
  go_wp2_with fail
  clear hdz
  refine (props_of (F := F) (fun j hj => ((HF.out j hj).ext hj HCBD.out).slot)).mono ?_
  rintro _ wf ⟨gf, rfl, hgf, hFf, hCf⟩
  have HCF := Lib.hid (HCD.out.reads hCf); have HBF := Lib.hid (hCf.blkF HBD.out); have HFF := Lib.hid hFf; have HCBF := Lib.hid (HCBD.out.reads hCf)
  have hgl2 : gf < wf.heap.size := World.block_lt_of_cell? _ ⟨gf, 0, none⟩ (hFf 0 (by decide)).1.c0
  clear hgf hFf hCf z0 z1 z2 z3 z4 z5 z6 z7 z8 z9 z10 z11 z12
  have hA4 : Chg (fun _ => False) wf (wf.alloc (.cells #[.int .u64 fm, .bool false] 40)) := (Chg.refl _ wf).alloc _
  go_wp2_with fail
  refine (composite_put (F := F) (n := 13) (by decide) (by decide) HFS.out.flat (fun j hj => ⟨(HFF.out j hj).1.chg hA4 (fun h => h), (HFF.out j hj).2.chg hA4 (fun h => h)⟩) ⟨fm, false, heap_alloc_new _ _⟩ (by omega)).mono ?_
  rintro e wg ⟨v5, m5, dbs, encs, enc, rfl, hO5, hd5, hm5, hnul5, hl5, he5, hE5, hF5, hC5⟩
  obtain ⟨A5, n5, c5, rfl⟩ := hO5.slice
  have HCFG : Hid (Chg (fun _ => False) wf wg) := Lib.hid (hA4.trans hC5 (fun i hi h => absurd hi (by have h' : i = wf.heap.size := h; omega)))
  have HCG := Lib.hid (HCF.out.reads HCFG.out); have HBG := Lib.hid (HCFG.out.blkF HBF.out)
  have hplen := put_len HFS.out hm5 hd5 hl5 he5 hE5
  obtain ⟨v1, wh, hrun, ho, hg, hat⟩ := run_app8' hO5 (HBH.out.chg HCG.out) (by have := HLB.out; omega) (by have := hC5.size; exact this)
  obtain ⟨A7, n7, c7, rfl⟩ := ho.slice
  have HCGH : Hid (Chg (fun _ => False) wf wh) := Lib.hid (HCFG.out.grown hg (fun k hk hlt => absurd (own8_from hO5 hk) (by simp; omega)))
  have HCH := Lib.hid (HCF.out.reads HCGH.out); have HBH2 := Lib.hid (HCGH.out.blkF HBF.out)
  have HRUN := Lib.hid hrun
  have HRP := Lib.hid (read_put (lb := lb) HFS.out hm5 hd5 hnul5 hl5 he5 hE5 (Bs.of_own ho) (by have := HLB.out; omega))
  clear hA4 hO5 hd5 hm5 hnul5 hl5 he5 hE5 hF5 hC5 hplen hrun ho hg hat
  go_wp2_with (at_builtin; refine wpList_app HRUN.out rfl rfl rfl rfl rfl ?_)
  refine HRP.out.mono ?_
  rintro _ wi ⟨A9, n9, b9, A91, n91, b91, Y2, rfl, hCi, hsl, hal, hrest⟩
  have HCI := Lib.hid (HCH.out.reads hCi); have HSL := Lib.hid hsl; have HAL := Lib.hid hal; have HREST := Lib.hid hrest; have HBI := Lib.hid (hCi.blkF HBH2.out)
  have HCBI := Lib.hid ((HCBF.out.reads HCGH.out).reads hCi)
  clear hCi hsl hal hrest HRP
  go_upto_region 9 with (fail)
  refine wp_any_world (fun w' => Chg (fun _ => False) wi w' ∧ w'.heap[wi.heap.size]? = some (.cells #[.slice (A9 0) (n9 0) (b9 0), .slice (A9 1) (n9 1) (b9 1), .slice (A9 2) (n9 2) (b9 2), .slice (A9 3) (n9 3) (b9 3), .slice (A9 4) (n9 4) (b9 4), .slice (A9 5) (n9 5) (b9 5), .slice (A9 6) (n9 6) (b9 6), .slice (A9 7) (n9 7) (b9 7), .slice (A9 8) (n9 8) (b9 8), .slice (A9 9) (n9 9) (b9 9), .slice (A9 10) (n9 10) (b9 10), .slice (A9 11) (n9 11) (b9 11), .slice (A9 12) (n9 12) (b9 12)] 28 (0, 0))) ⟨(Chg.refl _ wi).alloc _, heap_alloc_new _ _⟩ ?_
  rintro w7 ⟨hC7, hb7⟩
  have HC7 := Lib.hid (HCI.out.reads hC7); have HR7 := Lib.hid hb7; have HB7 := Lib.hid (hC7.blkF HBI.out)
  have HCB7 := Lib.hid (HCBI.out.reads hC7)
  have HSL7 : Hid (∀ j, j < 13 → SlotAt j w7 (A9 j) (n9 j) (b9 j) (Y2 j)) := Lib.hid (fun j hj => (HSL.out j hj).ext hj hC7)
  have HREST7 : Hid (Bs w7 (.slice A91 n91 b91) lb) := Lib.hid ((Bs.of_own HREST.out).chg hC7)
  have HBH7 : Hid (Bs w7 (.slice Ab nb cb) lb) := Lib.hid (HBH.out.chg HC7.out)
  clear hC7 hb7 HSL
  have tok1 : True := trivial
  have HD7 : Hid (Chg (fun _ => False) w7 w7.drew) := Lib.hid ((Chg.refl _ w7).drewN 1)
  have s0 : w7.drew.cell? ⟨w.heap.size, 0, none⟩ = some (.slice (A 0) (n 0) (c 0)) := blk_cell (k := 0) (HD7.out.blkF HB7.out) rfl
  have s1 : w7.drew.cell? ⟨w.heap.size, 1, none⟩ = some (.slice (A 1) (n 1) (c 1)) := blk_cell (k := 1) (HD7.out.blkF HB7.out) rfl
  have s2 : w7.drew.cell? ⟨w.heap.size, 2, none⟩ = some (.slice (A 2) (n 2) (c 2)) := blk_cell (k := 2) (HD7.out.blkF HB7.out) rfl
  have s3 : w7.drew.cell? ⟨w.heap.size, 3, none⟩ = some (.slice (A 3) (n 3) (c 3)) := blk_cell (k := 3) (HD7.out.blkF HB7.out) rfl
  have s4 : w7.drew.cell? ⟨w.heap.size, 4, none⟩ = some (.slice (A 4) (n 4) (c 4)) := blk_cell (k := 4) (HD7.out.blkF HB7.out) rfl
  have s5 : w7.drew.cell? ⟨w.heap.size, 5, none⟩ = some (.slice (A 5) (n 5) (c 5)) := blk_cell (k := 5) (HD7.out.blkF HB7.out) rfl
  have s6 : w7.drew.cell? ⟨w.heap.size, 6, none⟩ = some (.slice (A 6) (n 6) (c 6)) := blk_cell (k := 6) (HD7.out.blkF HB7.out) rfl
  have s7 : w7.drew.cell? ⟨w.heap.size, 7, none⟩ = some (.slice (A 7) (n 7) (c 7)) := blk_cell (k := 7) (HD7.out.blkF HB7.out) rfl
  have s8 : w7.drew.cell? ⟨w.heap.size, 8, none⟩ = some (.slice (A 8) (n 8) (c 8)) := blk_cell (k := 8) (HD7.out.blkF HB7.out) rfl
  have s9 : w7.drew.cell? ⟨w.heap.size, 9, none⟩ = some (.slice (A 9) (n 9) (c 9)) := blk_cell (k := 9) (HD7.out.blkF HB7.out) rfl
  have s10 : w7.drew.cell? ⟨w.heap.size, 10, none⟩ = some (.slice (A 10) (n 10) (c 10)) := blk_cell (k := 10) (HD7.out.blkF HB7.out) rfl
  have s11 : w7.drew.cell? ⟨w.heap.size, 11, none⟩ = some (.slice (A 11) (n 11) (c 11)) := blk_cell (k := 11) (HD7.out.blkF HB7.out) rfl
  have s12 : w7.drew.cell? ⟨w.heap.size, 12, none⟩ = some (.slice (A 12) (n 12) (c 12)) := blk_cell (k := 12) (HD7.out.blkF HB7.out) rfl
  have r0 : w7.drew.cell? ⟨wi.heap.size, 0, none⟩ = some (.slice (A9 0) (n9 0) (b9 0)) := blk_cell (k := 0) (HD7.out.blkF HR7.out) rfl
  have r1 : w7.drew.cell? ⟨wi.heap.size, 1, none⟩ = some (.slice (A9 1) (n9 1) (b9 1)) := blk_cell (k := 1) (HD7.out.blkF HR7.out) rfl
  have r2 : w7.drew.cell? ⟨wi.heap.size, 2, none⟩ = some (.slice (A9 2) (n9 2) (b9 2)) := blk_cell (k := 2) (HD7.out.blkF HR7.out) rfl
  have r3 : w7.drew.cell? ⟨wi.heap.size, 3, none⟩ = some (.slice (A9 3) (n9 3) (b9 3)) := blk_cell (k := 3) (HD7.out.blkF HR7.out) rfl
  have r4 : w7.drew.cell? ⟨wi.heap.size, 4, none⟩ = some (.slice (A9 4) (n9 4) (b9 4)) := blk_cell (k := 4) (HD7.out.blkF HR7.out) rfl
  have r5 : w7.drew.cell? ⟨wi.heap.size, 5, none⟩ = some (.slice (A9 5) (n9 5) (b9 5)) := blk_cell (k := 5) (HD7.out.blkF HR7.out) rfl
  have r6 : w7.drew.cell? ⟨wi.heap.size, 6, none⟩ = some (.slice (A9 6) (n9 6) (b9 6)) := blk_cell (k := 6) (HD7.out.blkF HR7.out) rfl
  have r7 : w7.drew.cell? ⟨wi.heap.size, 7, none⟩ = some (.slice (A9 7) (n9 7) (b9 7)) := blk_cell (k := 7) (HD7.out.blkF HR7.out) rfl
  have r8 : w7.drew.cell? ⟨wi.heap.size, 8, none⟩ = some (.slice (A9 8) (n9 8) (b9 8)) := blk_cell (k := 8) (HD7.out.blkF HR7.out) rfl
  have r9 : w7.drew.cell? ⟨wi.heap.size, 9, none⟩ = some (.slice (A9 9) (n9 9) (b9 9)) := blk_cell (k := 9) (HD7.out.blkF HR7.out) rfl
  have r10 : w7.drew.cell? ⟨wi.heap.size, 10, none⟩ = some (.slice (A9 10) (n9 10) (b9 10)) := blk_cell (k := 10) (HD7.out.blkF HR7.out) rfl
  have r11 : w7.drew.cell? ⟨wi.heap.size, 11, none⟩ = some (.slice (A9 11) (n9 11) (b9 11)) := blk_cell (k := 11) (HD7.out.blkF HR7.out) rfl
  have r12 : w7.drew.cell? ⟨wi.heap.size, 12, none⟩ = some (.slice (A9 12) (n9 12) (b9 12)) := blk_cell (k := 12) (HD7.out.blkF HR7.out) rfl
  go_region_held3 (fun w' => w'.cell? ⟨w.heap.size, 0, none⟩ = some (.slice (A 0) (n 0) (c 0)) ∧ w'.cell? ⟨w.heap.size, 1, none⟩ = some (.slice (A 1) (n 1) (c 1)) ∧ w'.cell? ⟨w.heap.size, 2, none⟩ = some (.slice (A 2) (n 2) (c 2)) ∧ w'.cell? ⟨w.heap.size, 3, none⟩ = some (.slice (A 3) (n 3) (c 3)) ∧ w'.cell? ⟨w.heap.size, 4, none⟩ = some (.slice (A 4) (n 4) (c 4)) ∧ w'.cell? ⟨w.heap.size, 5, none⟩ = some (.slice (A 5) (n 5) (c 5)) ∧ w'.cell? ⟨w.heap.size, 6, none⟩ = some (.slice (A 6) (n 6) (c 6)) ∧ w'.cell? ⟨w.heap.size, 7, none⟩ = some (.slice (A 7) (n 7) (c 7)) ∧ w'.cell? ⟨w.heap.size, 8, none⟩ = some (.slice (A 8) (n 8) (c 8)) ∧ w'.cell? ⟨w.heap.size, 9, none⟩ = some (.slice (A 9) (n 9) (c 9)) ∧ w'.cell? ⟨w.heap.size, 10, none⟩ = some (.slice (A 10) (n 10) (c 10)) ∧ w'.cell? ⟨w.heap.size, 11, none⟩ = some (.slice (A 11) (n 11) (c 11)) ∧ w'.cell? ⟨w.heap.size, 12, none⟩ = some (.slice (A 12) (n 12) (c 12)) ∧ w'.cell? ⟨wi.heap.size, 0, none⟩ = some (.slice (A9 0) (n9 0) (b9 0)) ∧ w'.cell? ⟨wi.heap.size, 1, none⟩ = some (.slice (A9 1) (n9 1) (b9 1)) ∧ w'.cell? ⟨wi.heap.size, 2, none⟩ = some (.slice (A9 2) (n9 2) (b9 2)) ∧ w'.cell? ⟨wi.heap.size, 3, none⟩ = some (.slice (A9 3) (n9 3) (b9 3)) ∧ w'.cell? ⟨wi.heap.size, 4, none⟩ = some (.slice (A9 4) (n9 4) (b9 4)) ∧ w'.cell? ⟨wi.heap.size, 5, none⟩ = some (.slice (A9 5) (n9 5) (b9 5)) ∧ w'.cell? ⟨wi.heap.size, 6, none⟩ = some (.slice (A9 6) (n9 6) (b9 6)) ∧ w'.cell? ⟨wi.heap.size, 7, none⟩ = some (.slice (A9 7) (n9 7) (b9 7)) ∧ w'.cell? ⟨wi.heap.size, 8, none⟩ = some (.slice (A9 8) (n9 8) (b9 8)) ∧ w'.cell? ⟨wi.heap.size, 9, none⟩ = some (.slice (A9 9) (n9 9) (b9 9)) ∧ w'.cell? ⟨wi.heap.size, 10, none⟩ = some (.slice (A9 10) (n9 10) (b9 10)) ∧ w'.cell? ⟨wi.heap.size, 11, none⟩ = some (.slice (A9 11) (n9 11) (b9 11)) ∧ w'.cell? ⟨wi.heap.size, 12, none⟩ = some (.slice (A9 12) (n9 12) (b9 12))) ((repeat' apply And.intro) <;> with_reducible assumption) (first
    | (go_at_call 8; have _t := tok1; refine (props_of (F := F) (fun j hj => ((HF.out j hj).ext hj (HCB7.out.reads HD7.out)).slot)).mono ?_; rintro _ w8 ⟨g8, rfl, hg8, hF8, hC8⟩; have HC78 := Lib.hid (HD7.out.reads hC8); have HF8 := Lib.hid hF8; have ht8 := HC78.out.blkF HB7.out; have hr8 := HC78.out.blkF HR7.out; have sa0 : w8.cell? ⟨w.heap.size, 0, none⟩ = some (.slice (A 0) (n 0) (c 0)) := blk_cell (k := 0) ht8 rfl; have sa1 : w8.cell? ⟨w.heap.size, 1, none⟩ = some (.slice (A 1) (n 1) (c 1)) := blk_cell (k := 1) ht8 rfl; have sa2 : w8.cell? ⟨w.heap.size, 2, none⟩ = some (.slice (A 2) (n 2) (c 2)) := blk_cell (k := 2) ht8 rfl; have sa3 : w8.cell? ⟨w.heap.size, 3, none⟩ = some (.slice (A 3) (n 3) (c 3)) := blk_cell (k := 3) ht8 rfl; have sa4 : w8.cell? ⟨w.heap.size, 4, none⟩ = some (.slice (A 4) (n 4) (c 4)) := blk_cell (k := 4) ht8 rfl; have sa5 : w8.cell? ⟨w.heap.size, 5, none⟩ = some (.slice (A 5) (n 5) (c 5)) := blk_cell (k := 5) ht8 rfl; have sa6 : w8.cell? ⟨w.heap.size, 6, none⟩ = some (.slice (A 6) (n 6) (c 6)) := blk_cell (k := 6) ht8 rfl; have sa7 : w8.cell? ⟨w.heap.size, 7, none⟩ = some (.slice (A 7) (n 7) (c 7)) := blk_cell (k := 7) ht8 rfl; have sa8 : w8.cell? ⟨w.heap.size, 8, none⟩ = some (.slice (A 8) (n 8) (c 8)) := blk_cell (k := 8) ht8 rfl; have sa9 : w8.cell? ⟨w.heap.size, 9, none⟩ = some (.slice (A 9) (n 9) (c 9)) := blk_cell (k := 9) ht8 rfl; have sa10 : w8.cell? ⟨w.heap.size, 10, none⟩ = some (.slice (A 10) (n 10) (c 10)) := blk_cell (k := 10) ht8 rfl; have sa11 : w8.cell? ⟨w.heap.size, 11, none⟩ = some (.slice (A 11) (n 11) (c 11)) := blk_cell (k := 11) ht8 rfl; have sa12 : w8.cell? ⟨w.heap.size, 12, none⟩ = some (.slice (A 12) (n 12) (c 12)) := blk_cell (k := 12) ht8 rfl; have ra0 : w8.cell? ⟨wi.heap.size, 0, none⟩ = some (.slice (A9 0) (n9 0) (b9 0)) := blk_cell (k := 0) hr8 rfl; have ra1 : w8.cell? ⟨wi.heap.size, 1, none⟩ = some (.slice (A9 1) (n9 1) (b9 1)) := blk_cell (k := 1) hr8 rfl; have ra2 : w8.cell? ⟨wi.heap.size, 2, none⟩ = some (.slice (A9 2) (n9 2) (b9 2)) := blk_cell (k := 2) hr8 rfl; have ra3 : w8.cell? ⟨wi.heap.size, 3, none⟩ = some (.slice (A9 3) (n9 3) (b9 3)) := blk_cell (k := 3) hr8 rfl; have ra4 : w8.cell? ⟨wi.heap.size, 4, none⟩ = some (.slice (A9 4) (n9 4) (b9 4)) := blk_cell (k := 4) hr8 rfl; have ra5 : w8.cell? ⟨wi.heap.size, 5, none⟩ = some (.slice (A9 5) (n9 5) (b9 5)) := blk_cell (k := 5) hr8 rfl; have ra6 : w8.cell? ⟨wi.heap.size, 6, none⟩ = some (.slice (A9 6) (n9 6) (b9 6)) := blk_cell (k := 6) hr8 rfl; have ra7 : w8.cell? ⟨wi.heap.size, 7, none⟩ = some (.slice (A9 7) (n9 7) (b9 7)) := blk_cell (k := 7) hr8 rfl; have ra8 : w8.cell? ⟨wi.heap.size, 8, none⟩ = some (.slice (A9 8) (n9 8) (b9 8)) := blk_cell (k := 8) hr8 rfl; have ra9 : w8.cell? ⟨wi.heap.size, 9, none⟩ = some (.slice (A9 9) (n9 9) (b9 9)) := blk_cell (k := 9) hr8 rfl; have ra10 : w8.cell? ⟨wi.heap.size, 10, none⟩ = some (.slice (A9 10) (n9 10) (b9 10)) := blk_cell (k := 10) hr8 rfl; have ra11 : w8.cell? ⟨wi.heap.size, 11, none⟩ = some (.slice (A9 11) (n9 11) (b9 11)) := blk_cell (k := 11) hr8 rfl; have ra12 : w8.cell? ⟨wi.heap.size, 12, none⟩ = some (.slice (A9 12) (n9 12) (b9 12)) := blk_cell (k := 12) hr8 rfl; clear hF8 hC8 hg8 ht8 hr8 _t tok1)
    | (go_at_call 8; refine (props_of (F := Y2) (fun j hj => (HSL7.out j hj).ext hj HC78.out)).mono ?_; rintro _ w9 ⟨g9, rfl, hg9, hF9, hC9⟩; have HC79 := Lib.hid (HC78.out.reads hC9); have HC89 := Lib.hid hC9; have HF9 := Lib.hid hF9; have ht9 := HC79.out.blkF HB7.out; have hr9 := HC79.out.blkF HR7.out; have sb0 : w9.cell? ⟨w.heap.size, 0, none⟩ = some (.slice (A 0) (n 0) (c 0)) := blk_cell (k := 0) ht9 rfl; have sb1 : w9.cell? ⟨w.heap.size, 1, none⟩ = some (.slice (A 1) (n 1) (c 1)) := blk_cell (k := 1) ht9 rfl; have sb2 : w9.cell? ⟨w.heap.size, 2, none⟩ = some (.slice (A 2) (n 2) (c 2)) := blk_cell (k := 2) ht9 rfl; have sb3 : w9.cell? ⟨w.heap.size, 3, none⟩ = some (.slice (A 3) (n 3) (c 3)) := blk_cell (k := 3) ht9 rfl; have sb4 : w9.cell? ⟨w.heap.size, 4, none⟩ = some (.slice (A 4) (n 4) (c 4)) := blk_cell (k := 4) ht9 rfl; have sb5 : w9.cell? ⟨w.heap.size, 5, none⟩ = some (.slice (A 5) (n 5) (c 5)) := blk_cell (k := 5) ht9 rfl; have sb6 : w9.cell? ⟨w.heap.size, 6, none⟩ = some (.slice (A 6) (n 6) (c 6)) := blk_cell (k := 6) ht9 rfl; have sb7 : w9.cell? ⟨w.heap.size, 7, none⟩ = some (.slice (A 7) (n 7) (c 7)) := blk_cell (k := 7) ht9 rfl; have sb8 : w9.cell? ⟨w.heap.size, 8, none⟩ = some (.slice (A 8) (n 8) (c 8)) := blk_cell (k := 8) ht9 rfl; have sb9 : w9.cell? ⟨w.heap.size, 9, none⟩ = some (.slice (A 9) (n 9) (c 9)) := blk_cell (k := 9) ht9 rfl; have sb10 : w9.cell? ⟨w.heap.size, 10, none⟩ = some (.slice (A 10) (n 10) (c 10)) := blk_cell (k := 10) ht9 rfl; have sb11 : w9.cell? ⟨w.heap.size, 11, none⟩ = some (.slice (A 11) (n 11) (c 11)) := blk_cell (k := 11) ht9 rfl; have sb12 : w9.cell? ⟨w.heap.size, 12, none⟩ = some (.slice (A 12) (n 12) (c 12)) := blk_cell (k := 12) ht9 rfl; have rb0 : w9.cell? ⟨wi.heap.size, 0, none⟩ = some (.slice (A9 0) (n9 0) (b9 0)) := blk_cell (k := 0) hr9 rfl; have rb1 : w9.cell? ⟨wi.heap.size, 1, none⟩ = some (.slice (A9 1) (n9 1) (b9 1)) := blk_cell (k := 1) hr9 rfl; have rb2 : w9.cell? ⟨wi.heap.size, 2, none⟩ = some (.slice (A9 2) (n9 2) (b9 2)) := blk_cell (k := 2) hr9 rfl; have rb3 : w9.cell? ⟨wi.heap.size, 3, none⟩ = some (.slice (A9 3) (n9 3) (b9 3)) := blk_cell (k := 3) hr9 rfl; have rb4 : w9.cell? ⟨wi.heap.size, 4, none⟩ = some (.slice (A9 4) (n9 4) (b9 4)) := blk_cell (k := 4) hr9 rfl; have rb5 : w9.cell? ⟨wi.heap.size, 5, none⟩ = some (.slice (A9 5) (n9 5) (b9 5)) := blk_cell (k := 5) hr9 rfl; have rb6 : w9.cell? ⟨wi.heap.size, 6, none⟩ = some (.slice (A9 6) (n9 6) (b9 6)) := blk_cell (k := 6) hr9 rfl; have rb7 : w9.cell? ⟨wi.heap.size, 7, none⟩ = some (.slice (A9 7) (n9 7) (b9 7)) := blk_cell (k := 7) hr9 rfl; have rb8 : w9.cell? ⟨wi.heap.size, 8, none⟩ = some (.slice (A9 8) (n9 8) (b9 8)) := blk_cell (k := 8) hr9 rfl; have rb9 : w9.cell? ⟨wi.heap.size, 9, none⟩ = some (.slice (A9 9) (n9 9) (b9 9)) := blk_cell (k := 9) hr9 rfl; have rb10 : w9.cell? ⟨wi.heap.size, 10, none⟩ = some (.slice (A9 10) (n9 10) (b9 10)) := blk_cell (k := 10) hr9 rfl; have rb11 : w9.cell? ⟨wi.heap.size, 11, none⟩ = some (.slice (A9 11) (n9 11) (b9 11)) := blk_cell (k := 11) hr9 rfl; have rb12 : w9.cell? ⟨wi.heap.size, 12, none⟩ = some (.slice (A9 12) (n9 12) (b9 12)) := blk_cell (k := 12) hr9 rfl; clear hF9 hC9 hg9 ht9 hr9)
    | (go_at_call 10; refine (same_calls (F := F) (Y := Y2) (n := 13) (by decide) (by decide) (HFS.out.pair HAL.out) (fun j hj => ⟨(HF8.out j hj).1.chg HC89.out (fun h => h), (HF8.out j hj).2.chg HC89.out (fun h => h)⟩) HF9.out).mono ?_; rintro _ w10 ⟨rfl, hC10⟩; have HC710 := Lib.hid (HC79.out.reads hC10); have ht10 := HC710.out.blkF HB7.out; have hr10 := HC710.out.blkF HR7.out; have sc0 : w10.cell? ⟨w.heap.size, 0, none⟩ = some (.slice (A 0) (n 0) (c 0)) := blk_cell (k := 0) ht10 rfl; have sc1 : w10.cell? ⟨w.heap.size, 1, none⟩ = some (.slice (A 1) (n 1) (c 1)) := blk_cell (k := 1) ht10 rfl; have sc2 : w10.cell? ⟨w.heap.size, 2, none⟩ = some (.slice (A 2) (n 2) (c 2)) := blk_cell (k := 2) ht10 rfl; have sc3 : w10.cell? ⟨w.heap.size, 3, none⟩ = some (.slice (A 3) (n 3) (c 3)) := blk_cell (k := 3) ht10 rfl; have sc4 : w10.cell? ⟨w.heap.size, 4, none⟩ = some (.slice (A 4) (n 4) (c 4)) := blk_cell (k := 4) ht10 rfl; have sc5 : w10.cell? ⟨w.heap.size, 5, none⟩ = some (.slice (A 5) (n 5) (c 5)) := blk_cell (k := 5) ht10 rfl; have sc6 : w10.cell? ⟨w.heap.size, 6, none⟩ = some (.slice (A 6) (n 6) (c 6)) := blk_cell (k := 6) ht10 rfl; have sc7 : w10.cell? ⟨w.heap.size, 7, none⟩ = some (.slice (A 7) (n 7) (c 7)) := blk_cell (k := 7) ht10 rfl; have sc8 : w10.cell? ⟨w.heap.size, 8, none⟩ = some (.slice (A 8) (n 8) (c 8)) := blk_cell (k := 8) ht10 rfl; have sc9 : w10.cell? ⟨w.heap.size, 9, none⟩ = some (.slice (A 9) (n 9) (c 9)) := blk_cell (k := 9) ht10 rfl; have sc10 : w10.cell? ⟨w.heap.size, 10, none⟩ = some (.slice (A 10) (n 10) (c 10)) := blk_cell (k := 10) ht10 rfl; have sc11 : w10.cell? ⟨w.heap.size, 11, none⟩ = some (.slice (A 11) (n 11) (c 11)) := blk_cell (k := 11) ht10 rfl; have sc12 : w10.cell? ⟨w.heap.size, 12, none⟩ = some (.slice (A 12) (n 12) (c 12)) := blk_cell (k := 12) ht10 rfl; have rc0 : w10.cell? ⟨wi.heap.size, 0, none⟩ = some (.slice (A9 0) (n9 0) (b9 0)) := blk_cell (k := 0) hr10 rfl; have rc1 : w10.cell? ⟨wi.heap.size, 1, none⟩ = some (.slice (A9 1) (n9 1) (b9 1)) := blk_cell (k := 1) hr10 rfl; have rc2 : w10.cell? ⟨wi.heap.size, 2, none⟩ = some (.slice (A9 2) (n9 2) (b9 2)) := blk_cell (k := 2) hr10 rfl; have rc3 : w10.cell? ⟨wi.heap.size, 3, none⟩ = some (.slice (A9 3) (n9 3) (b9 3)) := blk_cell (k := 3) hr10 rfl; have rc4 : w10.cell? ⟨wi.heap.size, 4, none⟩ = some (.slice (A9 4) (n9 4) (b9 4)) := blk_cell (k := 4) hr10 rfl; have rc5 : w10.cell? ⟨wi.heap.size, 5, none⟩ = some (.slice (A9 5) (n9 5) (b9 5)) := blk_cell (k := 5) hr10 rfl; have rc6 : w10.cell? ⟨wi.heap.size, 6, none⟩ = some (.slice (A9 6) (n9 6) (b9 6)) := blk_cell (k := 6) hr10 rfl; have rc7 : w10.cell? ⟨wi.heap.size, 7, none⟩ = some (.slice (A9 7) (n9 7) (b9 7)) := blk_cell (k := 7) hr10 rfl; have rc8 : w10.cell? ⟨wi.heap.size, 8, none⟩ = some (.slice (A9 8) (n9 8) (b9 8)) := blk_cell (k := 8) hr10 rfl; have rc9 : w10.cell? ⟨wi.heap.size, 9, none⟩ = some (.slice (A9 9) (n9 9) (b9 9)) := blk_cell (k := 9) hr10 rfl; have rc10 : w10.cell? ⟨wi.heap.size, 10, none⟩ = some (.slice (A9 10) (n9 10) (b9 10)) := blk_cell (k := 10) hr10 rfl; have rc11 : w10.cell? ⟨wi.heap.size, 11, none⟩ = some (.slice (A9 11) (n9 11) (b9 11)) := blk_cell (k := 11) hr10 rfl; have rc12 : w10.cell? ⟨wi.heap.size, 12, none⟩ = some (.slice (A9 12) (n9 12) (b9 12)) := blk_cell (k := 12) hr10 rfl; clear hC10 ht10 hr10)
    | (go_at_call 13; refine (left_calls (HREST7.out.chg HC710.out) (HBH7.out.chg HC710.out)).mono ?_; rintro _ _ ⟨rfl, rfl⟩))
  go_wp2_with fail
  go_ret
  exact ⟨rfl, HC7.out.reads HC710.out⟩
end Go.Proofs.S
