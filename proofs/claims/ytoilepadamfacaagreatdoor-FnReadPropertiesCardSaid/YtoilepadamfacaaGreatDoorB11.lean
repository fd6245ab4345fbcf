/- The reader of any value answers for the kinds that an identity may have: for a reader that holds the bytes of one encoding. -/
import Derived.Test.YtoilepadamfacaaGreatDoorB10
set_option linter.unusedVariables false
set_option linter.unusedSimpArgs false
namespace Go.Proofs.S
open Go.RowKit
/-- What reading any value does: the value's shape is told by V. -/
def ReadsAny (w : World) (r d n c i m : Nat) (bs : List UInt8) (V : World → Value → Prop) (e : Ending) (w' : World) : Prop :=
  ∃ v, e = .returned (.tuple #[v, .nilIface]) ∧ V w' v ∧ Buf w' r d n c (i + m) bs ∧ Chg (· = r) w w'
theorem own8_shape {w : World} {base : Nat} {v : Value} {l : List UInt8} (h : Own8 w base v l) : ∃ A cc, v = .slice A l.length cc := by
  rcases h.2 with ⟨rfl, h0⟩ | ⟨g, cap, cur, rfl, _⟩
  · exact ⟨none, 0, by rw [h0]⟩
  · exact ⟨_, cap, rfl⟩

set_option maxRecDepth 100000 in
set_option maxHeartbeats 1000000 in
theorem readAny_ulong0 {w : World} {r d n c i : Nat} {bs : List UInt8}  (h : Buf w r d n c i bs) (hi : At bs i (0x44 :: [])) :
    Calls Tryz.prog 170 #[.pointer (some ⟨r, 0, none⟩)] w (ReadsAny w r d n c i (1) bs (fun _ v => v = .iface 29 (.int .u64 0))) := by
  go_enter Tryz.func170, Tryz.ntmps170
  go_wp2_with fail
  refine (tryNull_no h hi.cut (by decide)).mono ?_
  rintro _ w1 ⟨rfl, k1, rfl⟩
  go_wp2_with fail
  refine (peekType (h.drewN _) hi.cut).mono ?_
  rintro _ w2 ⟨rfl, k2, rfl⟩
  go_wp2_with fail
  refine (readUlong_zero (h.drewN _) hi).mono ?_
  rintro _ w3 ⟨rfl, hB, hC⟩
  go_wp2
  go_ret2
  exact ⟨_, rfl, rfl, hB, ((Chg.refl _ w).drewN _).reads hC⟩

set_option maxRecDepth 100000 in
set_option maxHeartbeats 1000000 in
theorem readAny_ulong1 {w : World} {r d n c i : Nat} {bs : List UInt8} {b : UInt8} (h : Buf w r d n c i bs) (hi : At bs i (0x53 :: b :: [])) :
    Calls Tryz.prog 170 #[.pointer (some ⟨r, 0, none⟩)] w (ReadsAny w r d n c i (2) bs (fun _ v => v = .iface 29 (.int .u64 (b.toNat : Int)))) := by
  go_enter Tryz.func170, Tryz.ntmps170
  go_wp2_with fail
  refine (tryNull_no h hi.cut (by decide)).mono ?_
  rintro _ w1 ⟨rfl, k1, rfl⟩
  go_wp2_with fail
  refine (peekType (h.drewN _) hi.cut).mono ?_
  rintro _ w2 ⟨rfl, k2, rfl⟩
  go_wp2_with fail
  refine (readUlong_small (h.drewN _) hi).mono ?_
  rintro _ w3 ⟨rfl, hB, hC⟩
  go_wp2
  go_ret2
  exact ⟨_, rfl, rfl, hB, ((Chg.refl _ w).drewN _).reads hC⟩

set_option maxRecDepth 100000 in
set_option maxHeartbeats 1000000 in
theorem readAny_ulong8 {w : World} {r d n c i : Nat} {bs : List UInt8} {b0 b1 b2 b3 b4 b5 b6 b7 : UInt8} (h : Buf w r d n c i bs) (hi : At bs i (0x80 :: b0 :: b1 :: b2 :: b3 :: b4 :: b5 :: b6 :: b7 :: [])) :
    Calls Tryz.prog 170 #[.pointer (some ⟨r, 0, none⟩)] w (ReadsAny w r d n c i (9) bs (fun _ v => v = .iface 29 (.int .u64 (Lib.beNat [b0, b1, b2, b3, b4, b5, b6, b7] : Nat)))) := by
  go_enter Tryz.func170, Tryz.ntmps170
  go_wp2_with fail
  refine (tryNull_no h hi.cut (by decide)).mono ?_
  rintro _ w1 ⟨rfl, k1, rfl⟩
  go_wp2_with fail
  refine (peekType (h.drewN _) hi.cut).mono ?_
  rintro _ w2 ⟨rfl, k2, rfl⟩
  go_wp2_with fail
  refine (readUlong_full (h.drewN _) hi).mono ?_
  rintro _ w3 ⟨rfl, hB, hC⟩
  go_wp2
  go_ret2
  exact ⟨_, rfl, rfl, hB, ((Chg.refl _ w).drewN _).reads hC⟩

set_option maxRecDepth 100000 in
set_option maxHeartbeats 1000000 in
theorem readAny_uuid {w : World} {r d n c i : Nat} {bs : List UInt8} {b0 b1 b2 b3 b4 b5 b6 b7 b8 b9 b10 b11 b12 b13 b14 b15 : UInt8} (h : Buf w r d n c i bs) (hi : At bs i (0x98 :: b0 :: b1 :: b2 :: b3 :: b4 :: b5 :: b6 :: b7 :: b8 :: b9 :: b10 :: b11 :: b12 :: b13 :: b14 :: b15 :: [])) :
    Calls Tryz.prog 170 #[.pointer (some ⟨r, 0, none⟩)] w (ReadsAny w r d n c i (17) bs (fun _ v => v = .iface 192 (uuidV [b0, b1, b2, b3, b4, b5, b6, b7, b8, b9, b10, b11, b12, b13, b14, b15]))) := by
  go_enter Tryz.func170, Tryz.ntmps170
  go_wp2_with fail
  refine (tryNull_no h hi.cut (by decide)).mono ?_
  rintro _ w1 ⟨rfl, k1, rfl⟩
  go_wp2_with fail
  refine (peekType (h.drewN _) hi.cut).mono ?_
  rintro _ w2 ⟨rfl, k2, rfl⟩
  go_wp2_with fail
  refine (readUUID (h.drewN _) hi).mono ?_
  rintro _ w3 ⟨rfl, hB, hC⟩
  go_wp2
  go_ret2
  exact ⟨_, rfl, rfl, hB, ((Chg.refl _ w).drewN _).reads hC⟩

set_option maxRecDepth 100000 in
set_option maxHeartbeats 1000000 in
theorem readAny_text_a1 {w : World} {r d n c i : Nat} {bs : List UInt8} {b : UInt8} {l : List UInt8} (h : Buf w r d n c i bs) (hi : At bs i (0xa1 :: b :: l)) (hl : l.length = b.toNat) :
    Calls Tryz.prog 170 #[.pointer (some ⟨r, 0, none⟩)] w (ReadsAny w r d n c i (2 + l.length) bs (fun _ v => v = .iface 9 (.string ⟨l.toArray⟩))) := by
  have HL := Lib.hid hl; clear hl
  go_enter Tryz.func170, Tryz.ntmps170
  go_wp2_with fail
  refine (tryNull_no h hi.cut (by decide)).mono ?_
  rintro _ w1 ⟨rfl, k1, rfl⟩
  go_wp2_with fail
  refine (peekType (h.drewN _) hi.cut).mono ?_
  rintro _ w2 ⟨rfl, k2, rfl⟩
  go_wp2_with fail
  refine (readString_a1 (h.drewN _) hi HL.out).mono ?_
  rintro _ w3 ⟨rfl, hB, hC⟩
  go_wp2
  go_ret2
  exact ⟨_, rfl, rfl, hB, ((Chg.refl _ w).drewN _).reads hC⟩

set_option maxRecDepth 100000 in
set_option maxHeartbeats 1000000 in
theorem readAny_text_a3 {w : World} {r d n c i : Nat} {bs : List UInt8} {b : UInt8} {l : List UInt8} (h : Buf w r d n c i bs) (hi : At bs i (0xa3 :: b :: l)) (hl : l.length = b.toNat) :
    Calls Tryz.prog 170 #[.pointer (some ⟨r, 0, none⟩)] w (ReadsAny w r d n c i (2 + l.length) bs (fun _ v => v = .iface 9 (.string ⟨l.toArray⟩))) := by
  have HL := Lib.hid hl; clear hl
  go_enter Tryz.func170, Tryz.ntmps170
  go_wp2_with fail
  refine (tryNull_no h hi.cut (by decide)).mono ?_
  rintro _ w1 ⟨rfl, k1, rfl⟩
  go_wp2_with fail
  refine (peekType (h.drewN _) hi.cut).mono ?_
  rintro _ w2 ⟨rfl, k2, rfl⟩
  go_wp2_with fail
  refine (readString_a3 (h.drewN _) hi HL.out).mono ?_
  rintro _ w3 ⟨rfl, hB, hC⟩
  go_wp2
  go_ret2
  exact ⟨_, rfl, rfl, hB, ((Chg.refl _ w).drewN _).reads hC⟩

set_option maxRecDepth 100000 in
set_option maxHeartbeats 1000000 in
theorem readAny_text_b1 {w : World} {r d n c i : Nat} {bs : List UInt8} {b0 b1 b2 b3 : UInt8} {l : List UInt8} (h : Buf w r d n c i bs) (hi : At bs i (0xb1 :: b0 :: b1 :: b2 :: b3 :: l)) (hl : l.length = Lib.beNat [b0, b1, b2, b3]) :
    Calls Tryz.prog 170 #[.pointer (some ⟨r, 0, none⟩)] w (ReadsAny w r d n c i (5 + l.length) bs (fun _ v => v = .iface 9 (.string ⟨l.toArray⟩))) := by
  have HL := Lib.hid hl; clear hl
  go_enter Tryz.func170, Tryz.ntmps170
  go_wp2_with fail
  refine (tryNull_no h hi.cut (by decide)).mono ?_
  rintro _ w1 ⟨rfl, k1, rfl⟩
  go_wp2_with fail
  refine (peekType (h.drewN _) hi.cut).mono ?_
  rintro _ w2 ⟨rfl, k2, rfl⟩
  go_wp2_with fail
  refine (readString_b1 (h.drewN _) hi HL.out).mono ?_
  rintro _ w3 ⟨rfl, hB, hC⟩
  go_wp2
  go_ret2
  exact ⟨_, rfl, rfl, hB, ((Chg.refl _ w).drewN _).reads hC⟩

set_option maxRecDepth 100000 in
set_option maxHeartbeats 1000000 in
theorem readAny_text_b3 {w : World} {r d n c i : Nat} {bs : List UInt8} {b0 b1 b2 b3 : UInt8} {l : List UInt8} (h : Buf w r d n c i bs) (hi : At bs i (0xb3 :: b0 :: b1 :: b2 :: b3 :: l)) (hl : l.length = Lib.beNat [b0, b1, b2, b3]) :
    Calls Tryz.prog 170 #[.pointer (some ⟨r, 0, none⟩)] w (ReadsAny w r d n c i (5 + l.length) bs (fun _ v => v = .iface 9 (.string ⟨l.toArray⟩))) := by
  have HL := Lib.hid hl; clear hl
  go_enter Tryz.func170, Tryz.ntmps170
  go_wp2_with fail
  refine (tryNull_no h hi.cut (by decide)).mono ?_
  rintro _ w1 ⟨rfl, k1, rfl⟩
  go_wp2_with fail
  refine (peekType (h.drewN _) hi.cut).mono ?_
  rintro _ w2 ⟨rfl, k2, rfl⟩
  go_wp2_with fail
  refine (readString_b3 (h.drewN _) hi HL.out).mono ?_
  rintro _ w3 ⟨rfl, hB, hC⟩
  go_wp2
  go_ret2
  exact ⟨_, rfl, rfl, hB, ((Chg.refl _ w).drewN _).reads hC⟩

set_option maxRecDepth 100000 in
set_option maxHeartbeats 1000000 in
theorem readAny_bin_a0 {w : World} {r d n c i : Nat} {bs : List UInt8} {b : UInt8} {l : List UInt8} (h : Buf w r d n c i bs) (hi : At bs i (0xa0 :: b :: l)) (hl : l.length = b.toNat) (hne : 0 < l.length) (hbig : n ≤ 140737488355328) :
    Calls Tryz.prog 170 #[.pointer (some ⟨r, 0, none⟩)] w (ReadsAny w r d n c i (2 + l.length) bs (fun w' v => ∃ s, v = .iface 23 s ∧ Own8 w' w.heap.size s l)) := by
  have HL := Lib.hid hl; clear hl
  go_enter Tryz.func170, Tryz.ntmps170
  go_wp2_with fail
  refine (tryNull_no h hi.cut (by decide)).mono ?_
  rintro _ w1 ⟨rfl, k1, rfl⟩
  go_wp2_with fail
  refine (peekType (h.drewN _) hi.cut).mono ?_
  rintro _ w2 ⟨rfl, k2, rfl⟩
  go_wp2_with fail
  refine (readBinary_a0_some (h.drewN _) hi HL.out hne hbig).mono ?_
  rintro _ w3 ⟨v, rfl, hv, hB, hC⟩
  have hs := own8_shape hv
  obtain ⟨A, cc, rfl⟩ := hs
  go_wp2
  go_ret2
  exact ⟨_, rfl, ⟨_, rfl, hv⟩, hB, ((Chg.refl _ w).drewN _).reads hC⟩

set_option maxRecDepth 100000 in
set_option maxHeartbeats 1000000 in
theorem readAny_bin_b0 {w : World} {r d n c i : Nat} {bs : List UInt8} {b0 b1 b2 b3 : UInt8} {l : List UInt8} (h : Buf w r d n c i bs) (hi : At bs i (0xb0 :: b0 :: b1 :: b2 :: b3 :: l)) (hl : l.length = Lib.beNat [b0, b1, b2, b3]) (hne : 0 < l.length) (hbig : n ≤ 140737488355328) :
    Calls Tryz.prog 170 #[.pointer (some ⟨r, 0, none⟩)] w (ReadsAny w r d n c i (5 + l.length) bs (fun w' v => ∃ s, v = .iface 23 s ∧ Own8 w' w.heap.size s l)) := by
  have HL := Lib.hid hl; clear hl
  go_enter Tryz.func170, Tryz.ntmps170
  go_wp2_with fail
  refine (tryNull_no h hi.cut (by decide)).mono ?_
  rintro _ w1 ⟨rfl, k1, rfl⟩
  go_wp2_with fail
  refine (peekType (h.drewN _) hi.cut).mono ?_
  rintro _ w2 ⟨rfl, k2, rfl⟩
  go_wp2_with fail
  refine (readBinary_b0_some (h.drewN _) hi HL.out hne hbig).mono ?_
  rintro _ w3 ⟨v, rfl, hv, hB, hC⟩
  have hs := own8_shape hv
  obtain ⟨A, cc, rfl⟩ := hs
  go_wp2
  go_ret2
  exact ⟨_, rfl, ⟨_, rfl, hv⟩, hB, ((Chg.refl _ w).drewN _).reads hC⟩

set_option maxRecDepth 100000 in
set_option maxHeartbeats 1000000 in
theorem readAny_bin_a0e {w : World} {r d n c i : Nat} {bs : List UInt8} {b : UInt8} (h : Buf w r d n c i bs) (hi : At bs i (0xa0 :: b :: [])) (hl : 0 = b.toNat) (hbig : n ≤ 140737488355328) :
    Calls Tryz.prog 170 #[.pointer (some ⟨r, 0, none⟩)] w (ReadsAny w r d n c i (2) bs (fun w' v => ∃ s, v = .iface 23 s ∧ Own8 w' w.heap.size s [])) := by
  have HL := Lib.hid hl; clear hl
  go_enter Tryz.func170, Tryz.ntmps170
  go_wp2_with fail
  refine (tryNull_no h hi.cut (by decide)).mono ?_
  rintro _ w1 ⟨rfl, k1, rfl⟩
  go_wp2_with fail
  refine (peekType (h.drewN _) hi.cut).mono ?_
  rintro _ w2 ⟨rfl, k2, rfl⟩
  go_wp2_with fail
  refine (readBinary_a0_empty (h.drewN _) hi HL.out hbig).mono ?_
  rintro _ w3 ⟨v, rfl, hv, hB, hC⟩
  have hs := own8_shape hv
  obtain ⟨A, cc, rfl⟩ := hs
  go_wp2
  go_ret2
  exact ⟨_, rfl, ⟨_, rfl, hv⟩, hB, ((Chg.refl _ w).drewN _).reads hC⟩

set_option maxRecDepth 100000 in
set_option maxHeartbeats 1000000 in
theorem readAny_bin_b0e {w : World} {r d n c i : Nat} {bs : List UInt8} {b0 b1 b2 b3 : UInt8} (h : Buf w r d n c i bs) (hi : At bs i (0xb0 :: b0 :: b1 :: b2 :: b3 :: [])) (hl : 0 = Lib.beNat [b0, b1, b2, b3]) (hbig : n ≤ 140737488355328) :
    Calls Tryz.prog 170 #[.pointer (some ⟨r, 0, none⟩)] w (ReadsAny w r d n c i (5) bs (fun w' v => ∃ s, v = .iface 23 s ∧ Own8 w' w.heap.size s [])) := by
  have HL := Lib.hid hl; clear hl
  go_enter Tryz.func170, Tryz.ntmps170
  go_wp2_with fail
  refine (tryNull_no h hi.cut (by decide)).mono ?_
  rintro _ w1 ⟨rfl, k1, rfl⟩
  go_wp2_with fail
  refine (peekType (h.drewN _) hi.cut).mono ?_
  rintro _ w2 ⟨rfl, k2, rfl⟩
  go_wp2_with fail
  refine (readBinary_b0_empty (h.drewN _) hi HL.out hbig).mono ?_
  rintro _ w3 ⟨v, rfl, hv, hB, hC⟩
  have hs := own8_shape hv
  obtain ⟨A, cc, rfl⟩ := hs
  go_wp2
  go_ret2
  exact ⟨_, rfl, ⟨_, rfl, hv⟩, hB, ((Chg.refl _ w).drewN _).reads hC⟩
end Go.Proofs.S
