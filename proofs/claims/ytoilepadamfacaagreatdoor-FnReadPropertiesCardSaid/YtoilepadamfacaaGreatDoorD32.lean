/- The encoding that the writer builds is one that the reader reads, and the fields fit: for properties that the guards let in. -/
import Derived.Test.YtoilepadamfacaaGreatDoorD29
import Derived.Test.YtoilepadamfacaaGreatDoorB28
set_option linter.unusedVariables false
set_option linter.unusedSimpArgs false
namespace Go.Proofs.S
open Go.RowKit Go.Maps
/-- Which kinds a field of a message's properties may have. -/
def KindOk (j : Nat) (kd : Int) : Prop :=
  match j with
  | 0 => kd = 0 ∨ kd = 5 ∨ kd = 17 ∨ kd = 18 ∨ kd = 19
  | 1 => kd = 0 ∨ kd = 18
  | 2 => kd = 0 ∨ kd = 19
  | 3 => kd = 0 ∨ kd = 19
  | 4 => kd = 0 ∨ kd = 19
  | 5 => kd = 0 ∨ kd = 5 ∨ kd = 17 ∨ kd = 18 ∨ kd = 19
  | 6 => kd = 0 ∨ kd = 20
  | 7 => kd = 0 ∨ kd = 20
  | 8 => kd = 0 ∨ kd = 16
  | 9 => kd = 0 ∨ kd = 16
  | 10 => kd = 0 ∨ kd = 19
  | 11 => kd = 0 ∨ kd = 4
  | 12 => kd = 0 ∨ kd = 19
  | _ => False
/-- What is read of a field. -/
def pfOf (j : Nat) (x : FV) : PF :=
  if x.kd = 0 then .nul else if x.kd = 4 then .u32 x.nm else if x.kd = 16 then .time (wrap64 x.nm) else if j = 1 then .bin x.tx.data.toList
  else if j = 0 ∨ j = 5 then .id (if x.kd = 5 then .ulong x.nm else if x.kd = 17 then .uuid x.tx.data.toList else if x.kd = 18 then .bin x.tx.data.toList else .text x.tx.data.toList) else .text x.tx.data.toList
/-- A value in its one form. -/
structure Canon (x : FV) : Prop where
  none : x.kd = 0 → x.nm = 0 ∧ x.tx = ⟨#[]⟩
  text : 17 ≤ x.kd → x.nm = 0
  num : x.kd < 17 → x.tx = ⟨#[]⟩
  lt : x.nm < U64
theorem j13 {j : Nat} (h : j < 13) : j = 0 ∨ j = 1 ∨ j = 2 ∨ j = 3 ∨ j = 4 ∨ j = 5 ∨ j = 6 ∨ j = 7 ∨ j = 8 ∨ j = 9 ∨ j = 10 ∨ j = 11 ∨ j = 12 := by omega
theorem kind8 {j : Nat} (hj : j < 13) {kd : Int} (h : KindOk j kd) : kd = 0 ∨ kd = 4 ∨ kd = 5 ∨ kd = 16 ∨ kd = 17 ∨ kd = 18 ∨ kd = 19 ∨ kd = 20 := by
  rcases j13 hj with rfl | rfl | rfl | rfl | rfl | rfl | rfl | rfl | rfl | rfl | rfl | rfl | rfl <;> simp only [KindOk] at h <;> omega
theorem pf_enc {j : Nat} (hj : j < 13) {x : FV} (hk : KindOk j x.kd) {enc : List UInt8} (he : EncV x.kd x.nm x.tx.data.toList enc) : PEnc (pfOf j x) enc := by
  obtain ⟨kd, nm, tx, kA, kN, kC, of_, dA, dC⟩ := x
  simp only at hk he
  have h8 := kind8 hj hk
  rcases h8 with rfl | rfl | rfl | rfl | rfl | rfl | rfl | rfl
  · have he' : enc = [0x40] := he
    subst he'
    simp only [pfOf, if_true]
    exact .nul
  · have he' : EncUint nm enc := he
    simp [pfOf]
    exact .u32 he'
  · have he' : EncUlong nm enc := he
    rcases j13 hj with rfl | rfl | rfl | rfl | rfl | rfl | rfl | rfl | rfl | rfl | rfl | rfl | rfl <;> first | (simp [KindOk] at hk; done) | (simp [pfOf]; exact .id (.ulong he'))
  · have he' : TimeEnc (wrap64 nm) enc := he
    simp [pfOf]
    exact .time he'
  · have he' : UuidEnc tx.data.toList enc := he
    rcases j13 hj with rfl | rfl | rfl | rfl | rfl | rfl | rfl | rfl | rfl | rfl | rfl | rfl | rfl <;> first | (simp [KindOk] at hk; done) | (simp [pfOf]; exact .id (.uuid he'))
  · have he' : BinEnc tx.data.toList enc := he
    rcases j13 hj with rfl | rfl | rfl | rfl | rfl | rfl | rfl | rfl | rfl | rfl | rfl | rfl | rfl <;> first | (simp [KindOk] at hk; done) | (simp [pfOf]; exact .id (.bin he')) | (simp [pfOf]; exact .bin he')
  · have he' : TextEnc tx.data.toList enc := he
    rcases j13 hj with rfl | rfl | rfl | rfl | rfl | rfl | rfl | rfl | rfl | rfl | rfl | rfl | rfl <;> first | (simp [KindOk] at hk; done) | (simp [pfOf]; exact .id (.text he')) | (simp [pfOf]; exact .text he')
  · have he' : TextEnc tx.data.toList enc := he
    rcases j13 hj with rfl | rfl | rfl | rfl | rfl | rfl | rfl | rfl | rfl | rfl | rfl | rfl | rfl <;> first | (simp [KindOk] at hk; done) | (simp [pfOf]; exact .text he')
theorem pf_ok {j : Nat} (hj : j < 13) {x : FV} (hk : KindOk j x.kd) : PFOk j (pfOf j x) := by
  obtain ⟨kd, nm, tx, kA, kN, kC, of_, dA, dC⟩ := x
  simp only at hk
  have h8 := kind8 hj hk
  rcases h8 with rfl | rfl | rfl | rfl | rfl | rfl | rfl | rfl <;> rcases j13 hj with rfl | rfl | rfl | rfl | rfl | rfl | rfl | rfl | rfl | rfl | rfl | rfl | rfl <;> first | (simp [KindOk] at hk; done) | (simp [pfOf, PFOk]; done)
theorem pf_time {j : Nat} {x : FV} {ms : Int} (h : pfOf j x = .time ms) : -9223372036854775808 ≤ ms ∧ ms ≤ 9223372036854775807 := by
  unfold pfOf at h
  split at h
  · cases h
  split at h
  · cases h
  split at h
  · injection h with h
    rw [← h]
    unfold wrap64
    omega
  split at h
  · cases h
  split at h <;> cases h
theorem enc_pos {kd : Int} {u : Nat} {tx enc : List UInt8} (hk : kd = 0 ∨ kd = 4 ∨ kd = 5 ∨ kd = 16 ∨ kd = 17 ∨ kd = 18 ∨ kd = 19 ∨ kd = 20) (h : EncV kd u tx enc) : 1 ≤ enc.length := by
  rcases hk with rfl | rfl | rfl | rfl | rfl | rfl | rfl | rfl
  · have h' : enc = [0x40] := h
    rw [h']; simp
  · have h' : EncUint u enc := h
    cases h' <;> simp
  · have h' : EncUlong u enc := h
    cases h' <;> simp
  · have h' : TimeEnc (wrap64 u) enc := h
    generalize wrap64 (u : Int) = m at h'
    cases h'; simp
  · have h' : UuidEnc tx enc := h
    cases h'; simp
  · have h' : BinEnc tx enc := h
    cases h' <;> simp
  · have h' : TextEnc tx enc := h
    cases h' <;> simp
  · have h' : TextEnc tx enc := h
    cases h' <;> simp
theorem flat_ge : ∀ (encs : List (List UInt8)), (∀ j, j < encs.length → 1 ≤ (encs.getD j []).length) → encs.length ≤ encs.flatten.length
  | [], _ => by simp
  | e :: es, h => by
    have h0 := h 0 (by simp)
    have := flat_ge es (fun j hj => by have := h (j + 1) (by simpa using hj); simpa using this)
    simp only [List.getD_cons_zero] at h0
    rw [List.flatten_cons, List.length_append, List.length_cons]
    omega
theorem at_mid (pre enc behind : List UInt8) : At (pre ++ enc ++ behind) pre.length enc := ⟨behind, by rw [List.append_assoc, List.drop_left]⟩
/-- The list's head and its body in the bytes. -/
theorem head_of {encs : List (List UInt8)} {enc pre behind : List UInt8} (h : EncL encs enc) (hpos : encs.length ≤ encs.flatten.length) (hk : encs.length ≤ 13) :
    ∃ m, LHead (pre ++ enc ++ behind) (pre ++ enc ++ behind).length pre.length encs.length m ∧ At (pre ++ enc ++ behind) (pre.length + m) encs.flatten ∧ (pre ++ enc ++ behind).drop (pre.length + m + encs.flatten.length) = behind := by
  have hm := at_mid pre enc behind
  rcases h with ⟨rfl, rfl⟩ | ⟨s, k, h1, h2, rfl⟩ | ⟨s0, s1, s2, s3, k0, k1, k2, k3, h1, h2, rfl⟩
  · refine ⟨1, .zero hm, ⟨_, rfl⟩, ?_⟩
    rw [List.drop_append_of_le_length (by simp)]
    simp
  · refine ⟨3, ?_, ?_, ?_⟩
    · rw [h1]
      exact .short s k (At.left (l := [0xc0, s, k]) hm) (by simp only [List.length_append, List.length_cons]; omega) (by omega)
    · exact At.right (l := [0xc0, s, k]) hm
    · rw [show pre.length + 3 + encs.flatten.length = (pre ++ (0xc0 :: s :: k :: encs.flatten)).length by simp only [List.length_append, List.length_cons]; omega, List.drop_left]
  · refine ⟨9, ?_, ?_, ?_⟩
    · rw [h1]
      exact .long s0 s1 s2 s3 k0 k1 k2 k3 (At.left (l := [0xd0, s0, s1, s2, s3, k0, k1, k2, k3]) hm) (by simp only [List.length_append, List.length_cons]; omega) (by omega) (by omega)
    · exact At.right (l := [0xd0, s0, s1, s2, s3, k0, k1, k2, k3]) hm
    · rw [show pre.length + 9 + encs.flatten.length = (pre ++ (0xd0 :: s0 :: s1 :: s2 :: s3 :: k0 :: k1 :: k2 :: k3 :: encs.flatten)).length by simp only [List.length_append, List.length_cons]; omega, List.drop_left]
theorem tx_back (tx : ByteArray) : (⟨tx.data.toList.toArray⟩ : ByteArray) = tx := by simp
theorem nm_back {n : Nat} (h : n < U64) : (IntKind.u64.wrap (wrap64 (n : Int))).toNat = n := by
  unfold U64 at h
  have : IntKind.u64.wrap (wrap64 (n : Int)) = (n : Int) := by
    simp [IntKind.wrap, IntKind.bits, IntKind.signed, wrap64]
    omega
  rw [this]; rfl
theorem nm_back32 (n : Nat) (h : n < U64) : (IntKind.u64.wrap (n : Int)).toNat = n := by
  unfold U64 at h
  have : IntKind.u64.wrap (n : Int) = (n : Int) := by
    simp [IntKind.wrap, IntKind.bits, IntKind.signed]
    omega
  rw [this]; rfl
/-- A field read back is the field that was written. -/
theorem slot_back {j : Nat} (hj : j < 13) {x : FV} (hk : KindOk j x.kd) (hc : Canon x) (h1 : j = 1 → x.kd = 18 → x.tx.data.toList ≠ []) {fc : Nat → PF} (hf : fc j = pfOf j x) {base : Nat} {w : World} {A : Option Addr} {n c : Nat} (h : ResAt base (outOf fc j) w (.slice A n c)) :
    ∃ y, SlotAt j w A n c y ∧ Alike x y ∧ y.kN = 0 := by
  obtain ⟨kd, nm, tx, kA, kN, kC, of_, dA, dC⟩ := x
  obtain ⟨hc0, hc1, hc2, hc3⟩ := hc
  simp only at hk hc0 hc1 hc2 hc3 h1
  have h8 := kind8 hj hk
  have hj' := j13 hj
  rcases h8 with rfl | rfl | rfl | rfl | rfl | rfl | rfl | rfl
  · -- none
    obtain ⟨rfl, rfl⟩ := hc0 rfl
    rcases Classical.em (j = 1) with rfl | hj1
    · simp [outOf, hf, pfOf, binOf] at h
      obtain ⟨A', cc, hv⟩ := own8_shape h
      injection hv with e1 e2 e3
      simp only [List.length_nil] at e2
      subst e2
      exact ⟨FV0, ⟨[], rfl, by have := Bs.of_own h; simpa using this, .inl ⟨rfl, rfl⟩⟩, ⟨rfl, rfl, rfl⟩, rfl⟩
    · simp [outOf, hf, pfOf, hj1] at h
      have hv : Value.slice A n c = .slice none 0 0 := h
      injection hv with e1 e2 e3
      subst e2
      rcases hj' with rfl | rfl | rfl | rfl | rfl | rfl | rfl | rfl | rfl | rfl | rfl | rfl | rfl <;> first | exact absurd rfl hj1 | exact ⟨FV0, .inl ⟨rfl, rfl⟩, ⟨rfl, rfl, rfl⟩, rfl⟩
  · -- a number of 32 bits
    obtain rfl := hc2 (by decide)
    rcases hj' with rfl | rfl | rfl | rfl | rfl | rfl | rfl | rfl | rfl | rfl | rfl | rfl | rfl <;> first | (simp [KindOk] at hk; done) | skip
    simp [outOf, hf, pfOf] at h
    obtain ⟨g, hv, hg, hh⟩ := h
    injection hv with e1 e2 e3
    subst e1 e2
    exact ⟨_, .inr ⟨rfl, g, 0, _, rfl, blk_cell hh rfl, rfl⟩, ⟨rfl, (nm_back32 nm hc3).symm, rfl⟩, rfl⟩
  · -- a number that messages are told by
    obtain rfl := hc2 (by decide)
    rcases hj' with rfl | rfl | rfl | rfl | rfl | rfl | rfl | rfl | rfl | rfl | rfl | rfl | rfl <;> first | (simp [KindOk] at hk; done) | skip
    all_goals
      simp [outOf, hf, pfOf] at h
      obtain ⟨g, hv, hg, kd, n0, x, hh, h2, h3, h4⟩ := h
      injection hv with e1 e2 e3
      subst e1 e2 h2 h3 h4
      exact ⟨⟨5, nm, ⟨#[]⟩, none, 0, 0, 0, none, 0⟩, .inr ⟨rfl, g, 0, rfl, ⟨blk_cell hh rfl, blk_cell hh rfl, blk_cell hh rfl, blk_cell hh rfl, blk_cell hh rfl, blk_cell hh rfl⟩⟩, ⟨rfl, rfl, rfl⟩, rfl⟩
  · -- a time
    obtain rfl := hc2 (by decide)
    rcases hj' with rfl | rfl | rfl | rfl | rfl | rfl | rfl | rfl | rfl | rfl | rfl | rfl | rfl <;> first | (simp [KindOk] at hk; done) | skip
    all_goals
      simp [outOf, hf, pfOf] at h
      obtain ⟨g, hv, hg, hh⟩ := h
      injection hv with e1 e2 e3
      subst e1 e2
      exact ⟨_, .inr ⟨rfl, g, 0, _, rfl, blk_cell hh rfl, rfl⟩, ⟨rfl, (nm_back hc3).symm, rfl⟩, rfl⟩
  · -- a uuid
    obtain rfl := hc1 (by decide)
    rcases hj' with rfl | rfl | rfl | rfl | rfl | rfl | rfl | rfl | rfl | rfl | rfl | rfl | rfl <;> first | (simp [KindOk] at hk; done) | skip
    all_goals
      simp [outOf, hf, pfOf] at h
      obtain ⟨g, hv, hg, kd, n0, x, hh, h2, h3, h4, h5⟩ := h
      injection hv with e1 e2 e3
      subst e1 e2 h2 h3 h4
      exact ⟨⟨17, 0, tx, none, 0, 0, 0, none, 0⟩, .inr ⟨rfl, g, 0, rfl, ⟨blk_cell hh rfl, blk_cell hh rfl, blk_cell hh (by simp), blk_cell hh rfl, blk_cell hh rfl, blk_cell hh rfl⟩⟩, ⟨rfl, rfl, rfl⟩, rfl⟩
  · -- bytes
    obtain rfl := hc1 (by decide)
    rcases hj' with rfl | rfl | rfl | rfl | rfl | rfl | rfl | rfl | rfl | rfl | rfl | rfl | rfl <;> first | (simp [KindOk] at hk; done) | skip
    case inr.inl =>
      simp [outOf, hf, pfOf, binOf] at h
      obtain ⟨A', cc, hv⟩ := own8_shape h
      injection hv with e1 e2 e3
      have hb := Bs.of_own h
      refine ⟨⟨18, 0, ⟨tx.data.toList.toArray⟩, none, 0, 0, 0, none, 0⟩, ⟨tx.data.toList, ?_, by simpa using hb, .inr ⟨?_, rfl⟩⟩, ⟨rfl, rfl, (tx_back tx).symm⟩, rfl⟩
      · simpa using e2.symm
      · have h2 : tx.data.toList.length ≠ 0 := fun h0 => h1 rfl rfl (List.eq_nil_of_length_eq_zero h0)
        have e2' : n = tx.data.toList.length := by simpa using e2
        omega
    all_goals
      simp [outOf, hf, pfOf] at h
      obtain ⟨g, hv, hg, kd, n0, x, hh, h2, h3, h4⟩ := h
      injection hv with e1 e2 e3
      subst e1 e2 h2 h3 h4
      exact ⟨⟨18, 0, tx, none, 0, 0, 0, none, 0⟩, .inr ⟨rfl, g, 0, rfl, ⟨blk_cell hh rfl, blk_cell hh rfl, blk_cell hh (by simp), blk_cell hh rfl, blk_cell hh rfl, blk_cell hh rfl⟩⟩, ⟨rfl, rfl, rfl⟩, rfl⟩
  · -- a string
    obtain rfl := hc1 (by decide)
    rcases hj' with rfl | rfl | rfl | rfl | rfl | rfl | rfl | rfl | rfl | rfl | rfl | rfl | rfl <;> first | (simp [KindOk] at hk; done) | skip
    all_goals simp [outOf, hf, pfOf] at h
    all_goals first
      | (obtain ⟨g, hv, hg, kd, n0, x, hh, h2, h3, h4⟩ := h
         injection hv with e1 e2 e3
         subst e1 e2 h2 h3 h4
         exact ⟨⟨19, 0, tx, none, 0, 0, 0, none, 0⟩, .inr ⟨rfl, g, 0, rfl, ⟨blk_cell hh rfl, blk_cell hh rfl, blk_cell hh (by simp), blk_cell hh rfl, blk_cell hh rfl, blk_cell hh rfl⟩⟩, ⟨rfl, rfl, rfl⟩, rfl⟩)
      | (obtain ⟨g, hv, hg, hh⟩ := h
         injection hv with e1 e2 e3
         subst e1 e2
         exact ⟨_, .inr ⟨rfl, g, 0, tx, rfl, blk_cell hh (by simp), rfl⟩, ⟨rfl, rfl, rfl⟩, rfl⟩)
  · -- a symbol
    obtain rfl := hc1 (by decide)
    rcases hj' with rfl | rfl | rfl | rfl | rfl | rfl | rfl | rfl | rfl | rfl | rfl | rfl | rfl <;> first | (simp [KindOk] at hk; done) | skip
    all_goals
      simp [outOf, hf, pfOf] at h
      obtain ⟨g, hv, hg, hh⟩ := h
      injection hv with e1 e2 e3
      subst e1 e2
      exact ⟨_, .inr ⟨rfl, g, 0, tx, rfl, blk_cell hh (by simp), rfl⟩, ⟨rfl, rfl, rfl⟩, rfl⟩
end Go.Proofs.S
namespace Go.Proofs.S
open Go.RowKit Go.Maps
theorem SlotAny.ext {w w' : World} {A : Option Addr} {n : Nat} {x : FV} (h : SlotAny w A n x) (hc : Chg (fun _ => False) w w') : SlotAny w' A n x := by
  rcases h with h | ⟨h, g, o, e, hx⟩
  · exact .inl h
  · exact .inr ⟨h, g, o, e, hx.chg hc (fun h => h)⟩
theorem SlotText.ext {K : Int} {w w' : World} {A : Option Addr} {n : Nat} {x : FV} (h : SlotText K w A n x) (hc : Chg (fun _ => False) w w') : SlotText K w' A n x := by
  rcases h with h | ⟨h, g, o, s, e, hx, hy⟩
  · exact .inl h
  · exact .inr ⟨h, g, o, s, e, hc.cell hx (fun h => h), hy⟩
theorem SlotI.ext {w w' : World} {A : Option Addr} {n : Nat} {x : FV} (h : SlotI w A n x) (hc : Chg (fun _ => False) w w') : SlotI w' A n x := by
  rcases h with h | ⟨h, g, o, s, e, hx, hy⟩
  · exact .inl h
  · exact .inr ⟨h, g, o, s, e, hc.cell hx (fun h => h), hy⟩
theorem SlotU.ext {w w' : World} {A : Option Addr} {n : Nat} {x : FV} (h : SlotU w A n x) (hc : Chg (fun _ => False) w w') : SlotU w' A n x := by
  rcases h with h | ⟨h, g, o, s, e, hx, hy⟩
  · exact .inl h
  · exact .inr ⟨h, g, o, s, e, hc.cell hx (fun h => h), hy⟩
theorem SlotBin.ext {w w' : World} {A : Option Addr} {n c : Nat} {x : FV} (h : SlotBin w A n c x) (hc : Chg (fun _ => False) w w') : SlotBin w' A n c x := by
  obtain ⟨l, h1, h2, h3⟩ := h
  exact ⟨l, h1, h2.chg hc, h3⟩
theorem SlotAt.ext {j : Nat} (hj : j < 13) {w w' : World} {A : Option Addr} {n c : Nat} {x : FV} (h : SlotAt j w A n c x) (hc : Chg (fun _ => False) w w') : SlotAt j w' A n c x := by
  rcases j13 hj with rfl | rfl | rfl | rfl | rfl | rfl | rfl | rfl | rfl | rfl | rfl | rfl | rfl
  · exact SlotAny.ext h hc
  · exact SlotBin.ext h hc
  · exact SlotText.ext h hc
  · exact SlotText.ext h hc
  · exact SlotText.ext h hc
  · exact SlotAny.ext h hc
  · exact SlotText.ext h hc
  · exact SlotText.ext h hc
  · exact SlotI.ext h hc
  · exact SlotI.ext h hc
  · exact SlotText.ext h hc
  · exact SlotU.ext h hc
  · exact SlotText.ext h hc
/-- What the fields of a message's properties are, once they fit. -/
structure Fields (F : Nat → FV) : Prop where
  kind : ∀ j, j < 13 → KindOk j (F j).kd
  canon : ∀ j, j < 13 → Canon (F j)
  flat : ∀ j, j < 13 → FlatV (F j).kd (F j).nm (F j).tx
  kids : ∀ j, j < 13 → (F j).kN = 0
  bin : (F 1).kd = 18 → (F 1).tx.data.toList ≠ []
theorem Fields.pair {F Y : Nat → FV} (h : Fields F) (ha : ∀ j, j < 13 → Alike (F j) (Y j) ∧ (Y j).kN = 0) : ∀ j, j < 13 → Pair (F j) (Y j) := fun j hj => by
  have h8 := kind8 hj (h.kind j hj)
  exact ⟨(ha j hj).1, by omega, by omega, by omega, h.kids j hj, (ha j hj).2⟩
def fcOf (F : Nat → FV) (j : Nat) : PF := if j < 13 then pfOf j (F j) else .nul
theorem put_len {F : Nat → FV} {m : Nat} {dbs enc : List UInt8} {encs : List (List UInt8)} (hF : Fields F) (hm : m ≤ 13) (hd : EncV 5 115 [] dbs) (hl : encs.length = m) (he : ∀ j, j < m → EncV (F j).kd (F j).nm (F j).tx.data.toList (encs.getD j [])) (hE : EncL encs enc) : (0 :: (dbs ++ enc) : List UInt8).length ≤ 3000000 := by
  have h1 := EncL_len hE
  have h2 := flat_len (b := 200009) encs (fun j hj => by
    have hj' : j < m := by omega
    have := EncV_len (hF.flat j (by omega)) (he j hj')
    have := (hF.flat j (by omega)).len
    omega)
  have h3 : dbs.length ≤ 9 := by
    have hd' : EncUlong 115 dbs := hd
    generalize (115 : Nat) = q at hd'
    cases hd' <;> simp
  simp only [List.length_cons, List.length_append]
  have : encs.length * 200009 ≤ 13 * 200009 := Nat.mul_le_mul_right _ (by omega)
  omega
/-- ReadProperties over what Put has written. -/
theorem read_put {F : Nat → FV} {m : Nat} {dbs enc lb : List UInt8} {encs : List (List UInt8)} (hF : Fields F) (hm : m ≤ 13) (hd : EncV 5 115 [] dbs) (hnul : ∀ j, m ≤ j → j < 13 → (F j).kd = 0) (hl : encs.length = m) (he : ∀ j, j < m → EncV (F j).kd (F j).nm (F j).tx.data.toList (encs.getD j [])) (hE : EncL encs enc)
    {w : World} {A0 : Option Addr} {N0 C0 : Nat} (hs : Bs w (.slice A0 N0 C0) ((0 :: (dbs ++ enc)) ++ lb)) (hlb : lb.length ≤ 100) :
    Calls Tryz.prog 7 #[.slice A0 N0 C0] w fun e w' => ∃ (A : Nat → Option Addr) (n b : Nat → Nat) (A1 : Option Addr) (n1 b1 : Nat) (Y : Nat → FV),
      e = .returned (.tuple #[.agg #[.slice (A 0) (n 0) (b 0), .slice (A 1) (n 1) (b 1), .slice (A 2) (n 2) (b 2), .slice (A 3) (n 3) (b 3), .slice (A 4) (n 4) (b 4), .slice (A 5) (n 5) (b 5), .slice (A 6) (n 6) (b 6), .slice (A 7) (n 7) (b 7), .slice (A 8) (n 8) (b 8), .slice (A 9) (n 9) (b 9), .slice (A 10) (n 10) (b 10), .slice (A 11) (n 11) (b 11), .slice (A 12) (n 12) (b 12)], .slice A1 n1 b1, .bool true]) ∧
      Chg (fun _ => False) w w' ∧ (∀ j, j < 13 → SlotAt j w' (A j) (n j) (b j) (Y j)) ∧ (∀ j, j < 13 → Alike (F j) (Y j) ∧ (Y j).kN = 0) ∧ Own8 w' w.heap.size (.slice A1 n1 b1) lb := by
  have hput := put_len hF hm hd hl he hE
  have hpos : encs.length ≤ encs.flatten.length := flat_ge encs (fun j hj => enc_pos (kind8 (by omega) (hF.kind j (by omega))) (he j (by omega)))
  have e0 : (0 :: (dbs ++ enc)) ++ lb = (0 :: dbs) ++ enc ++ lb := by simp
  obtain ⟨k, hh, ha, hdr⟩ := head_of (pre := 0 :: dbs) (behind := lb) hE hpos (by omega)
  have hl3 : (0 :: dbs : List UInt8).length = 0 + 1 + dbs.length := by simp; omega
  have hlen : ((0 :: dbs) ++ enc ++ lb).length ≤ 140737488355328 := by
    rw [← e0, List.length_append]; omega
  rw [e0] at hs
  rw [hl3] at hh ha hdr
  refine (readProps (m := k) (K := encs.length) (encC := dbs) (fcOf F) encs rfl (by omega) hs hlen (⟨dbs ++ enc ++ lb, by simp⟩) hd (⟨enc ++ lb, by simp⟩) hh (by rw [show 0 + (1 + dbs.length + k) = 0 + 1 + dbs.length + k by omega]; exact ha) (fun q hq => ?_) (fun q hq => ?_) (fun q hq => ?_) (fun q ms hq => ?_) ?_).mono ?_
  · have hq13 : q < 13 := by omega
    unfold fcOf
    rw [if_pos hq13]
    exact pf_enc hq13 (hF.kind q hq13) (he q (by omega))
  · unfold fcOf
    split
    · rename_i h13
      have h0 := hnul q (by omega) h13
      unfold pfOf
      rw [if_pos h0]
    · rfl
  · unfold fcOf
    rw [if_pos hq]
    exact pf_ok hq (hF.kind q hq)
  · unfold fcOf at hq
    split at hq
    · exact pf_time hq
    · cases hq
  · have h1 : fcOf F 1 = pfOf 1 (F 1) := rfl
    rw [h1]
    have hfl := (hF.flat 1 (by decide)).len
    have hk := hF.kind 1 (by decide)
    have htl := toList_len (F 1).tx
    unfold pfOf
    rcases hk with hk | hk
    · rw [if_pos hk]; simp [binOf]
    · rw [if_neg (by rw [hk]; decide), if_neg (by rw [hk]; decide), if_neg (by rw [hk]; decide), if_pos rfl]
      simp only [binOf]
      omega
  · rintro e w' ⟨A, n, b, A1, n1, b1, rfl, hC, hR, hO⟩
    have hY : ∀ j, j < 13 → ∃ y, SlotAt j w' (A j) (n j) (b j) y ∧ Alike (F j) y ∧ y.kN = 0 := fun j hj =>
      slot_back hj (hF.kind j hj) (hF.canon j hj) (fun e1 => by subst e1; exact hF.bin) (show fcOf F j = pfOf j (F j) from if_pos hj) (hR j hj)
    refine ⟨A, n, b, A1, n1, b1, fun j => if h : j < 13 then Classical.choose (hY j h) else FV0, rfl, hC, fun j hj => ?_, fun j hj => ?_, ?_⟩
    · simp only [hj, dif_pos]
      exact (Classical.choose_spec (hY j hj)).1
    · simp only [hj, dif_pos]
      exact (Classical.choose_spec (hY j hj)).2
    · rw [show 0 + (1 + dbs.length + k) + encs.flatten.length = 0 + 1 + dbs.length + k + encs.flatten.length by omega, hdr] at hO
      exact hO
end Go.Proofs.S
namespace Go.Proofs.S
open Go.RowKit Go.Maps
/-- What is known of a field ahead of the check that it fits. -/
structure FieldOk (w : World) (j : Nat) (A : Option Addr) (n c : Nat) (x : FV) : Prop where
  slot : SlotAt j w A n c x
  kind : KindOk j x.kd
  ok : FVOk x
  tree : ∃ d, Tree w d x.kA x.kN
  n4 : x.kd = 4 → x.nm < 4294967296
  bin : j = 1 → x.kd = 18 → x.tx.data.toList ≠ []
  nul : x.kd = 0 → x.nm = 0 ∧ x.tx = ⟨#[]⟩
theorem FieldOk.none {w : World} {j : Nat} (hj : j < 13) {A : Option Addr} {n c : Nat} (h : SlotAt j w A n c FV0) : FieldOk w j A n c FV0 :=
  ⟨h, by rcases j13 hj with rfl | rfl | rfl | rfl | rfl | rfl | rfl | rfl | rfl | rfl | rfl | rfl | rfl <;> exact .inl rfl, ⟨.inl rfl, by decide, by decide, by decide⟩, ⟨0, rfl⟩, fun h => absurd h (by decide), fun _ h => absurd h (by decide), fun _ => ⟨rfl, rfl⟩⟩
theorem text_slot_of {w : World} {K : Int} {A : Option Addr} {n : Nat} (h : RowOf IsText w A n) (hn : n ≤ 1) : ∃ x, SlotText K w A n x ∧ (x = FV0 ∨ x.kd = K ∧ x.nm = 0 ∧ x.kN = 0 ∧ x.tx.size ≤ 9223372036854775807) := by
  obtain ⟨_, h⟩ := h
  rcases Nat.eq_zero_or_pos n with rfl | h0
  · exact ⟨FV0, .inl ⟨rfl, rfl⟩, .inl rfl⟩
  · obtain rfl : n = 1 := by omega
    rcases h with h | ⟨g, o, rfl, h⟩
    · omega
    obtain ⟨v, ⟨s, rfl, hs⟩, hc⟩ := h 0 (by decide)
    exact ⟨⟨K, 0, s, none, 0, 0, 0, none, 0⟩, .inr ⟨rfl, g, o, s, rfl, hc, rfl⟩, .inr ⟨rfl, rfl, rfl, hs⟩⟩
theorem i_slot_of {w : World} {A : Option Addr} {n : Nat} (h : RowOf IsI64 w A n) (hn : n ≤ 1) : ∃ x, SlotI w A n x ∧ (x = FV0 ∨ x.kd = 16 ∧ x.nm < U64 ∧ x.kN = 0 ∧ x.tx = ⟨#[]⟩) := by
  obtain ⟨_, h⟩ := h
  rcases Nat.eq_zero_or_pos n with rfl | h0
  · exact ⟨FV0, .inl ⟨rfl, rfl⟩, .inl rfl⟩
  · obtain rfl : n = 1 := by omega
    rcases h with h | ⟨g, o, rfl, h⟩
    · omega
    obtain ⟨v, ⟨z, rfl⟩, hc⟩ := h 0 (by decide)
    refine ⟨⟨16, (IntKind.u64.wrap z).toNat, ⟨#[]⟩, none, 0, 0, 0, none, 0⟩, .inr ⟨rfl, g, o, z, rfl, hc, rfl⟩, .inr ⟨rfl, ?_, rfl, rfl⟩⟩
    have := u64_range z
    unfold U64
    show (IntKind.u64.wrap z).toNat < 18446744073709551616
    omega
theorem u_slot_of {w : World} {A : Option Addr} {n : Nat} (h : RowOf IsU32 w A n) (hn : n ≤ 1) : ∃ x, SlotU w A n x ∧ (x = FV0 ∨ x.kd = 4 ∧ x.nm < 4294967296 ∧ x.kN = 0 ∧ x.tx = ⟨#[]⟩) := by
  obtain ⟨_, h⟩ := h
  rcases Nat.eq_zero_or_pos n with rfl | h0
  · exact ⟨FV0, .inl ⟨rfl, rfl⟩, .inl rfl⟩
  · obtain rfl : n = 1 := by omega
    rcases h with h | ⟨g, o, rfl, h⟩
    · omega
    obtain ⟨v, ⟨z, rfl, hz0, hz1⟩, hc⟩ := h 0 (by decide)
    refine ⟨⟨4, (IntKind.u64.wrap z).toNat, ⟨#[]⟩, none, 0, 0, 0, none, 0⟩, .inr ⟨rfl, g, o, z, rfl, hc, rfl⟩, .inr ⟨rfl, ?_, rfl, rfl⟩⟩
    show (IntKind.u64.wrap z).toNat < 4294967296
    have : IntKind.u64.wrap z = z := by simp [IntKind.wrap, IntKind.bits, IntKind.signed]; omega
    rw [this]
    omega
theorem text_ok {w : World} {j : Nat} {K : Int} {A : Option Addr} {n c : Nat} (hj : j < 13) (hs : ∀ x, SlotText K w A n x → SlotAt j w A n c x) (hk : KindOk j K) (hK : K = 19 ∨ K = 20) (hj1 : j ≠ 1) (h : RowOf IsText w A n) (hn : n ≤ 1) : ∃ x, FieldOk w j A n c x := by
  obtain ⟨x, h1, h2⟩ := text_slot_of (K := K) h hn
  rcases h2 with rfl | ⟨h2, h3, h4, h5⟩
  · exact ⟨FV0, FieldOk.none hj (hs _ h1)⟩
  · exact ⟨x, hs _ h1, by rw [h2]; exact hk, ⟨by rw [h2]; rcases hK with rfl | rfl <;> simp, by rw [h3]; decide, h5, by rw [h4]; decide⟩, ⟨0, h4⟩, fun h => by rcases hK with rfl | rfl <;> (rw [h2] at h; exact absurd h (by decide)), fun h => absurd h hj1, fun h => by rcases hK with rfl | rfl <;> (rw [h2] at h; exact absurd h (by decide))⟩
theorem id_ok {w : World} {j : Nat} {A : Option Addr} {n c : Nat} (hs : ∀ x, SlotAny w A n x → SlotAt j w A n c x) (hk : ∀ kd, kd = 0 ∨ kd = 5 ∨ kd = 17 ∨ kd = 18 ∨ kd = 19 → KindOk j kd) (hj1 : j ≠ 1) (h : IdFact w A n) : ∃ x, FieldOk w j A n c x := by
  obtain ⟨x, h1, h2, h3, h4, d', h5⟩ := h
  refine ⟨x, hs _ h1, hk _ ?_, ⟨?_, h3, h4, h5.le⟩, ⟨d', h5⟩, fun h => ?_, fun h => absurd h hj1, fun h => ?_⟩
  · rcases h2 with h2 | h2 | h2 | h2 | h2
    · exact .inl h2.1
    all_goals simp [h2]
  · rcases h2 with h2 | h2 | h2 | h2 | h2
    · exact .inl h2.1
    all_goals simp [h2]
  · rcases h2 with h2 | h2 | h2 | h2 | h2
    · rw [h2.1] at h; exact absurd h (by decide)
    all_goals (rw [h2] at h; exact absurd h (by decide))
  · rcases h2 with h2 | h2 | h2 | h2 | h2
    · rw [h2.2]; exact ⟨rfl, rfl⟩
    all_goals (rw [h2] at h; exact absurd h (by decide))
theorem bin_ok {w : World} {A : Option Addr} {n c : Nat} {l : List UInt8} (hl : l.length = n) (hb : Bs w (.slice A n c) l) (hn : n ≤ 9223372036854775807) : ∃ x, FieldOk w 1 A n c x := by
  rcases Nat.eq_zero_or_pos n with h0 | h0
  · exact ⟨FV0, FieldOk.none (by decide) ⟨l, hl, hb, .inl ⟨h0, rfl⟩⟩⟩
  · refine ⟨⟨18, 0, ⟨l.toArray⟩, none, 0, 0, 0, none, 0⟩, ⟨l, hl, hb, .inr ⟨h0, rfl⟩⟩, .inr rfl, ⟨by simp, show (0 : Nat) < U64 by decide, ?_, show (0 : Nat) ≤ 9223372036854775807 by decide⟩, ⟨0, rfl⟩, fun h => absurd (show (18 : Int) = 4 from h) (by decide), fun _ _ h => ?_, fun h => absurd (show (18 : Int) = 0 from h) (by decide)⟩
    · show (⟨l.toArray⟩ : ByteArray).size ≤ 9223372036854775807
      have : (⟨l.toArray⟩ : ByteArray).size = l.length := by simp [ByteArray.size]
      omega
    · have h' : l = [] := by simpa using h
      rw [h'] at hl
      simp at hl
      omega
/-- The fields that a message's properties become. -/
theorem fields_of {w : World} {A : Nat → Option Addr} {n c : Nat → Nat} {d : Nat} {l : List UInt8} (h : PropsIn w A n c d l) (ha : Asked w A n) (hn1 : n 1 ≤ 9223372036854775807) : ∃ F : Nat → FV, ∀ j, j < 13 → FieldOk w j (A j) (n j) (c j) (F j) := by
  have H : ∀ j, j < 13 → ∃ x, FieldOk w j (A j) (n j) (c j) x := by
    intro j hj
    rcases j13 hj with rfl | rfl | rfl | rfl | rfl | rfl | rfl | rfl | rfl | rfl | rfl | rfl | rfl
    · exact id_ok (fun _ h => h) (fun _ h => h) (by decide) ha.id0
    · exact bin_ok h.len1 h.bytes hn1
    · exact text_ok hj (fun _ h => h) (.inr rfl) (.inl rfl) (by decide) h.t2 ha.l2
    · exact text_ok hj (fun _ h => h) (.inr rfl) (.inl rfl) (by decide) h.t3 ha.l3
    · exact text_ok hj (fun _ h => h) (.inr rfl) (.inl rfl) (by decide) h.t4 ha.l4
    · exact id_ok (fun _ h => h) (fun _ h => h) (by decide) ha.id5
    · exact text_ok hj (fun _ h => h) (.inr rfl) (.inr rfl) (by decide) h.t6 ha.l6
    · exact text_ok hj (fun _ h => h) (.inr rfl) (.inr rfl) (by decide) h.t7 ha.l7
    · obtain ⟨x, h1, h2⟩ := i_slot_of h.i8 ha.l8
      rcases h2 with rfl | ⟨h2, h3, h4, h5⟩
      · exact ⟨FV0, FieldOk.none hj h1⟩
      · exact ⟨x, h1, .inr h2, ⟨by simp [h2], h3, by rw [h5]; decide, by rw [h4]; decide⟩, ⟨0, h4⟩, fun h => by rw [h2] at h; exact absurd h (by decide), fun h => absurd h (by decide), fun h => by rw [h2] at h; exact absurd h (by decide)⟩
    · obtain ⟨x, h1, h2⟩ := i_slot_of h.i9 ha.l9
      rcases h2 with rfl | ⟨h2, h3, h4, h5⟩
      · exact ⟨FV0, FieldOk.none hj h1⟩
      · exact ⟨x, h1, .inr h2, ⟨by simp [h2], h3, by rw [h5]; decide, by rw [h4]; decide⟩, ⟨0, h4⟩, fun h => by rw [h2] at h; exact absurd h (by decide), fun h => absurd h (by decide), fun h => by rw [h2] at h; exact absurd h (by decide)⟩
    · exact text_ok hj (fun _ h => h) (.inr rfl) (.inl rfl) (by decide) h.t10 ha.l10
    · obtain ⟨x, h1, h2⟩ := u_slot_of h.u11 ha.l11
      rcases h2 with rfl | ⟨h2, h3, h4, h5⟩
      · exact ⟨FV0, FieldOk.none hj h1⟩
      · exact ⟨x, h1, .inr h2, ⟨by simp [h2], by unfold U64; omega, by rw [h5]; decide, by rw [h4]; decide⟩, ⟨0, h4⟩, fun _ => h3, fun h => absurd h (by decide), fun h => by rw [h2] at h; exact absurd h (by decide)⟩
    · exact text_ok hj (fun _ h => h) (.inr rfl) (.inl rfl) (by decide) h.t12 ha.l12
  exact ⟨fun j => if h : j < 13 then Classical.choose (H j h) else FV0, fun j hj => by simp only [hj, dif_pos]; exact Classical.choose_spec (H j hj)⟩
theorem FieldOk.ext {w w' : World} {j : Nat} (hj : j < 13) {A : Option Addr} {n c : Nat} {x : FV} (h : FieldOk w j A n c x) (hc : Chg (fun _ => False) w w') : FieldOk w' j A n c x :=
  ⟨h.slot.ext hj hc, h.kind, h.ok, h.tree.elim fun d ht => ⟨d, Tree.ext hc _ _ _ ht⟩, h.n4, h.bin, h.nul⟩
/-- They fit. -/
theorem fields_fit {w : World} {A : Nat → Option Addr} {n c : Nat → Nat} {F : Nat → FV} (h : ∀ j, j < 13 → FieldOk w j (A j) (n j) (c j) (F j)) (hf : ∀ j, j < 13 → FitOk (F j).kd (F j).nm (F j).tx (F j).kN) : Fields F :=
  ⟨fun j hj => (h j hj).kind, fun j hj => ⟨(h j hj).nul, fun h17 => (hf j hj).2.2.2.1 (.inl h17), (hf j hj).2.2.2.2, (h j hj).ok.num⟩,
   fun j hj => ⟨(h j hj).ok.kind, (h j hj).ok.num, (h j hj).n4, by have := (hf j hj).2.1; omega, (hf j hj).2.2.1⟩, fun j hj => (hf j hj).1, (h 1 (by decide)).bin rfl⟩
/-- The sample's fields. -/
def FS : Nat → FV
  | 3 => ⟨19, 0, ⟨#[97]⟩, none, 0, 0, 0, none, 0⟩
  | _ => FV0
def AS (b : Nat) : Nat → Option Addr
  | 3 => some ⟨b, 0, none⟩
  | _ => none
def NS : Nat → Nat
  | 3 => 1
  | _ => 0
theorem FS_fields : Fields FS := by
  refine ⟨fun j hj => ?_, fun j hj => ?_, fun j hj => ?_, fun j hj => ?_, fun h => absurd h (by decide)⟩
  · rcases j13 hj with rfl | rfl | rfl | rfl | rfl | rfl | rfl | rfl | rfl | rfl | rfl | rfl | rfl <;> first | exact .inl rfl | exact .inr rfl
  · rcases j13 hj with rfl | rfl | rfl | rfl | rfl | rfl | rfl | rfl | rfl | rfl | rfl | rfl | rfl <;> exact ⟨by simp [FS, FV0], by simp [FS, FV0], by simp [FS, FV0], by simp [FS, FV0, U64]⟩
  · rcases j13 hj with rfl | rfl | rfl | rfl | rfl | rfl | rfl | rfl | rfl | rfl | rfl | rfl | rfl <;> exact ⟨by simp [FS, FV0], by simp [FS, FV0, U64], by simp [FS, FV0], by decide, by simp [FS, FV0]⟩
  · rcases j13 hj with rfl | rfl | rfl | rfl | rfl | rfl | rfl | rfl | rfl | rfl | rfl | rfl | rfl <;> rfl
/-- PropertiesOf of the sample. -/
theorem props_sample {b : Nat} {w : World} (h : w.cell? ⟨b, 0, none⟩ = some (.string ⟨#[97]⟩)) :
    Calls Tryz.prog 8 #[.agg #[.slice none 0 0, .slice none 0 0, .slice none 0 0, .slice (some ⟨b, 0, none⟩) 1 1, .slice none 0 0, .slice none 0 0, .slice none 0 0, .slice none 0 0, .slice none 0 0, .slice none 0 0, .slice none 0 0, .slice none 0 0, .slice none 0 0]] w fun e w' => ∃ g, e = .returned (.agg #[.int .u64 115, .slice (some ⟨g, 0, none⟩) 13 13]) ∧ w.heap.size ≤ g ∧ (∀ j, j < 13 → FVAt w' g (j * 12) (FS j) ∧ FVAt w' g (j * 12 + 6) FV0) ∧ Chg (fun _ => False) w w' :=
  props_of (A := AS b) (n := NS) (b := NS) (F := FS) (fun j hj => by
    rcases j13 hj with rfl | rfl | rfl | rfl | rfl | rfl | rfl | rfl | rfl | rfl | rfl | rfl | rfl
    · exact .inl ⟨rfl, rfl⟩
    · exact ⟨[], rfl, ⟨none, 0, rfl, Nat.le_refl _, fun h => absurd rfl h⟩, .inl ⟨rfl, rfl⟩⟩
    · exact .inl ⟨rfl, rfl⟩
    · exact .inr ⟨rfl, b, 0, ⟨#[97]⟩, rfl, h, rfl⟩
    all_goals exact .inl ⟨rfl, rfl⟩)
set_option maxHeartbeats 4000000 in
set_option maxRecDepth 1000000 in
/-- left, at equal bytes. -/
theorem left_calls {w : World} {A A' : Option Addr} {n n' c c' : Nat} {l : List UInt8} (h1 : Bs w (.slice A n c) l) (h2 : Bs w (.slice A' n' c') l) : Calls Tryz.prog 13 #[.slice A n c, .slice A' n' c'] w fun e w' => e = .returned (.bool true) ∧ w' = w := by
  have e1 := conv_bs h1
  have e2 := conv_bs h2
  clear h1 h2
  generalize (⟨l.toArray⟩ : ByteArray) = s at e1 e2
  go_enter Tryz.func13, Tryz.ntmps13
  go_wp2_with fail
  go_ret
  exact ⟨rfl, rfl⟩
end Go.Proofs.S
