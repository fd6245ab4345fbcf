/- The general reader of a struct, and what each field of the properties reads as: for a reader that holds the bytes of the fields. -/
import Derived.Test.YtoilepadamfacaaGreatDoorB14
import Derived.Deep.RegionHeld3
set_option linter.unusedVariables false
set_option linter.unusedSimpArgs false
namespace Go.Proofs.S
open Go.RowKit
theorem new_string (p : Addr) (w : World) : Calls Tryz.prog 60 #[.pointer (some p)] w fun e w' => e = .returned (.iface 181 (.agg #[.pointer (some p)])) ∧ w' = w := by
  go_enter Tryz.func60, Tryz.ntmps60
  go_wp2
  go_ret
  exact ⟨rfl, rfl⟩
theorem new_time (p : Addr) (w : World) : Calls Tryz.prog 61 #[.pointer (some p)] w fun e w' => e = .returned (.iface 183 (.agg #[.pointer (some p)])) ∧ w' = w := by
  go_enter Tryz.func61, Tryz.ntmps61
  go_wp2
  go_ret
  exact ⟨rfl, rfl⟩
end Go.Proofs.S
namespace Go.Proofs.S
open Go.RowKit
/-- The state when k fields have been gone through. -/
structure FieldsAt (w : World) (r d n c x N K : Nat) (t : TypeId) (bs : List UInt8) (pos off : Nat → Nat) (init : Nat → Value) (W : Nat → World → Value → Prop) (sz k : Nat) (w' : World) : Prop where
  buf : Buf w' r d n c (pos (min k K)) bs
  chg : Chg (fun b => b = r ∨ b = x) w w'
  cells : ∃ cs, w'.heap[x]? = some (.cells cs t (0, 0)) ∧ cs.size = sz ∧ ∀ j, j < N → ∃ v, cs[off j]? = some v ∧ (j < k → W j w' v) ∧ (k ≤ j → v = init j)

theorem FieldsAt.ext {w w' w'' : World} {r d n c x N K : Nat} {t : TypeId} {bs : List UInt8} {pos off : Nat → Nat} {init : Nat → Value} {W : Nat → World → Value → Prop} {sz k : Nat} (h : FieldsAt w r d n c x N K t bs pos off init W sz k w')
    (hst : ∀ j w1 w2 v, W j w1 v → Chg (fun b => b < w.heap.size) w1 w2 → W j w2 v) (hc : Chg (fun _ => False) w' w'') : FieldsAt w r d n c x N K t bs pos off init W sz k w'' := by
  obtain ⟨cs, hx, hs, hj⟩ := h.cells
  refine ⟨h.buf.ext hc, h.chg.reads hc.any, cs, hc.blk hx (fun h => h), hs, fun j hN => ?_⟩
  obtain ⟨v, h1, h2, h3⟩ := hj j hN
  exact ⟨v, h1, fun hlt => hst j _ _ _ (h2 hlt) hc.any, h3⟩

/-- One field more. -/
theorem FieldsAt.next {w w' w'' : World} {r d n c x N K : Nat} {t : TypeId} {bs : List UInt8} {pos off : Nat → Nat} {init : Nat → Value} {W : Nat → World → Value → Prop} {sz k : Nat} (h : FieldsAt w r d n c x N K t bs pos off init W sz k w')
    (hst : ∀ j w1 w2 v, W j w1 v → Chg (fun b => b < w.heap.size) w1 w2 → W j w2 v) (hinj : ∀ i j, i < N → j < N → off i = off j → i = j) (hx0 : x < w.heap.size) (hr0 : r < w.heap.size) (hk : k < N)
    (hB : Buf w'' r d n c (pos (min (k + 1) K)) bs) (hc : Chg (fun b => b = r ∨ b = x) w' w'') {cs : Array Value} (hcs : w'.heap[x]? = some (.cells cs t (0, 0))) {v : Value} (hb : w''.heap[x]? = some (.cells (cs.setIfInBounds (off k) v) t (0, 0))) (hW : W k w'' v) :
    FieldsAt w r d n c x N K t bs pos off init W sz (k + 1) w'' := by
  obtain ⟨cs', hx, hs, hj⟩ := h.cells
  rw [hcs] at hx
  injection hx with hx
  injection hx with hx _ _
  subst hx
  have hcl : Chg (fun b => b < w.heap.size) w' w'' := hc.mono (fun b hb => by rcases hb with rfl | rfl <;> assumption)
  refine ⟨hB, h.chg.reads hc, _, hb, by simpa using hs, fun j hN => ?_⟩
  obtain ⟨u, h1, h2, h3⟩ := hj j hN
  by_cases hjk : j = k
  · subst hjk
    have hsz : off j < cs.size := (Array.getElem?_eq_some_iff.1 h1).1
    exact ⟨v, by simp [hsz], fun _ => hW, fun h => by omega⟩
  · refine ⟨u, ?_, fun hlt => hst j _ _ _ (h2 (by omega)) hcl, fun h => h3 (by omega)⟩
    rw [Array.getElem?_setIfInBounds_ne (fun e => hjk (hinj _ _ hk hN e).symm)]
    exact h1

set_option maxHeartbeats 1000000 in
theorem unmarshalStruct {w : World} {r d n c i fb fo fcap K N m code x : Nat} {t : TypeId} {cs0 : Array Value} {bs enc : List UInt8} (ft : Nat → TypeId) (fv H : Nat → Value) (hH : ∀ k, H k = .nilFunc ∨ ∃ f cap, H k = .func (.func f) #[] cap)
    (pos off : Nat → Nat) (init : Nat → Value) (W : Nat → World → Value → Prop) (nul : Nat → Bool)
    (h : Buf w r d n c i bs) (hi0 : At bs i [0]) (hu : EncUlong code enc) (hue : At bs (i + 1) enc) (hl : LHead bs n (i + 1 + enc.length) K m) (hcode : code < 256) (hKN : K ≤ N) (hN : N ≤ fcap) (hN2 : fcap ≤ 1000)
    (hp0 : pos 0 = i + (1 + enc.length + m)) (hx : w.heap[x]? = some (.cells cs0 t (0, 0))) (hinit : ∀ j, j < N → cs0[off j]? = some (init j)) (hinj : ∀ i j, i < N → j < N → off i = off j → i = j) (hxr : x ≠ r) (hxd : x ≠ d)
    (hfld : ∀ j, j < N → w.cell? ⟨fb, fo + j * 2, none⟩ = some (.iface (ft j) (fv j)) ∧ w.cell? ⟨fb, fo + j * 2 + 1, none⟩ = some (H j)) (hfr : fb ≠ r) (hfx : fb ≠ x)
    (hst : ∀ j w1 w2 v, W j w1 v → Chg (fun b => b < w.heap.size) w1 w2 → W j w2 v)
    (posN : ∀ k, k < K → nul k = true → At bs (pos k) [0x40] ∧ pos (k + 1) = pos k + 1)
    (hnul : ∀ j, j < N → (j < K → nul j = true) → ∀ w' cs' p, Buf w' r d n c p bs → w.heap.size ≤ w'.heap.size → w'.heap[x]? = some (.cells cs' t (0, 0)) → cs'[off j]? = some (init j) → cs'.size = cs0.size →
      HandlerOk Tryz.prog (H j) w' (fun w'' => Chg (fun b => b = x) w' w'' ∧ ∃ v, w''.heap[x]? = some (.cells (cs'.setIfInBounds (off j) v) t (0, 0)) ∧ W j w'' v))
    (posV : ∀ k, k < K → nul k = false → ∃ (y : UInt8) (mk : Nat), At bs (pos k) [y] ∧ ((y.toNat : Int) == 64) = false ∧ pos (k + 1) = pos k + mk ∧
      ∀ w' cs', Buf w' r d n c (pos k) bs → Chg (fun b => b = r ∨ b = x) w w' → w'.heap[x]? = some (.cells cs' t (0, 0)) → cs'[off k]? = some (init k) → cs'.size = cs0.size →
        Calls Tryz.prog 84 #[.pointer (some ⟨r, 0, none⟩), .iface (ft k) (fv k)] w' (UnmC w' r d n c (pos k) mk bs x (off k) cs' t (W k))) :
    Calls Tryz.prog 59 #[.pointer (some ⟨r, 0, none⟩), .int .u8 (code : Int), .slice (some ⟨fb, fo, none⟩) N fcap] w
      (fun e w' => e = .returned .nilIface ∧ FieldsAt w r d n c x N K t bs pos off init W cs0.size N w') := by
  have hxs : x < w.heap.size := (Array.getElem?_eq_some_iff.1 hx).1
  have hrs := h.rlt
  -- what a handler leaves
  have hand : ∀ k, k < N → (k < K → nul k = true) → ∀ w1 w2, FieldsAt w r d n c x N K t bs pos off init W cs0.size k w1 → Buf w2 r d n c (pos (min (k + 1) K)) bs → Chg (· = r) w1 w2 → HandlerOk Tryz.prog (H k) w2 (FieldsAt w r d n c x N K t bs pos off init W cs0.size (k + 1)) := by
    intro k hk hn w1 w2 hJ hB2 hC2
    obtain ⟨cs, hxc, hs, hj⟩ := hJ.cells
    obtain ⟨v, h1, h2, h3⟩ := hj k hk
    have hx2 := hC2.blk hxc hxr
    have hsz2 : w.heap.size ≤ w2.heap.size := Nat.le_trans hJ.chg.size hC2.size
    have fin : ∀ w3, Chg (fun b => b = x) w2 w3 ∧ (∃ v, w3.heap[x]? = some (.cells (cs.setIfInBounds (off k) v) t (0, 0)) ∧ W k w3 v) → FieldsAt w r d n c x N K t bs pos off init W cs0.size (k + 1) w3 := by
      rintro w3 ⟨hC3, v3, hb3, hW3⟩
      exact hJ.next hst hinj hxs hrs hk (hB2.chg hC3 (fun e => hxr e.symm) (fun e => hxd e.symm)) ((hC2.mono (fun _ h => .inl h)).reads (hC3.mono (fun _ h => .inr h))) hxc hb3 hW3
    rcases hnul k hk hn w2 cs _ hB2 hsz2 hx2 (by rw [h1, h3 (Nat.le_refl _)]) hs with ⟨hH, hp⟩ | ⟨f, cap, hH, hcf, hcl⟩
    · exact .inl ⟨hH, fin _ hp⟩
    · exact .inr ⟨f, cap, hH, hcf, hcl.mono (fun e w3 ⟨he, hp⟩ => ⟨he, fin _ hp⟩)⟩
  refine (unmarshalComposite ft fv H hH pos (FieldsAt w r d n c x N K t bs pos off init W cs0.size) h hi0 hu hue hl hcode hKN hN hN2 ?_ ?_ ?_ ?_ nul ?_ ?_ ?_)
  · intro w' hB hC
    refine ⟨by simp only [Nat.zero_min]; rw [hp0]; exact hB, hC.mono (fun _ h => .inl h), cs0, hC.blk hx hxr, rfl, fun j hj => ⟨_, hinit j hj, fun h => absurd h (Nat.not_lt_zero _), fun _ => rfl⟩⟩
  · intro k w' hk hJ
    have := hJ.buf
    rwa [Nat.min_eq_left hk] at this
  · intro k w' hk hJ j hj
    obtain ⟨h1, h2⟩ := hfld j hj
    exact ⟨hJ.chg.cell h1 (by rintro (e | e); exact hfr e; exact hfx e), hJ.chg.cell h2 (by rintro (e | e); exact hfr e; exact hfx e)⟩
  · intro k w' w'' hJ hC
    exact hJ.ext hst hC
  · intro k hk hn
    obtain ⟨ha, hp⟩ := posN k hk hn
    refine ⟨ha, fun w' w'' hJ hB hC => hand k (by omega) (fun _ => hn) w' w'' hJ ?_ hC⟩
    rw [Nat.min_eq_left (by omega), hp]
    exact hB
  · intro k hk hn
    obtain ⟨y, mk, ha, hy, hp, hcall⟩ := posV k hk hn
    refine ⟨y, ha, hy, fun w' hJ => ?_⟩
    obtain ⟨cs, hxc, hs, hj⟩ := hJ.cells
    obtain ⟨v, h1, h2, h3⟩ := hj k (by omega)
    have hB := hJ.buf
    rw [Nat.min_eq_left (by omega)] at hB
    refine (hcall w' cs hB hJ.chg hxc (by rw [h1, h3 (Nat.le_refl _)]) hs).mono ?_
    rintro e w'' ⟨he, hB2, hC2, u, hb, hW⟩
    refine ⟨he, hJ.next hst hinj hxs hrs (by omega) ?_ hC2 hxc hb hW⟩
    rw [Nat.min_eq_left (by omega), hp]
    exact hB2
  · intro k w' hk hkN hJ
    refine hand k hkN (fun h => by omega) w' w' hJ ?_ (Chg.refl _ _)
    have := hJ.buf
    rwa [Nat.min_eq_right (by omega)] at this ⊢
end Go.Proofs.S
namespace Go.Proofs.S
open Go.RowKit
/-- The forms of a text (string or symbol). -/
inductive TextEnc (s : List UInt8) : List UInt8 → Prop
  | short (code b : UInt8) (hc : code = 0xa1 ∨ code = 0xa3) (hb : s.length = b.toNat) : TextEnc s (code :: b :: s)
  | long (code b0 b1 b2 b3 : UInt8) (hc : code = 0xb1 ∨ code = 0xb3) (hb : s.length = Lib.beNat [b0, b1, b2, b3]) : TextEnc s (code :: b0 :: b1 :: b2 :: b3 :: s)
inductive BinEnc (s : List UInt8) : List UInt8 → Prop
  | short (b : UInt8) (hb : s.length = b.toNat) : BinEnc s (0xa0 :: b :: s)
  | long (b0 b1 b2 b3 : UInt8) (hb : s.length = Lib.beNat [b0, b1, b2, b3]) : BinEnc s (0xb0 :: b0 :: b1 :: b2 :: b3 :: s)
inductive TimeEnc : Int → List UInt8 → Prop
  | mk (b0 b1 b2 b3 b4 b5 b6 b7 : UInt8) : TimeEnc (wrap64 (Lib.beNat [b0, b1, b2, b3, b4, b5, b6, b7])) [0x83, b0, b1, b2, b3, b4, b5, b6, b7]
inductive UuidEnc (l : List UInt8) : List UInt8 → Prop
  | mk (h : l.length = 16) : UuidEnc l (0x98 :: l)
theorem TextEnc.head {s enc : List UInt8} (h : TextEnc s enc) : ∃ y l, enc = y :: l ∧ ((y.toNat : Int) == 64) = false := by
  cases h with
  | short code b hc hb => exact ⟨_, _, rfl, by rcases hc with rfl | rfl <;> decide⟩
  | long code b0 b1 b2 b3 hc hb => exact ⟨_, _, rfl, by rcases hc with rfl | rfl <;> decide⟩
theorem BinEnc.head {s enc : List UInt8} (h : BinEnc s enc) : ∃ y l, enc = y :: l ∧ ((y.toNat : Int) == 64) = false := by
  cases h <;> exact ⟨_, _, rfl, by decide⟩
theorem TimeEnc.head {s : Int} {enc : List UInt8} (h : TimeEnc s enc) : ∃ y l, enc = y :: l ∧ ((y.toNat : Int) == 64) = false := by
  cases h; exact ⟨_, _, rfl, by decide⟩
theorem UuidEnc.head {s enc : List UInt8} (h : UuidEnc s enc) : ∃ y l, enc = y :: l ∧ ((y.toNat : Int) == 64) = false := by
  cases h; exact ⟨_, _, rfl, by decide⟩
theorem EncUlong.head {k : Nat} {enc : List UInt8} (h : EncUlong k enc) : ∃ y l, enc = y :: l ∧ ((y.toNat : Int) == 64) = false := by
  cases h <;> exact ⟨_, _, rfl, by decide⟩
theorem EncUint.head {k : Nat} {enc : List UInt8} (h : EncUint k enc) : ∃ y l, enc = y :: l ∧ ((y.toNat : Int) == 64) = false := by
  cases h <;> exact ⟨_, _, rfl, by decide⟩
section
variable {w : World} {r d n c i : Nat} {bs s enc : List UInt8}
theorem readString (h : Buf w r d n c i bs) (he : TextEnc s enc) (hi : At bs i enc) :
    Calls Tryz.prog 145 #[.pointer (some ⟨r, 0, none⟩)] w (Reads w r d n c i enc.length bs (.tuple #[.string ⟨s.toArray⟩, .nilIface])) := by
  cases he with
  | short code b hc hb =>
    have e : (code :: b :: s).length = 2 + s.length := by simp; omega
    rw [e]
    rcases hc with rfl | rfl
    · exact readString_a1 h hi hb
    · exact readString_a3 h hi hb
  | long code b0 b1 b2 b3 hc hb =>
    have e : (code :: b0 :: b1 :: b2 :: b3 :: s).length = 5 + s.length := by simp; omega
    rw [e]
    rcases hc with rfl | rfl
    · exact readString_b1 h hi hb
    · exact readString_b3 h hi hb
theorem readBinary (h : Buf w r d n c i bs) (he : BinEnc s enc) (hi : At bs i enc) (hbig : n ≤ 140737488355328) :
    Calls Tryz.prog 146 #[.pointer (some ⟨r, 0, none⟩)] w (ReadsBin w r d n c i enc.length bs s) := by
  rcases Nat.eq_zero_or_pos s.length with h0 | h0
  · obtain rfl := List.eq_nil_of_length_eq_zero h0
    cases he with
    | short b hb => exact readBinary_a0_empty h hi hb hbig
    | long b0 b1 b2 b3 hb => exact readBinary_b0_empty h hi hb hbig
  · cases he with
    | short b hb =>
      have e : (0xa0 :: b :: s).length = 2 + s.length := by simp; omega
      rw [e]
      exact readBinary_a0_some h hi hb h0 hbig
    | long b0 b1 b2 b3 hb =>
      have e : (0xb0 :: b0 :: b1 :: b2 :: b3 :: s).length = 5 + s.length := by simp; omega
      rw [e]
      exact readBinary_b0_some h hi hb h0 hbig
theorem readTime {ms : Int} (h : Buf w r d n c i bs) (he : TimeEnc ms enc) (hi : At bs i enc) :
    Calls Tryz.prog 148 #[.pointer (some ⟨r, 0, none⟩)] w (Reads w r d n c i enc.length bs (.tuple #[timeV ms, .nilIface])) := by
  cases he
  exact readTimestamp h hi
/-- What identifies a message. -/
inductive IdV where
  | ulong (k : Nat)
  | uuid (l : List UInt8)
  | bin (l : List UInt8)
  | text (l : List UInt8)
inductive IdEnc : IdV → List UInt8 → Prop
  | ulong {k enc} (h : EncUlong k enc) : IdEnc (.ulong k) enc
  | uuid {l enc} (h : UuidEnc l enc) : IdEnc (.uuid l) enc
  | bin {l enc} (h : BinEnc l enc) : IdEnc (.bin l) enc
  | text {l enc} (h : TextEnc l enc) : IdEnc (.text l) enc
/-- Such a value as the package has it. -/
def IdAt (base : Nat) : IdV → World → Value → Prop
  | .ulong k, _, v => v = .iface 29 (.int .u64 (k : Int))
  | .uuid l, _, v => l.length = 16 ∧ v = .iface 192 (uuidV l)
  | .bin l, w', v => ∃ s, v = .iface 23 s ∧ Own8 w' base s l
  | .text l, _, v => v = .iface 9 (.string ⟨l.toArray⟩)
theorem IdEnc.head {k : IdV} {enc : List UInt8} (h : IdEnc k enc) : ∃ y l, enc = y :: l ∧ ((y.toNat : Int) == 64) = false := by
  cases h with
  | ulong h => exact h.head
  | uuid h => exact h.head
  | bin h => exact h.head
  | text h => exact h.head
theorem list16 {α : Type} (l : List α) (h : l.length = 16) : ∃ a0 a1 a2 a3 a4 a5 a6 a7 a8 a9 a10 a11 a12 a13 a14 a15, l = [a0, a1, a2, a3, a4, a5, a6, a7, a8, a9, a10, a11, a12, a13, a14, a15] := by
  match l, h with
  | [a0, a1, a2, a3, a4, a5, a6, a7, a8, a9, a10, a11, a12, a13, a14, a15], _ => exact ⟨_, _, _, _, _, _, _, _, _, _, _, _, _, _, _, _, rfl⟩
theorem readAnyId {k : IdV} (h : Buf w r d n c i bs) (he : IdEnc k enc) (hi : At bs i enc) (hbig : n ≤ 140737488355328) :
    Calls Tryz.prog 170 #[.pointer (some ⟨r, 0, none⟩)] w (ReadsAny w r d n c i enc.length bs (IdAt w.heap.size k)) := by
  cases he with
  | ulong he =>
    cases he with
    | zero => exact readAny_ulong0 h hi
    | small b => exact readAny_ulong1 h hi
    | full b0 b1 b2 b3 b4 b5 b6 b7 => exact readAny_ulong8 h hi
  | uuid he =>
    cases he with
    | mk hl =>
      obtain ⟨a0, a1, a2, a3, a4, a5, a6, a7, a8, a9, a10, a11, a12, a13, a14, a15, rfl⟩ := list16 _ hl
      refine (readAny_uuid h hi).mono ?_
      rintro e w' ⟨v, he, hv, hB, hC⟩
      exact ⟨v, he, ⟨rfl, hv⟩, hB, hC⟩
  | bin he =>
    rename_i s
    rcases Nat.eq_zero_or_pos s.length with h0 | h0
    · obtain rfl := List.eq_nil_of_length_eq_zero h0
      cases he with
      | short b hb => exact readAny_bin_a0e h hi hb hbig
      | long b0 b1 b2 b3 hb => exact readAny_bin_b0e h hi hb hbig
    · cases he with
      | short b hb =>
        have e : (0xa0 :: b :: s).length = 2 + s.length := by simp; omega
        rw [e]
        exact readAny_bin_a0 h hi hb h0 hbig
      | long b0 b1 b2 b3 hb =>
        have e : (0xb0 :: b0 :: b1 :: b2 :: b3 :: s).length = 5 + s.length := by simp; omega
        rw [e]
        exact readAny_bin_b0 h hi hb h0 hbig
  | text he =>
    rename_i s
    cases he with
    | short code b hc hb =>
      have e : (code :: b :: s).length = 2 + s.length := by simp; omega
      rw [e]
      rcases hc with rfl | rfl
      · exact readAny_text_a1 h hi hb
      · exact readAny_text_a3 h hi hb
    | long code b0 b1 b2 b3 hc hb =>
      have e : (code :: b0 :: b1 :: b2 :: b3 :: s).length = 5 + s.length := by simp; omega
      rw [e]
      rcases hc with rfl | rfl
      · exact readAny_text_b1 h hi hb
      · exact readAny_text_b3 h hi hb
end
end Go.Proofs.S
namespace Go.Proofs.S
open Go.RowKit
/-- What a field of a message's properties holds. -/
inductive PF where
  | nul
  | id (k : IdV)
  | bin (l : List UInt8)
  | text (l : List UInt8)
  | time (ms : Int)
  | u32 (q : Nat)
inductive PEnc : PF → List UInt8 → Prop
  | nul : PEnc .nul [0x40]
  | id {k enc} (h : IdEnc k enc) : PEnc (.id k) enc
  | bin {l enc} (h : BinEnc l enc) : PEnc (.bin l) enc
  | text {l enc} (h : TextEnc l enc) : PEnc (.text l) enc
  | time {ms enc} (h : TimeEnc ms enc) : PEnc (.time ms) enc
  | u32 {q enc} (h : EncUint q enc) : PEnc (.u32 q) enc
def PFOk : Nat → PF → Prop
  | _, .nul => True
  | 0, .id _ => True
  | 1, .bin _ => True
  | 2, .text _ => True
  | 3, .text _ => True
  | 4, .text _ => True
  | 5, .id _ => True
  | 6, .text _ => True
  | 7, .text _ => True
  | 8, .time _ => True
  | 9, .time _ => True
  | 10, .text _ => True
  | 11, .u32 _ => True
  | 12, .text _ => True
  | _, _ => False
def pinit : Nat → Value
  | 0 => .nilIface
  | 1 => .slice none 0 0
  | 5 => .nilIface
  | _ => .pointer none
def pft : Nat → TypeId
  | 0 => 132
  | 1 => 63
  | 5 => 132
  | 8 => 183
  | 9 => 183
  | 11 => 143
  | _ => 181
def pfv (x : Nat) : Nat → Value
  | 0 => .pointer (some ⟨x, 0, none⟩)
  | 1 => .pointer (some ⟨x, 1, none⟩)
  | 5 => .pointer (some ⟨x, 5, none⟩)
  | 11 => .pointer (some ⟨x, 11, none⟩)
  | j => .agg #[.pointer (some ⟨x, j, none⟩)]
/-- The field's cell. -/
def PAt (base : Nat) (j : Nat) : PF → World → Value → Prop
  | .nul, _, v => v = pinit j
  | .id k, w', v => IdAt base k w' v
  | .bin l, w', v => Own8 w' base v l
  | .text l, w', v => NewVar base 9 #[.string ⟨l.toArray⟩] w' v
  | .time ms, w', v => NewVar base 141 #[.int .i64 (ms / 1000), .int .i64 (ms % 1000 * 1000000)] w' v
  | .u32 q, w', v => NewVar base 45 #[.int .u32 (q : Int)] w' v
theorem NewVar.mono {base base' : Nat} {t : TypeId} {cs : Array Value} {w1 w2 : World} {v : Value} (h : NewVar base t cs w1 v) (hb : base' ≤ base) (hc : Chg (fun b => b < base) w1 w2) : NewVar base' t cs w2 v := by
  obtain ⟨g, rfl, hg, hh⟩ := h
  exact ⟨g, rfl, Nat.le_trans hb hg, hc.blk hh (by omega)⟩
theorem IdAt.mono {base base' : Nat} {k : IdV} {w1 w2 : World} {v : Value} (h : IdAt base k w1 v) (hb : base' ≤ base) (hc : Chg (fun b => b < base) w1 w2) : IdAt base' k w2 v := by
  cases k with
  | ulong k => exact h
  | uuid l => exact h
  | bin l =>
    obtain ⟨s, rfl, hs⟩ := h
    exact ⟨s, rfl, (hs.chg hc (fun k hk => hk)).base_le hb⟩
  | text l => exact h
theorem PAt.mono {base base' j : Nat} {f : PF} {w1 w2 : World} {v : Value} (h : PAt base j f w1 v) (hb : base' ≤ base) (hc : Chg (fun b => b < base) w1 w2) : PAt base' j f w2 v := by
  cases f with
  | nul => exact h
  | id k => exact IdAt.mono h hb hc
  | bin l => exact (Own8.chg h hc (fun k hk => hk)).base_le hb
  | text l => exact NewVar.mono h hb hc
  | time ms => exact NewVar.mono h hb hc
  | u32 q => exact NewVar.mono h hb hc
theorem PEnc.head {f : PF} {enc : List UInt8} (h : PEnc f enc) (hn : f ≠ .nul) : ∃ y l, enc = y :: l ∧ ((y.toNat : Int) == 64) = false := by
  cases h with
  | nul => exact absurd rfl hn
  | id h => exact h.head
  | bin h => exact h.head
  | text h => exact h.head
  | time h => exact h.head
  | u32 h => exact h.head
theorem UnmC.drewN {w : World} {r d n c i m k : Nat} {bs : List UInt8} {x o : Nat} {cs : Array Value} {t : TypeId} {V : World → Value → Prop} {e : Ending} {w' : World} (h : UnmC (w.drewN k) r d n c i m bs x o cs t V e w') : UnmC w r d n c i m bs x o cs t V e w' := by
  obtain ⟨h1, h2, h3, h4⟩ := h
  exact ⟨h1, h2, ((Chg.refl _ w).drewN k).reads h3, h4⟩
section
variable {w : World} {r d n c p : Nat} {bs enc : List UInt8} {x o : Nat} {cs : Array Value} {t : TypeId}
theorem call_pstring {s : List UInt8} (h : Buf w r d n c p bs) (he : TextEnc s enc) (hi : At bs p enc) (hx : w.heap[x]? = some (.cells cs t (0, 0))) (hxr : x ≠ r) (hxd : x ≠ d) (ho : cs[o]? = some (.pointer none)) (hd : d < w.heap.size) :
    Calls Tryz.prog 84 #[.pointer (some ⟨r, 0, none⟩), .iface 181 (.agg #[.pointer (some ⟨x, o, none⟩)])] w (UnmC w r d n c p enc.length bs x o cs t (NewVar w.heap.size 9 #[.string ⟨s.toArray⟩])) := by
  obtain ⟨y, l, hyl, hy⟩ := he.head
  have hi' : At bs p [y] := by rw [hyl] at hi; exact hi.cut
  refine unm_pstring h hi' hy ⟨x, o, none⟩ (fun e w' hr => hr.1) (fun k => ?_)
  refine (ptr_string (h.drewN k) hi' hy (w := w.drewN k) hx hxr hxd ho hd (fun w' hB => readString hB he hi)).mono ?_
  intro e w' hr
  exact UnmC.drewN hr
theorem call_ptime {ms : Int} (h : Buf w r d n c p bs) (he : TimeEnc ms enc) (hi : At bs p enc) (hx : w.heap[x]? = some (.cells cs t (0, 0))) (hxr : x ≠ r) (hxd : x ≠ d) (ho : cs[o]? = some (.pointer none)) (hd : d < w.heap.size) :
    Calls Tryz.prog 84 #[.pointer (some ⟨r, 0, none⟩), .iface 183 (.agg #[.pointer (some ⟨x, o, none⟩)])] w (UnmC w r d n c p enc.length bs x o cs t (NewVar w.heap.size 141 #[.int .i64 (ms / 1000), .int .i64 (ms % 1000 * 1000000)])) := by
  obtain ⟨y, l, hyl, hy⟩ := he.head
  have hi' : At bs p [y] := by rw [hyl] at hi; exact hi.cut
  refine unm_ptime h hi' hy ⟨x, o, none⟩ (fun e w' hr => hr.1) (fun k => ?_)
  refine (ptr_time (h.drewN k) hi' hy (w := w.drewN k) hx hxr hxd ho hd (fun w' hB => readTime hB he hi)).mono ?_
  intro e w' hr
  exact UnmC.drewN hr
theorem call_u32p {q : Nat} (h : Buf w r d n c p bs) (he : EncUint q enc) (hi : At bs p enc) (hx : w.heap[x]? = some (.cells cs t (0, 0))) (hxr : x ≠ r) (hxd : x ≠ d) (ho : o < cs.size) :
    Calls Tryz.prog 84 #[.pointer (some ⟨r, 0, none⟩), .iface 143 (.pointer (some ⟨x, o, none⟩))] w (UnmC w r d n c p enc.length bs x o cs t (NewVar w.heap.size 45 #[.int .u32 (q : Int)])) := by
  obtain ⟨y, l, hyl, hy⟩ := he.head
  have hi' : At bs p [y] := by rw [hyl] at hi; exact hi.cut
  exact unm_u32p h hi' hy hx hxr hxd ho (fun k => readUint32 (h.drewN k) he hi)
theorem call_bytes {s : List UInt8} (h : Buf w r d n c p bs) (he : BinEnc s enc) (hi : At bs p enc) (hx : w.heap[x]? = some (.cells cs t (0, 0))) (hxr : x ≠ r) (hxd : x ≠ d) (ho : o < cs.size) (hbig : n ≤ 140737488355328) :
    Calls Tryz.prog 84 #[.pointer (some ⟨r, 0, none⟩), .iface 63 (.pointer (some ⟨x, o, none⟩))] w (UnmC w r d n c p enc.length bs x o cs t (fun w' v => Own8 w' w.heap.size v s)) := by
  obtain ⟨y, l, hyl, hy⟩ := he.head
  have hi' : At bs p [y] := by rw [hyl] at hi; exact hi.cut
  exact unm_bytes h hi' hy hx hxr hxd ho (fun k => readBinary (h.drewN k) he hi hbig)
theorem call_id {k0 : IdV} (h : Buf w r d n c p bs) (he : IdEnc k0 enc) (hi : At bs p enc) (hx : w.heap[x]? = some (.cells cs t (0, 0))) (hxr : x ≠ r) (hxd : x ≠ d) (ho : o < cs.size) (hbig : n ≤ 140737488355328) :
    Calls Tryz.prog 84 #[.pointer (some ⟨r, 0, none⟩), .iface 132 (.pointer (some ⟨x, o, none⟩))] w (UnmC w r d n c p enc.length bs x o cs t (IdAt w.heap.size k0)) := by
  obtain ⟨y, l, hyl, hy⟩ := he.head
  have hi' : At bs p [y] := by rw [hyl] at hi; exact hi.cut
  refine unm_any h hi' hy hx hxr hxd ho (fun k => readAnyId (h.drewN k) he hi hbig) (fun w1 w2 v hv hc => IdAt.mono hv (Nat.le_refl _) hc) (fun w1 v hv => ?_)
  cases k0 with
  | ulong k => exact .inl ⟨_, _, hv⟩
  | uuid l => exact .inl ⟨_, _, hv.2⟩
  | bin l => obtain ⟨s, hs, _⟩ := hv; exact .inl ⟨_, _, hs⟩
  | text l => exact .inl ⟨_, _, hv⟩
end
theorem pcall {w : World} {r d n c p : Nat} {bs enc : List UInt8} {x : Nat} {cs : Array Value} {t : TypeId} {j : Nat} {f : PF} (hj : j < 13) (hf : PFOk j f) (hn : f ≠ .nul) (h : Buf w r d n c p bs) (he : PEnc f enc) (hi : At bs p enc)
    (hx : w.heap[x]? = some (.cells cs t (0, 0))) (hxr : x ≠ r) (hxd : x ≠ d) (ho : cs[j]? = some (pinit j)) (hd : d < w.heap.size) (hbig : n ≤ 140737488355328) :
    Calls Tryz.prog 84 #[.pointer (some ⟨r, 0, none⟩), .iface (pft j) (pfv x j)] w (UnmC w r d n c p enc.length bs x j cs t (PAt w.heap.size j f)) := by
  have hsz : j < cs.size := (Array.getElem?_eq_some_iff.1 ho).1
  have hcase : j = 0 ∨ j = 1 ∨ j = 2 ∨ j = 3 ∨ j = 4 ∨ j = 5 ∨ j = 6 ∨ j = 7 ∨ j = 8 ∨ j = 9 ∨ j = 10 ∨ j = 11 ∨ j = 12 := by omega
  rcases hcase with rfl | rfl | rfl | rfl | rfl | rfl | rfl | rfl | rfl | rfl | rfl | rfl | rfl <;> cases he <;>
    first
      | exact absurd rfl hn
      | exact hf.elim
      | (rename_i he; exact call_id h he hi hx hxr hxd hsz hbig)
      | (rename_i he; exact call_bytes h he hi hx hxr hxd hsz hbig)
      | (rename_i he; exact call_pstring h he hi hx hxr hxd ho hd)
      | (rename_i he; exact call_ptime h he hi hx hxr hxd ho hd)
      | (rename_i he; exact call_u32p h he hi hx hxr hxd hsz)
end Go.Proofs.S
