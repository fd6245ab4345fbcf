/- What the guards of the law ask of the properties: for properties that lie in the heap. -/
import Derived.Test.YtoilepadamfacaaGreatDoorD22
set_option linter.unusedVariables false
set_option linter.unusedSimpArgs false
namespace Go.Proofs.S
open Go.RowKit Go.Maps
/-- A slice's elements, each read by R. -/
def RowOf (R : Value → Prop) (w : World) (A : Option Addr) (n : Nat) : Prop := n ≤ 9223372036854775807 ∧ (n = 0 ∨ ∃ g o, A = some ⟨g, o, none⟩ ∧ ∀ i, i < n → ∃ v, R v ∧ w.cell? ⟨g, o + i, none⟩ = some v)
theorem RowOf.ext {R : Value → Prop} {w w' : World} {A : Option Addr} {n : Nat} (h : RowOf R w A n) (hc : Chg (fun _ => False) w w') : RowOf R w' A n := by
  obtain ⟨hn, h⟩ := h
  refine ⟨hn, ?_⟩
  rcases h with h | ⟨g, o, e, h⟩
  · exact .inl h
  · refine .inr ⟨g, o, e, fun i hi => ?_⟩
    obtain ⟨v, hv, hcl⟩ := h i hi
    exact ⟨v, hv, hc.cell hcl (fun h => h)⟩
/-- A bool is handed back, the world as it was. -/
def SomeB (w : World) (e : Ending) (w' : World) : Prop := ∃ b, e = .returned (.bool b) ∧ w' = w
def IsText (v : Value) : Prop := ∃ s : ByteArray, v = .string s ∧ s.size ≤ 9223372036854775807
def IsI64 (v : Value) : Prop := ∃ z : Int, v = .int .i64 z
def IsU32 (v : Value) : Prop := ∃ z : Int, v = .int .u32 z ∧ 0 ≤ z ∧ z < 4294967296
/-- Values: each its six cells; what is in it is read likewise, so many levels deep. -/
def Tree (w : World) : Nat → Option Addr → Nat → Prop
  | 0, _, n => n = 0
  | d + 1, A, n => n ≤ 9223372036854775807 ∧ (n = 0 ∨ ∃ g o, A = some ⟨g, o, none⟩ ∧ ∀ i, i < n → ∃ (kd : Int) (u : Nat) (tx : ByteArray) (kA : Option Addr) (kN kC : Nat) (of_ : Int) (dA : Option Addr) (dN dC : Nat),
      u < U64 ∧ tx.size ≤ 9223372036854775807 ∧ w.cell? ⟨g, o + i * 6, none⟩ = some (.int .i64 kd) ∧ w.cell? ⟨g, o + i * 6 + 1, none⟩ = some (.int .u64 (u : Int)) ∧ w.cell? ⟨g, o + i * 6 + 2, none⟩ = some (.string tx) ∧ w.cell? ⟨g, o + i * 6 + 3, none⟩ = some (.slice kA kN kC) ∧ w.cell? ⟨g, o + i * 6 + 4, none⟩ = some (.int .i64 of_) ∧ w.cell? ⟨g, o + i * 6 + 5, none⟩ = some (.slice dA dN dC) ∧
      Tree w d kA kN ∧ Tree w d dA dN)
theorem Tree.ext {w w' : World} (hc : Chg (fun _ => False) w w') : ∀ (d : Nat) (A : Option Addr) (n : Nat), Tree w d A n → Tree w' d A n
  | 0, _, _, h => h
  | d + 1, A, n, h => by
    obtain ⟨hn, h⟩ := h
    refine ⟨hn, ?_⟩
    rcases h with h | ⟨g, o, e, h⟩
    · exact .inl h
    · refine .inr ⟨g, o, e, fun i hi => ?_⟩
      obtain ⟨kd, u, tx, kA, kN, kC, of_, dA, dN, dC, h1, h2, c0, c1, c2, c3, c4, c5, t1, t2⟩ := h i hi
      exact ⟨kd, u, tx, kA, kN, kC, of_, dA, dN, dC, h1, h2, hc.cell c0 (fun h => h), hc.cell c1 (fun h => h), hc.cell c2 (fun h => h), hc.cell c3 (fun h => h), hc.cell c4 (fun h => h), hc.cell c5 (fun h => h), Tree.ext hc d _ _ t1, Tree.ext hc d _ _ t2⟩
theorem Tree.le {w : World} {d : Nat} {A : Option Addr} {n : Nat} (h : Tree w d A n) : n ≤ 9223372036854775807 := by
  cases d with
  | zero => have h' : n = 0 := h; omega
  | succ d => exact h.1
set_option maxHeartbeats 4000000 in
set_option maxRecDepth 1000000 in
theorem zz2_calls {w : World} {A : Option Addr} {n c : Nat} (h : RowOf IsText w A n) : Calls Tryz.prog 22 #[.slice A n c] w (SomeB w) := by
  obtain ⟨hn, h⟩ := h
  have HH := Lib.hid h
  clear h
  rcases Nat.lt_or_ge 2147483647 n with h1 | h1
  · have hd : decide ((n : Int) > 2147483647) = true := by simp; omega
    go_enter Tryz.func22, Tryz.ntmps22
    go_wp2_with fail
    go_ret
    exact ⟨_, rfl, rfl⟩
  · have hd : decide ((n : Int) > 2147483647) = false := by simp; omega
    go_enter Tryz.func22, Tryz.ntmps22
    go_wp2_with fail
    go_loop [10] (fun i => ∃ k : Nat, k ≤ n ∧ i = .int .i64 (k : Int)) (fun i => n - (intOf i).toNat)
    case atStart => exact ⟨0, Nat.zero_le _, rfl⟩
    case round =>
      obtain ⟨k, hk, rfl⟩ := hrel
      rcases Nat.lt_or_ge k n with hlt | hge
      · obtain ⟨g, o, rfl, hc⟩ : ∃ g o, A = some ⟨g, o, none⟩ ∧ ∀ i, i < n → ∃ v, IsText v ∧ w.cell? ⟨g, o + i, none⟩ = some v := HH.out.resolve_left (by omega)
        obtain ⟨v, ⟨s, rfl, hs⟩, hcell⟩ := hc k hlt
        have d1 : decide ((k : Int) < (n : Int)) = true := by simp; omega
        have k0 : (0 : Int) ≤ (k : Int) := by omega
        have kl : (k : Int) < (n : Int) := by omega
        clear hc
        rcases Nat.lt_or_ge 2147483647 s.size with h2 | h2
        · have d2 : decide ((s.size : Int) > 2147483647) = true := by simp; omega
          go_wp2_with fail
          go_ret
          exact ⟨_, rfl, rfl⟩
        · have d2 : decide ((s.size : Int) > 2147483647) = false := by simp; omega
          go_wp2_with fail
          go_round
          case rel => exact ⟨k + 1, hlt, by go_num⟩
          case measure => simp [intOf]; omega
      · obtain rfl : k = n := by omega
        have d1 : decide ((k : Int) < (k : Int)) = false := by simp
        go_wp2_with fail
        go_ret
        exact ⟨_, rfl, rfl⟩
/-- What the law is handed: thirteen slices. -/
structure PropsIn (w : World) (A : Nat → Option Addr) (n c : Nat → Nat) (d : Nat) (l : List UInt8) : Prop where
  any0 : Tree w d (A 0) (n 0)
  any5 : Tree w d (A 5) (n 5)
  len1 : l.length = n 1
  bytes : Bs w (.slice (A 1) (n 1) (c 1)) l
  t2 : RowOf IsText w (A 2) (n 2)
  t3 : RowOf IsText w (A 3) (n 3)
  t4 : RowOf IsText w (A 4) (n 4)
  t6 : RowOf IsText w (A 6) (n 6)
  t7 : RowOf IsText w (A 7) (n 7)
  t10 : RowOf IsText w (A 10) (n 10)
  t12 : RowOf IsText w (A 12) (n 12)
  i8 : RowOf IsI64 w (A 8) (n 8)
  i9 : RowOf IsI64 w (A 9) (n 9)
  u11 : RowOf IsU32 w (A 11) (n 11)
theorem PropsIn.ext {w w' : World} {A : Nat → Option Addr} {n c : Nat → Nat} {d : Nat} {l : List UInt8} (h : PropsIn w A n c d l) (hc : Chg (fun _ => False) w w') : PropsIn w' A n c d l :=
  ⟨Tree.ext hc _ _ _ h.any0, Tree.ext hc _ _ _ h.any5, h.len1, h.bytes.chg hc, h.t2.ext hc, h.t3.ext hc, h.t4.ext hc, h.t6.ext hc, h.t7.ext hc, h.t10.ext hc, h.t12.ext hc, h.i8.ext hc, h.i9.ext hc, h.u11.ext hc⟩
set_option maxHeartbeats 8000000 in
set_option maxRecDepth 1000000 in
theorem zz15_calls {w : World} {A : Nat → Option Addr} {n c : Nat → Nat} {d : Nat} {l : List UInt8} (h : PropsIn w A n c d l) :
    Calls Tryz.prog 6 #[.agg #[.slice (A 0) (n 0) (c 0), .slice (A 1) (n 1) (c 1), .slice (A 2) (n 2) (c 2), .slice (A 3) (n 3) (c 3), .slice (A 4) (n 4) (c 4), .slice (A 5) (n 5) (c 5), .slice (A 6) (n 6) (c 6), .slice (A 7) (n 7) (c 7), .slice (A 8) (n 8) (c 8), .slice (A 9) (n 9) (c 9), .slice (A 10) (n 10) (c 10), .slice (A 11) (n 11) (c 11), .slice (A 12) (n 12) (c 12)]] w fun e w' => ∃ b, e = .returned (.bool b) ∧ Chg (fun _ => False) w w' := by
  have hA : Chg (fun _ => False) w (w.alloc (.cells #[.slice (A 0) (n 0) (c 0), .slice (A 1) (n 1) (c 1), .slice (A 2) (n 2) (c 2), .slice (A 3) (n 3) (c 3), .slice (A 4) (n 4) (c 4), .slice (A 5) (n 5) (c 5), .slice (A 6) (n 6) (c 6), .slice (A 7) (n 7) (c 7), .slice (A 8) (n 8) (c 8), .slice (A 9) (n 9) (c 9), .slice (A 10) (n 10) (c 10), .slice (A 11) (n 11) (c 11), .slice (A 12) (n 12) (c 12)] 28)) := (Chg.refl _ w).alloc _
  have HA := Lib.hid hA
  have HH := Lib.hid (h.ext hA)
  have hb0 := h.any0.le
  have hb5 := h.any5.le
  have hb8 := h.i8.1
  have hb9 := h.i9.1
  have hb11 := h.u11.1
  clear h hA
  go_enter Tryz.func6, Tryz.ntmps6
  rcases Nat.lt_or_ge 2147483647 (n 0) with g0 | g0
  · have hd : decide ((n 0 : Int) > 2147483647) = true := by simp; omega
    go_wp2_with fail
    go_ret
    exact ⟨_, rfl, HA.out⟩
  have q0 : decide ((n 0 : Int) > 2147483647) = false := by simp; omega
  rcases Nat.lt_or_ge 2147483647 (n 1) with g1 | g1
  · have hd : decide ((n 1 : Int) > 2147483647) = true := by simp; omega
    go_wp2_with fail
    go_ret
    exact ⟨_, rfl, HA.out⟩
  have q1 : decide ((n 1 : Int) > 2147483647) = false := by simp; omega
  go_wp2_with fail
  refine (zz2_calls HH.out.t2).mono ?_
  rintro _ _ ⟨b2, rfl, rfl⟩
  cases b2 with
  | false =>
    go_wp2_with fail
    go_ret
    exact ⟨_, rfl, HA.out⟩
  | true =>
  go_wp2_with fail
  refine (zz2_calls HH.out.t3).mono ?_
  rintro _ _ ⟨b3, rfl, rfl⟩
  cases b3 with
  | false =>
    go_wp2_with fail
    go_ret
    exact ⟨_, rfl, HA.out⟩
  | true =>
  go_wp2_with fail
  refine (zz2_calls HH.out.t4).mono ?_
  rintro _ _ ⟨b4, rfl, rfl⟩
  cases b4 with
  | false =>
    go_wp2_with fail
    go_ret
    exact ⟨_, rfl, HA.out⟩
  | true =>
  rcases Nat.lt_or_ge 2147483647 (n 5) with g5 | g5
  · have hd : decide ((n 5 : Int) > 2147483647) = true := by simp; omega
    go_wp2_with fail
    go_ret
    exact ⟨_, rfl, HA.out⟩
  have q5 : decide ((n 5 : Int) > 2147483647) = false := by simp; omega
  go_wp2_with fail
  refine (zz2_calls HH.out.t6).mono ?_
  rintro _ _ ⟨b6, rfl, rfl⟩
  cases b6 with
  | false =>
    go_wp2_with fail
    go_ret
    exact ⟨_, rfl, HA.out⟩
  | true =>
  go_wp2_with fail
  refine (zz2_calls HH.out.t7).mono ?_
  rintro _ _ ⟨b7, rfl, rfl⟩
  cases b7 with
  | false =>
    go_wp2_with fail
    go_ret
    exact ⟨_, rfl, HA.out⟩
  | true =>
  rcases Nat.lt_or_ge 2147483647 (n 8) with g8 | g8
  · have hd : decide ((n 8 : Int) > 2147483647) = true := by simp; omega
    go_wp2_with fail
    go_ret
    exact ⟨_, rfl, HA.out⟩
  have q8 : decide ((n 8 : Int) > 2147483647) = false := by simp; omega
  rcases Nat.lt_or_ge 2147483647 (n 9) with g9 | g9
  · have hd : decide ((n 9 : Int) > 2147483647) = true := by simp; omega
    go_wp2_with fail
    go_ret
    exact ⟨_, rfl, HA.out⟩
  have q9 : decide ((n 9 : Int) > 2147483647) = false := by simp; omega
  go_wp2_with fail
  refine (zz2_calls HH.out.t10).mono ?_
  rintro _ _ ⟨b10, rfl, rfl⟩
  cases b10 with
  | false =>
    go_wp2_with fail
    go_ret
    exact ⟨_, rfl, HA.out⟩
  | true =>
  rcases Nat.lt_or_ge 2147483647 (n 11) with g11 | g11
  · have hd : decide ((n 11 : Int) > 2147483647) = true := by simp; omega
    go_wp2_with fail
    go_ret
    exact ⟨_, rfl, HA.out⟩
  have q11 : decide ((n 11 : Int) > 2147483647) = false := by simp; omega
  go_wp2_with fail
  refine (zz2_calls HH.out.t12).mono ?_
  rintro _ _ ⟨b12, rfl, rfl⟩
  cases b12 with
  | false =>
    go_wp2_with fail
    go_ret
    exact ⟨_, rfl, HA.out⟩
  | true =>
  go_wp2_with fail
  go_ret
  exact ⟨_, rfl, HA.out⟩
set_option maxHeartbeats 4000000 in
set_option maxRecDepth 1000000 in
theorem id_none (A : Option Addr) (c : Nat) (w : World) : Calls Tryz.prog 39 #[.slice A 0 c] w fun e w' => e = .returned (.bool true) ∧ w' = w := by
  go_enter Tryz.func39, Tryz.ntmps39
  go_wp2_with fail
  go_ret
  exact ⟨rfl, rfl⟩
set_option maxHeartbeats 4000000 in
set_option maxRecDepth 1000000 in
theorem id_many {n : Nat} (hn : 2 ≤ n) (A : Option Addr) (c : Nat) (w : World) : Calls Tryz.prog 39 #[.slice A n c] w fun e w' => e = .returned (.bool false) ∧ w' = w := by
  have h0 : ((n : Int) == 0) = false := by simp; omega
  have h1 : ((n : Int) == 1) = false := by simp; omega
  clear hn
  go_enter Tryz.func39, Tryz.ntmps39
  go_wp2_with fail
  go_ret
  exact ⟨rfl, rfl⟩
set_option maxHeartbeats 4000000 in
set_option maxRecDepth 1000000 in
theorem id_desc {g o c dN dC : Nat} {dA : Option Addr} {w : World} (hd : 0 < dN) (h5 : w.cell? ⟨g, o + 5, none⟩ = some (.slice dA dN dC)) : Calls Tryz.prog 39 #[.slice (some ⟨g, o, none⟩) 1 c] w fun e w' => e = .returned (.bool false) ∧ w' = w := by
  have hd1 : ((dN : Int) == 0) = false := by simp; omega
  clear hd
  go_enter Tryz.func39, Tryz.ntmps39
  go_wp2_with fail
  go_ret
  exact ⟨rfl, rfl⟩
set_option maxHeartbeats 4000000 in
set_option maxRecDepth 1000000 in
theorem id_5 {g o c dC : Nat} {dA : Option Addr} {w : World} (h0 : w.cell? ⟨g, o, none⟩ = some (.int .i64 5)) (h5 : w.cell? ⟨g, o + 5, none⟩ = some (.slice dA 0 dC)) : Calls Tryz.prog 39 #[.slice (some ⟨g, o, none⟩) 1 c] w fun e w' => e = .returned (.bool true) ∧ w' = w := by
  go_enter Tryz.func39, Tryz.ntmps39
  go_wp2_with fail
  go_ret
  exact ⟨rfl, rfl⟩
set_option maxHeartbeats 4000000 in
set_option maxRecDepth 1000000 in
theorem id_17 {g o c dC : Nat} {dA : Option Addr} {w : World} (h0 : w.cell? ⟨g, o, none⟩ = some (.int .i64 17)) (h5 : w.cell? ⟨g, o + 5, none⟩ = some (.slice dA 0 dC)) : Calls Tryz.prog 39 #[.slice (some ⟨g, o, none⟩) 1 c] w fun e w' => e = .returned (.bool true) ∧ w' = w := by
  go_enter Tryz.func39, Tryz.ntmps39
  go_wp2_with fail
  go_ret
  exact ⟨rfl, rfl⟩
set_option maxHeartbeats 4000000 in
set_option maxRecDepth 1000000 in
theorem id_18 {g o c dC : Nat} {dA : Option Addr} {w : World} (h0 : w.cell? ⟨g, o, none⟩ = some (.int .i64 18)) (h5 : w.cell? ⟨g, o + 5, none⟩ = some (.slice dA 0 dC)) : Calls Tryz.prog 39 #[.slice (some ⟨g, o, none⟩) 1 c] w fun e w' => e = .returned (.bool true) ∧ w' = w := by
  go_enter Tryz.func39, Tryz.ntmps39
  go_wp2_with fail
  go_ret
  exact ⟨rfl, rfl⟩
set_option maxHeartbeats 4000000 in
set_option maxRecDepth 1000000 in
theorem id_19 {g o c dC : Nat} {dA : Option Addr} {w : World} (h0 : w.cell? ⟨g, o, none⟩ = some (.int .i64 19)) (h5 : w.cell? ⟨g, o + 5, none⟩ = some (.slice dA 0 dC)) : Calls Tryz.prog 39 #[.slice (some ⟨g, o, none⟩) 1 c] w fun e w' => e = .returned (.bool true) ∧ w' = w := by
  go_enter Tryz.func39, Tryz.ntmps39
  go_wp2_with fail
  go_ret
  exact ⟨rfl, rfl⟩
set_option maxHeartbeats 4000000 in
set_option maxRecDepth 1000000 in
theorem id_other {kd : Int} (k5 : kd ≠ 5) (k17 : kd ≠ 17) (k18 : kd ≠ 18) (k19 : kd ≠ 19) {g o c dC : Nat} {dA : Option Addr} {w : World} (h0 : w.cell? ⟨g, o, none⟩ = some (.int .i64 kd)) (h5 : w.cell? ⟨g, o + 5, none⟩ = some (.slice dA 0 dC)) : Calls Tryz.prog 39 #[.slice (some ⟨g, o, none⟩) 1 c] w fun e w' => e = .returned (.bool false) ∧ w' = w := by
  have d5 : (kd == 5) = false := by simpa using k5
  have d17 : (kd == 17) = false := by simpa using k17
  have d18 : (kd == 18) = false := by simpa using k18
  have d19 : (kd == 19) = false := by simpa using k19
  clear k5 k17 k18 k19
  go_enter Tryz.func39, Tryz.ntmps39
  go_wp2_with fail
  go_ret
  exact ⟨rfl, rfl⟩
/-- What identity takes: none, or one value. -/
def IdFact (w : World) (A : Option Addr) (n : Nat) : Prop := ∃ x, SlotAny w A n x ∧ (x.kd = 0 ∧ x = FV0 ∨ x.kd = 5 ∨ x.kd = 17 ∨ x.kd = 18 ∨ x.kd = 19) ∧ x.nm < U64 ∧ x.tx.size ≤ 9223372036854775807 ∧ ∃ d', Tree w d' x.kA x.kN
/-- identity: what it takes. -/
theorem id_calls {w : World} {A : Option Addr} {n c d : Nat} (h : Tree w d A n) : Calls Tryz.prog 39 #[.slice A n c] w fun e w' => ∃ b, e = .returned (.bool b) ∧ w' = w ∧ (b = true → IdFact w A n) := by
  rcases Nat.lt_or_ge n 2 with hn | hn
  · rcases Nat.eq_zero_or_pos n with rfl | hn0
    · refine (id_none A c w).mono ?_
      rintro e w' ⟨rfl, rfl⟩
      exact ⟨true, rfl, rfl, fun _ => ⟨FV0, .inl ⟨rfl, rfl⟩, .inl ⟨rfl, rfl⟩, by decide, by decide, 0, rfl⟩⟩
    · obtain rfl : n = 1 := by omega
      cases d with
      | zero => exact absurd h (by intro h'; have h'' : (1 : Nat) = 0 := h'; omega)
      | succ d =>
        obtain ⟨_, h⟩ := h
        rcases h with h | ⟨g, o, rfl, h⟩
        · omega
        obtain ⟨kd, u, tx, kA, kN, kC, of_, dA, dN, dC, hu, htx, c0, c1, c2, c3, c4, c5, t1, t2⟩ := h 0 (by decide)
        simp only [Nat.zero_mul, Nat.add_zero] at c0 c1 c2 c3 c4 c5
        rcases Nat.eq_zero_or_pos dN with rfl | hd
        · have key : kd = 5 ∨ kd = 17 ∨ kd = 18 ∨ kd = 19 → ∃ x, SlotAny w (some ⟨g, o, none⟩) 1 x ∧ (x.kd = 0 ∧ x = FV0 ∨ x.kd = 5 ∨ x.kd = 17 ∨ x.kd = 18 ∨ x.kd = 19) ∧ x.nm < U64 ∧ x.tx.size ≤ 9223372036854775807 ∧ ∃ d', Tree w d' x.kA x.kN := fun hk =>
            ⟨⟨kd, u, tx, kA, kN, kC, of_, dA, dC⟩, .inr ⟨rfl, g, o, rfl, ⟨c0, c1, c2, c3, c4, c5⟩⟩, .inr hk, hu, htx, d, t1⟩
          by_cases k5 : kd = 5
          · subst k5; exact (id_5 c0 c5).mono (by rintro e w' ⟨rfl, rfl⟩; exact ⟨true, rfl, rfl, fun _ => key (by simp)⟩)
          by_cases k17 : kd = 17
          · subst k17; exact (id_17 c0 c5).mono (by rintro e w' ⟨rfl, rfl⟩; exact ⟨true, rfl, rfl, fun _ => key (by simp)⟩)
          by_cases k18 : kd = 18
          · subst k18; exact (id_18 c0 c5).mono (by rintro e w' ⟨rfl, rfl⟩; exact ⟨true, rfl, rfl, fun _ => key (by simp)⟩)
          by_cases k19 : kd = 19
          · subst k19; exact (id_19 c0 c5).mono (by rintro e w' ⟨rfl, rfl⟩; exact ⟨true, rfl, rfl, fun _ => key (by simp)⟩)
          exact (id_other k5 k17 k18 k19 c0 c5).mono (by rintro e w' ⟨rfl, rfl⟩; exact ⟨false, rfl, rfl, fun h => by cases h⟩)
        · exact (id_desc hd c5).mono (by rintro e w' ⟨rfl, rfl⟩; exact ⟨false, rfl, rfl, fun h => by cases h⟩)
  · exact (id_many hn A c w).mono (by rintro e w' ⟨rfl, rfl⟩; exact ⟨false, rfl, rfl, fun h => by cases h⟩)
/-- A bool is handed back; true: none or one. -/
def FewB (n : Nat) (w : World) (e : Ending) (w' : World) : Prop := ∃ b, e = .returned (.bool b) ∧ w' = w ∧ (b = true → n ≤ 1)
set_option maxHeartbeats 4000000 in
set_option maxRecDepth 1000000 in
/-- moments. -/
theorem moments_calls {w : World} {A : Option Addr} {n c : Nat} (h : RowOf IsI64 w A n) : Calls Tryz.prog 40 #[.slice A n c] w (FewB n w) := by
  obtain ⟨hn, h⟩ := h
  rcases Nat.lt_or_ge n 2 with hn2 | hn2
  · rcases Nat.eq_zero_or_pos n with rfl | hn0
    · go_enter Tryz.func40, Tryz.ntmps40
      go_wp2_with fail
      go_ret
      exact ⟨true, rfl, rfl, fun _ => by omega⟩
    · obtain rfl : n = 1 := by omega
      rcases h with h | ⟨g, o, rfl, h⟩
      · omega
      obtain ⟨v, ⟨z, rfl⟩, hc⟩ := h 0 (by decide)
      rw [Nat.add_zero] at hc
      clear h
      rcases Int.lt_or_le z (-9200000000000) with z1 | z1
      · have d1 : decide (z ≥ -9200000000000) = false := by simp; omega
        go_enter Tryz.func40, Tryz.ntmps40
        go_wp2_with fail
        go_ret
        exact ⟨_, rfl, rfl, fun _ => Nat.le_refl 1⟩
      · have d1 : decide (z ≥ -9200000000000) = true := by simp; omega
        rcases Int.lt_or_le 9200000000000 z with z2 | z2
        · have d2 : decide (z ≤ 9200000000000) = false := by simp; omega
          go_enter Tryz.func40, Tryz.ntmps40
          go_wp2_with fail
          go_ret
          exact ⟨_, rfl, rfl, fun _ => Nat.le_refl 1⟩
        · have d2 : decide (z ≤ 9200000000000) = true := by simp; omega
          go_enter Tryz.func40, Tryz.ntmps40
          go_wp2_with fail
          go_ret
          exact ⟨_, rfl, rfl, fun _ => Nat.le_refl 1⟩
  · have h0 : ((n : Int) == 0) = false := by simp; omega
    have h1 : ((n : Int) == 1) = false := by simp; omega
    go_enter Tryz.func40, Tryz.ntmps40
    go_wp2_with fail
    go_ret
    exact ⟨false, rfl, rfl, fun h => by cases h⟩
set_option maxHeartbeats 4000000 in
set_option maxRecDepth 1000000 in
/-- full. -/
theorem full_calls {w : World} {g n cC : Nat} (hn : n ≤ 7) (h : ∀ k, k < n → ∃ A m c, w.cell? ⟨g, k, none⟩ = some (.slice A m c) ∧ RowOf IsText w A m) : Calls Tryz.prog 41 #[.slice (some ⟨g, 0, none⟩) n cC] w (SomeB w) := by
  have HH := Lib.hid h
  clear h
  go_enter Tryz.func41, Tryz.ntmps41
  go_wp2_with fail
  go_loop [9] (fun i => ∃ k : Nat, k ≤ n ∧ i = .int .i64 (k : Int)) (fun i => n - (intOf i).toNat)
  case atStart => exact ⟨0, Nat.zero_le _, rfl⟩
  case round =>
    obtain ⟨k, hk, rfl⟩ := hrel
    rcases Nat.lt_or_ge k n with hlt | hge
    · obtain ⟨A, m, c, hcell, hm, hrow⟩ := HH.out k hlt
      have HR := Lib.hid hrow
      have d1 : decide ((k : Int) < (n : Int)) = true := by simp; omega
      have k0 : (0 : Int) ≤ (k : Int) := by omega
      have kl : (k : Int) < (n : Int) := by omega
      clear hrow
      go_wp2_with fail
      go_loop [15] (fun i => ∃ q : Nat, q ≤ m ∧ i = .int .i64 (q : Int)) (fun i => m - (intOf i).toNat)
      case atStart => exact ⟨0, Nat.zero_le _, rfl⟩
      case round =>
        obtain ⟨q, hq, rfl⟩ := hrel
        rcases Nat.lt_or_ge q m with hqlt | hqge
        · obtain ⟨g2, o2, rfl, hc⟩ : ∃ g o, A = some ⟨g, o, none⟩ ∧ ∀ i, i < m → ∃ v, IsText v ∧ w.cell? ⟨g, o + i, none⟩ = some v := HR.out.resolve_left (by omega)
          obtain ⟨v, ⟨s, rfl, hs⟩, hsc⟩ := hc q hqlt
          have d2 : decide ((q : Int) < (m : Int)) = true := by simp; omega
          have q0 : (0 : Int) ≤ (q : Int) := by omega
          have ql : (q : Int) < (m : Int) := by omega
          clear hc
          go_wp2_with fail
          · go_ret
            exact ⟨_, rfl, rfl⟩
          · go_round
            case rel => exact ⟨q + 1, hqlt, by go_num⟩
            case measure => simp [intOf]; omega
        · obtain rfl : q = m := by omega
          have d2 : decide ((q : Int) < (q : Int)) = false := by simp
          go_wp2_with fail
          go_round
          case rel => exact ⟨k + 1, hlt, by go_num⟩
          case measure => simp [intOf]; omega
    · obtain rfl : k = n := by omega
      have d1 : decide ((k : Int) < (k : Int)) = false := by simp
      go_wp2_with fail
      go_ret
      exact ⟨_, rfl, rfl⟩
theorem new2 (w : World) (a b : Obj) : Chg (fun _ => False) w ((w.alloc a).alloc b) ∧ ((w.alloc a).alloc b).heap[w.heap.size]? = some a ∧ ((w.alloc a).alloc b).heap[w.heap.size + 1]? = some b := by
  refine ⟨((Chg.refl _ w).alloc _).alloc _, ?_, ?_⟩
  · exact (((Chg.refl (fun _ => False) (w.alloc a)).alloc b).block _ (Array.getElem?_eq_some_iff.1 (heap_alloc_new w a)).1 (fun h => h)).trans (heap_alloc_new w a)
  · have := heap_alloc_new (w.alloc a) b
    rwa [show (w.alloc a).heap.size = w.heap.size + 1 by simp] at this
theorem IdFact.of_chg {w w' : World} {A : Option Addr} {n : Nat} (h : IdFact w A n) (hc : Chg (fun _ => False) w w') : IdFact w' A n := by
  obtain ⟨x, h1, h2, h3, h4, d', h5⟩ := h
  refine ⟨x, ?_, h2, h3, h4, d', Tree.ext hc _ _ _ h5⟩
  rcases h1 with h1 | ⟨h1, g, o, e, hx⟩
  · exact .inl h1
  · exact .inr ⟨h1, g, o, e, ⟨hc.cell hx.c0 (fun h => h), hc.cell hx.c1 (fun h => h), hc.cell hx.c2 (fun h => h), hc.cell hx.c3 (fun h => h), hc.cell hx.c4 (fun h => h), hc.cell hx.c5 (fun h => h)⟩⟩
/-- What askedProperties takes. -/
structure Asked (w : World) (A : Nat → Option Addr) (n : Nat → Nat) : Prop where
  id0 : IdFact w (A 0) (n 0)
  id5 : IdFact w (A 5) (n 5)
  l2 : n 2 ≤ 1
  l3 : n 3 ≤ 1
  l4 : n 4 ≤ 1
  l6 : n 6 ≤ 1
  l7 : n 7 ≤ 1
  l8 : n 8 ≤ 1
  l9 : n 9 ≤ 1
  l10 : n 10 ≤ 1
  l11 : n 11 ≤ 1
  l12 : n 12 ≤ 1
def AskB (A : Nat → Option Addr) (n : Nat → Nat) (w : World) (e : Ending) (w' : World) : Prop := ∃ b, e = .returned (.bool b) ∧ Chg (fun _ => False) w w' ∧ (b = true → Asked w' A n)
set_option maxHeartbeats 8000000 in
set_option maxRecDepth 1000000 in
/-- askedProperties. -/
theorem asked_calls {w : World} {A : Nat → Option Addr} {n c : Nat → Nat} {d : Nat} {l : List UInt8} (h : PropsIn w A n c d l) :
    Calls Tryz.prog 11 #[.agg #[.slice (A 0) (n 0) (c 0), .slice (A 1) (n 1) (c 1), .slice (A 2) (n 2) (c 2), .slice (A 3) (n 3) (c 3), .slice (A 4) (n 4) (c 4), .slice (A 5) (n 5) (c 5), .slice (A 6) (n 6) (c 6), .slice (A 7) (n 7) (c 7), .slice (A 8) (n 8) (c 8), .slice (A 9) (n 9) (c 9), .slice (A 10) (n 10) (c 10), .slice (A 11) (n 11) (c 11), .slice (A 12) (n 12) (c 12)]] w (AskB A n w) := by
  have hA : Chg (fun _ => False) w (w.alloc (.cells #[.slice (A 0) (n 0) (c 0), .slice (A 1) (n 1) (c 1), .slice (A 2) (n 2) (c 2), .slice (A 3) (n 3) (c 3), .slice (A 4) (n 4) (c 4), .slice (A 5) (n 5) (c 5), .slice (A 6) (n 6) (c 6), .slice (A 7) (n 7) (c 7), .slice (A 8) (n 8) (c 8), .slice (A 9) (n 9) (c 9), .slice (A 10) (n 10) (c 10), .slice (A 11) (n 11) (c 11), .slice (A 12) (n 12) (c 12)] 28)) := (Chg.refl _ w).alloc _
  have HA := Lib.hid hA
  have HH := Lib.hid (h.ext hA)
  have hb2 := h.t2.1
  have hb3 := h.t3.1
  have hb4 := h.t4.1
  have hb6 := h.t6.1
  have hb7 := h.t7.1
  have hb10 := h.t10.1
  have hb11 := h.u11.1
  have hb12 := h.t12.1
  clear h hA
  go_enter Tryz.func11, Tryz.ntmps11
  go_wp2_with fail
  refine (id_calls HH.out.any0).mono ?_
  rintro _ _ ⟨x0, rfl, rfl, hx0⟩
  have HFx0 := Lib.hid hx0
  clear hx0
  cases x0 with
  | false =>
    go_wp2_with fail
    go_ret
    exact ⟨false, rfl, HA.out, fun h => by cases h⟩
  | true =>
  go_wp2_with fail
  refine (id_calls HH.out.any5).mono ?_
  rintro _ _ ⟨x5, rfl, rfl, hx5⟩
  have HFx5 := Lib.hid hx5
  clear hx5
  cases x5 with
  | false =>
    go_wp2_with fail
    go_ret
    exact ⟨false, rfl, HA.out, fun h => by cases h⟩
  | true =>
  rcases Nat.lt_or_ge 1 (n 2) with g2 | g2
  · have hd : decide ((n 2 : Int) ≤ 1) = false := by simp; omega
    go_wp2_with fail
    go_ret
    exact ⟨false, rfl, HA.out, fun h => by cases h⟩
  have q2 : decide ((n 2 : Int) ≤ 1) = true := by simp; omega
  rcases Nat.lt_or_ge 1 (n 3) with g3 | g3
  · have hd : decide ((n 3 : Int) ≤ 1) = false := by simp; omega
    go_wp2_with fail
    go_ret
    exact ⟨false, rfl, HA.out, fun h => by cases h⟩
  have q3 : decide ((n 3 : Int) ≤ 1) = true := by simp; omega
  rcases Nat.lt_or_ge 1 (n 4) with g4 | g4
  · have hd : decide ((n 4 : Int) ≤ 1) = false := by simp; omega
    go_wp2_with fail
    go_ret
    exact ⟨false, rfl, HA.out, fun h => by cases h⟩
  have q4 : decide ((n 4 : Int) ≤ 1) = true := by simp; omega
  rcases Nat.lt_or_ge 1 (n 6) with g6 | g6
  · have hd : decide ((n 6 : Int) ≤ 1) = false := by simp; omega
    go_wp2_with fail
    go_ret
    exact ⟨false, rfl, HA.out, fun h => by cases h⟩
  have q6 : decide ((n 6 : Int) ≤ 1) = true := by simp; omega
  rcases Nat.lt_or_ge 1 (n 7) with g7 | g7
  · have hd : decide ((n 7 : Int) ≤ 1) = false := by simp; omega
    go_wp2_with fail
    go_ret
    exact ⟨false, rfl, HA.out, fun h => by cases h⟩
  have q7 : decide ((n 7 : Int) ≤ 1) = true := by simp; omega
  go_wp2_with fail
  refine (moments_calls HH.out.i8).mono ?_
  rintro _ _ ⟨x8, rfl, rfl, hx8⟩
  have HFx8 := Lib.hid hx8
  clear hx8
  cases x8 with
  | false =>
    go_wp2_with fail
    go_ret
    exact ⟨false, rfl, HA.out, fun h => by cases h⟩
  | true =>
  go_wp2_with fail
  refine (moments_calls HH.out.i9).mono ?_
  rintro _ _ ⟨x9, rfl, rfl, hx9⟩
  have HFx9 := Lib.hid hx9
  clear hx9
  cases x9 with
  | false =>
    go_wp2_with fail
    go_ret
    exact ⟨false, rfl, HA.out, fun h => by cases h⟩
  | true =>
  rcases Nat.lt_or_ge 1 (n 10) with g10 | g10
  · have hd : decide ((n 10 : Int) ≤ 1) = false := by simp; omega
    go_wp2_with fail
    go_ret
    exact ⟨false, rfl, HA.out, fun h => by cases h⟩
  have q10 : decide ((n 10 : Int) ≤ 1) = true := by simp; omega
  rcases Nat.lt_or_ge 1 (n 11) with g11 | g11
  · have hd : decide ((n 11 : Int) ≤ 1) = false := by simp; omega
    go_wp2_with fail
    go_ret
    exact ⟨false, rfl, HA.out, fun h => by cases h⟩
  have q11 : decide ((n 11 : Int) ≤ 1) = true := by simp; omega
  rcases Nat.lt_or_ge 1 (n 12) with g12 | g12
  · have hd : decide ((n 12 : Int) ≤ 1) = false := by simp; omega
    go_wp2_with fail
    go_ret
    exact ⟨false, rfl, HA.out, fun h => by cases h⟩
  have q12 : decide ((n 12 : Int) ≤ 1) = true := by simp; omega
  go_wp2_with fail
  have hN := new2 w (.cells #[.slice (A 0) (n 0) (c 0), .slice (A 1) (n 1) (c 1), .slice (A 2) (n 2) (c 2), .slice (A 3) (n 3) (c 3), .slice (A 4) (n 4) (c 4), .slice (A 5) (n 5) (c 5), .slice (A 6) (n 6) (c 6), .slice (A 7) (n 7) (c 7), .slice (A 8) (n 8) (c 8), .slice (A 9) (n 9) (c 9), .slice (A 10) (n 10) (c 10), .slice (A 11) (n 11) (c 11), .slice (A 12) (n 12) (c 12)] 28) (.cells #[.slice (A 2) (n 2) (c 2), .slice (A 3) (n 3) (c 3), .slice (A 4) (n 4) (c 4), .slice (A 6) (n 6) (c 6), .slice (A 7) (n 7) (c 7), .slice (A 10) (n 10) (c 10), .slice (A 12) (n 12) (c 12)] 24)
  obtain ⟨hN1, hN2, hN3⟩ := hN
  have HN := Lib.hid hN1
  have HB := Lib.hid hN3
  have hc2 : Chg (fun _ => False) (w.alloc (.cells #[.slice (A 0) (n 0) (c 0), .slice (A 1) (n 1) (c 1), .slice (A 2) (n 2) (c 2), .slice (A 3) (n 3) (c 3), .slice (A 4) (n 4) (c 4), .slice (A 5) (n 5) (c 5), .slice (A 6) (n 6) (c 6), .slice (A 7) (n 7) (c 7), .slice (A 8) (n 8) (c 8), .slice (A 9) (n 9) (c 9), .slice (A 10) (n 10) (c 10), .slice (A 11) (n 11) (c 11), .slice (A 12) (n 12) (c 12)] 28)) ((w.alloc (.cells #[.slice (A 0) (n 0) (c 0), .slice (A 1) (n 1) (c 1), .slice (A 2) (n 2) (c 2), .slice (A 3) (n 3) (c 3), .slice (A 4) (n 4) (c 4), .slice (A 5) (n 5) (c 5), .slice (A 6) (n 6) (c 6), .slice (A 7) (n 7) (c 7), .slice (A 8) (n 8) (c 8), .slice (A 9) (n 9) (c 9), .slice (A 10) (n 10) (c 10), .slice (A 11) (n 11) (c 11), .slice (A 12) (n 12) (c 12)] 28)).alloc (.cells #[.slice (A 2) (n 2) (c 2), .slice (A 3) (n 3) (c 3), .slice (A 4) (n 4) (c 4), .slice (A 6) (n 6) (c 6), .slice (A 7) (n 7) (c 7), .slice (A 10) (n 10) (c 10), .slice (A 12) (n 12) (c 12)] 24)) := (Chg.refl _ _).alloc _
  have HP := Lib.hid (HH.out.ext hc2)
  clear hN1 hN2 hN3
  refine (full_calls (g := w.heap.size + 1) (n := 7) (Nat.le_refl 7) ?_).mono ?_
  · intro k hk
    have hcase : k = 0 ∨ k = 1 ∨ k = 2 ∨ k = 3 ∨ k = 4 ∨ k = 5 ∨ k = 6 := by omega
    rcases hcase with rfl | rfl | rfl | rfl | rfl | rfl | rfl
    · exact ⟨_, _, _, blk_cell HB.out rfl, HP.out.t2⟩
    · exact ⟨_, _, _, blk_cell HB.out rfl, HP.out.t3⟩
    · exact ⟨_, _, _, blk_cell HB.out rfl, HP.out.t4⟩
    · exact ⟨_, _, _, blk_cell HB.out rfl, HP.out.t6⟩
    · exact ⟨_, _, _, blk_cell HB.out rfl, HP.out.t7⟩
    · exact ⟨_, _, _, blk_cell HB.out rfl, HP.out.t10⟩
    · exact ⟨_, _, _, blk_cell HB.out rfl, HP.out.t12⟩
  rintro _ _ ⟨b, rfl, rfl⟩
  have HE0 := Lib.hid ((HFx0.out (by trivial)).of_chg hc2)
  have HE5 := Lib.hid ((HFx5.out (by trivial)).of_chg hc2)
  have HE8 := Lib.hid (HFx8.out (by trivial)); have HE9 := Lib.hid (HFx9.out (by trivial))
  clear hc2
  go_wp2_with fail
  go_ret
  exact ⟨b, rfl, HN.out, fun _ => ⟨HE0.out, HE5.out, g2, g3, g4, g6, g7, HE8.out, HE9.out, g10, g11, g12⟩⟩
end Go.Proofs.S
