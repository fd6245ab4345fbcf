/- A number is written in big endian: for sizes up to eight bytes. -/
import Derived.Test.YtoilepadamfacaaGreatDoorD5
import Derived.Test.YtoilepadamfacaaGreatDoorD4
set_option linter.unusedVariables false
set_option linter.unusedSimpArgs false
namespace Go.Proofs.S
open Go.RowKit
/-- A number in so many bytes, the highest first. -/
def be : Nat → Nat → List UInt8
  | 0, _ => []
  | n + 1, u => UInt8.ofNat (u / 256 ^ n) :: be n u
theorem be_length (n u : Nat) : (be n u).length = n := by induction n with
  | zero => rfl
  | succ n ih => simp [be, ih]
theorem be_get : ∀ (n u e : Nat), e < n → (be n u)[n - 1 - e]? = some (UInt8.ofNat (u / 256 ^ e)) := by
  intro n
  induction n with
  | zero => intro u e h; omega
  | succ n ih =>
    intro u e h
    rcases Nat.lt_or_ge e n with h1 | h1
    · have := ih u e h1
      rw [show n + 1 - 1 - e = (n - 1 - e) + 1 by omega]
      simpa [be] using this
    · obtain rfl : e = n := by omega
      simp [be]
theorem be_take {n u e : Nat} (h : e < n) : (be n u).take (n - (e + 1)) ++ [UInt8.ofNat (u / 256 ^ e)] = (be n u).take (n - e) := by
  have hg := be_get n u e h
  rw [show n - e = (n - (e + 1)) + 1 by omega, List.take_add_one]
  rw [show n - 1 - e = n - (e + 1) by omega] at hg
  rw [hg]
  rfl
theorem own8_from {w : World} {base k : Nat} {v : Value} {l : List UInt8} (h : Own8 w base v l) (hk : v.ownBlock = some k) : base ≤ k := by
  rcases h.2 with ⟨rfl, _⟩ | ⟨g, cap, cur, rfl, hg, _⟩
  · cases hk
  · simp only [Value.ownBlock, Option.some.injEq] at hk; omega
theorem Own8.sliceF {w : World} {base : Nat} {v : Value} {l : List UInt8} (h : Own8 w base v l) : ∃ A n c, v = .slice A n c := by
  rcases h.2 with ⟨rfl, _⟩ | ⟨g, cap, cur, rfl, _⟩
  · exact ⟨_, _, _, rfl⟩
  · exact ⟨_, _, _, rfl⟩
theorem Own8.extF {w w' : World} {base : Nat} {v : Value} {l : List UInt8} (h : Own8 w base v l) (hc : Chg (fun _ => False) w w') : Own8 w' base v l := h.chg hc (fun _ h => h.elim)
theorem u8_byte (x : Nat) : ((UInt8.ofNat x).toNat : Int) = (x : Int) % 256 := by
  simp only [UInt8.toNat_ofNat']
  omega
set_option maxHeartbeats 4000000 in
set_option maxRecDepth 1000000 in
theorem big_calls (u n : Nat) (hn : n ≤ 8) (w : World) : Calls Tryz.prog 174 #[.int .u64 (u : Int), .int .i64 (n : Int)] w fun e w' => ∃ v, e = .returned v ∧ Own8 w' w.heap.size v (be n u) ∧ Chg (fun _ => False) w w' := by
  go_enter Tryz.func174, Tryz.ntmps174
  go_wp2_with fail
  go_loopw [5, 6] (fun v i wr => ∃ m : Nat, m ≤ n ∧ i = .int .i64 ((m : Int) - 1) ∧ Own8 wr w.heap.size v ((be n u).take (n - m)) ∧ Chg (fun _ => False) w wr ∧ ∃ A k c, v = .slice A k c) (fun _ i _ => (intOf i + 1).toNat)
  case atStart => exact ⟨n, Nat.le_refl _, rfl, by simpa using own8_nil w w.heap.size, Chg.refl _ _, _, _, _, rfl⟩
  case round =>
    obtain ⟨m, hm, rfl, hO, hC, A, k, c, rfl⟩ := hrel
    have HO := Lib.hid hO; have HC := Lib.hid hC
    clear hO hC
    rcases Nat.eq_zero_or_pos m with rfl | hm0
    · go_wp2_with fail
      go_ret
      refine ⟨_, rfl, ?_, HC.out⟩
      have := HO.out
      rwa [Nat.sub_zero, List.take_of_length_le (by rw [be_length]; exact Nat.le_refl _)] at this
    · obtain ⟨e, rfl⟩ : ∃ e, m = e + 1 := ⟨m - 1, by omega⟩
      have hcase : e = 0 ∨ e = 1 ∨ e = 2 ∨ e = 3 ∨ e = 4 ∨ e = 5 ∨ e = 6 ∨ e = 7 := by omega
      obtain ⟨b, hb⟩ : ∃ b, UInt8.ofNat (u / 256 ^ e) = b := ⟨_, rfl⟩
      have HB := Lib.hid (by rw [← hb]; exact u8_byte _ : (b.toNat : Int) = ((u / 256 ^ e : Nat) : Int) % 256)
      have ht := be_take (n := n) (u := u) (e := e) (by omega)
      rw [hb] at ht
      have HT := Lib.hid ht; clear ht
      have hlen : ((be n u).take (n - (e + 1))).length + [b].length ≤ 140737488355328 := by
        have h1 : ((be n u).take (n - (e + 1))).length ≤ 8 := by rw [List.length_take, be_length]; omega
        simp only [List.length_cons, List.length_nil]; omega
      have hA : Chg (fun _ => False) wr (wr.alloc (.cells #[.int .u8 (b.toNat : Int)] 5)) := (Chg.refl _ wr).alloc _
      have hs := HC.out.size
      obtain ⟨v1, w1, hrun, ho, hg, hat⟩ := run_app8' (Own8.extF HO.out hA) (Bs.of_own (own8_lit wr wr.heap.size (Nat.le_refl _) [b] (by simp [maxLen]))) hlen (by simp; omega)
      obtain ⟨vA, vn, vc, rfl⟩ := ho.sliceF
      simp only [List.length_cons, List.length_nil, Nat.zero_add] at hrun
      have HRUN := Lib.hid hrun; have HO1 := Lib.hid ho
      have HC1 : Hid (Chg (fun _ => False) w w1) := Lib.hid ((HC.out.alloc _).grown hg (fun k hk hlt => absurd (own8_from HO.out hk) (by omega)))
      have hi : ((e + 1 : Nat) : Int) - 1 = (e : Int) := by omega
      rw [hi]
      clear hrun ho hg hat hA hb hi hlen
      rcases hcase with rfl | rfl | rfl | rfl | rfl | rfl | rfl | rfl
      · have hv : (u : Int) % 256 = (b.toNat : Int) := by have := HB.out; simp only [Nat.reducePow] at this; omega
        go_wp2_with (at_builtin; refine wpList_app HRUN.out rfl rfl rfl rfl rfl ?_)
        go_roundw
        case rel => exact ⟨0, by omega, by first | rfl | simp, by have h := HO1.out; rw [HT.out] at h; exact h, HC1.out, _, _, _, rfl⟩
        case measure => simp [intOf]
      · have hv : (u : Int) / 256 % 256 = (b.toNat : Int) := by have := HB.out; simp only [Nat.reducePow] at this; omega
        go_wp2_with (at_builtin; refine wpList_app HRUN.out rfl rfl rfl rfl rfl ?_)
        go_roundw
        case rel => exact ⟨1, by omega, by first | rfl | simp, by have h := HO1.out; rw [HT.out] at h; exact h, HC1.out, _, _, _, rfl⟩
        case measure => simp [intOf]
      · have hv : (u : Int) / 65536 % 256 = (b.toNat : Int) := by have := HB.out; simp only [Nat.reducePow] at this; omega
        go_wp2_with (at_builtin; refine wpList_app HRUN.out rfl rfl rfl rfl rfl ?_)
        go_roundw
        case rel => exact ⟨2, by omega, by first | rfl | simp, by have h := HO1.out; rw [HT.out] at h; exact h, HC1.out, _, _, _, rfl⟩
        case measure => simp [intOf]
      · have hv : (u : Int) / 16777216 % 256 = (b.toNat : Int) := by have := HB.out; simp only [Nat.reducePow] at this; omega
        go_wp2_with (at_builtin; refine wpList_app HRUN.out rfl rfl rfl rfl rfl ?_)
        go_roundw
        case rel => exact ⟨3, by omega, by first | rfl | simp, by have h := HO1.out; rw [HT.out] at h; exact h, HC1.out, _, _, _, rfl⟩
        case measure => simp [intOf]
      · have hv : (u : Int) / 4294967296 % 256 = (b.toNat : Int) := by have := HB.out; simp only [Nat.reducePow] at this; omega
        go_wp2_with (at_builtin; refine wpList_app HRUN.out rfl rfl rfl rfl rfl ?_)
        go_roundw
        case rel => exact ⟨4, by omega, by first | rfl | simp, by have h := HO1.out; rw [HT.out] at h; exact h, HC1.out, _, _, _, rfl⟩
        case measure => simp [intOf]
      · have hv : (u : Int) / 1099511627776 % 256 = (b.toNat : Int) := by have := HB.out; simp only [Nat.reducePow] at this; omega
        go_wp2_with (at_builtin; refine wpList_app HRUN.out rfl rfl rfl rfl rfl ?_)
        go_roundw
        case rel => exact ⟨5, by omega, by first | rfl | simp, by have h := HO1.out; rw [HT.out] at h; exact h, HC1.out, _, _, _, rfl⟩
        case measure => simp [intOf]
      · have hv : (u : Int) / 281474976710656 % 256 = (b.toNat : Int) := by have := HB.out; simp only [Nat.reducePow] at this; omega
        go_wp2_with (at_builtin; refine wpList_app HRUN.out rfl rfl rfl rfl rfl ?_)
        go_roundw
        case rel => exact ⟨6, by omega, by first | rfl | simp, by have h := HO1.out; rw [HT.out] at h; exact h, HC1.out, _, _, _, rfl⟩
        case measure => simp [intOf]
      · have hv : (u : Int) / 72057594037927936 % 256 = (b.toNat : Int) := by have := HB.out; simp only [Nat.reducePow] at this; omega
        go_wp2_with (at_builtin; refine wpList_app HRUN.out rfl rfl rfl rfl rfl ?_)
        go_roundw
        case rel => exact ⟨7, by omega, by first | rfl | simp, by have h := HO1.out; rw [HT.out] at h; exact h, HC1.out, _, _, _, rfl⟩
        case measure => simp [intOf]
end Go.Proofs.S
