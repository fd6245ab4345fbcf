/- The writer gives the pieces of each plain value: for values of the plain kinds. -/
import Derived.Test.YtoilepadamfacaaGreatDoorD11
import Derived.Lib.ConvBytes
set_option linter.unusedVariables false
set_option linter.unusedSimpArgs false
namespace Go.Proofs.S
open Go.RowKit Go.Maps
theorem toList_len (s : ByteArray) : s.data.toList.length = s.size := by rw [Array.length_toList]; rfl
theorem bytes_chg (W : World) (s : ByteArray) : Chg (fun _ => False) W (Lib.bytesWorld W 5 s) :=
  ⟨rfl, rfl, rfl, by rw [Lib.bytesWorld_size]; omega, fun k hk _ => Lib.bytesWorld_at_old W 5 s k hk⟩
theorem bytes_dat (W : World) (s : ByteArray) (base : Nat) (hb : base ≤ W.heap.size) : Dat (Lib.bytesWorld W 5 s) base (.slice (some ⟨W.heap.size, 0, none⟩) s.size (grownCap W s.size 0 5)) s.data.toList := by
  refine ⟨_, _, by rw [toList_len], by rw [toList_len]; exact grownCap_ge _ _ _ _, fun _ => ⟨_, _, _, rfl, hb, Lib.bytesWorld_at_new W 5 s, fun j b hj => ?_⟩⟩
  have hlt : j < s.size := by rw [← toList_len]; exact (List.getElem?_eq_some_iff.1 hj).1
  rw [Nat.zero_add, Lib.bytesWorld_cell W 5 s j hlt]
  simp [List.getD_eq_getElem?_getD, hj]
theorem lengthed_text {sh lo : Int} {dA : Option Addr} {n dC : Nat} {data : List UInt8} {G : Int → List UInt8 → Prop} {w : World} (hn : data.length = n) (hs : Bs w (.slice dA n dC) data) (hlen : n ≤ 2000000000) (hg1 : n ≤ 255 → G sh (be 1 n ++ [] ++ data)) (hg2 : G lo (be 4 n ++ [] ++ data)) :
    Calls Tryz.prog 122 #[.int .i64 sh, .int .i64 lo, .slice dA n dC, .int .i64 (-1)] w fun e w' => ∃ v, e = .returned v ∧ PcsNe 2 w.heap.size w' v G ∧ Chg (fun _ => False) w w' := by
  subst hn
  exact lengthed_neg hs hlen hg1 hg2
theorem len1 {n : Nat} (h : n ≤ 255) : ∃ b : UInt8, be 1 n = [b] ∧ n = b.toNat := ⟨UInt8.ofNat (n / 256 ^ 0), rfl, by simp only [UInt8.toNat_ofNat']; omega⟩
theorem len4 {n : Nat} (h : n ≤ 2000000000) : ∃ b0 b1 b2 b3 : UInt8, be 4 n = [b0, b1, b2, b3] ∧ n = Lib.beNat [b0, b1, b2, b3] := ⟨_, _, _, _, rfl, (beNat_be4 n (by omega)).symm⟩
theorem good_short {kd : Int} {u : Nat} {tx : List UInt8} (hk : kd = 18 ∨ kd = 19 ∨ kd = 20) (h : tx.length ≤ 255) : GoodV kd u tx (if kd = 18 then 160 else if kd = 19 then 161 else 163) (be 1 tx.length ++ [] ++ tx) := by
  obtain ⟨b, e1, e2⟩ := len1 h
  rw [e1]
  rcases hk with rfl | rfl | rfl
  · exact ⟨0xa0, rfl, BinEnc.short b e2⟩
  · exact ⟨0xa1, rfl, TextEnc.short 0xa1 b (.inl rfl) e2⟩
  · exact ⟨0xa3, rfl, TextEnc.short 0xa3 b (.inr rfl) e2⟩
theorem good_long {kd : Int} {u : Nat} {tx : List UInt8} (hk : kd = 18 ∨ kd = 19 ∨ kd = 20) (h : tx.length ≤ 2000000000) : GoodV kd u tx (if kd = 18 then 176 else if kd = 19 then 177 else 179) (be 4 tx.length ++ [] ++ tx) := by
  obtain ⟨b0, b1, b2, b3, e1, e2⟩ := len4 h
  rw [e1]
  rcases hk with rfl | rfl | rfl
  · exact ⟨0xb0, rfl, BinEnc.long b0 b1 b2 b3 e2⟩
  · exact ⟨0xb1, rfl, TextEnc.long 0xb1 b0 b1 b2 b3 (.inl rfl) e2⟩
  · exact ⟨0xb3, rfl, TextEnc.long 0xb3 b0 b1 b2 b3 (.inr rfl) e2⟩
set_option maxHeartbeats 2000000 in
set_option maxRecDepth 1000000 in
theorem pieces_0 {u : Nat}  (tx : ByteArray) (A : Option Addr) (n c : Nat) (o : Int) (A' : Option Addr) (n' c' : Nat) (fp : Value) (w : World) :
    Calls Tryz.prog 66 #[fp, .agg #[.int .i64 0, .int .u64 (u : Int), .string tx, .slice A n c, .int .i64 o, .slice A' n' c']] w fun e w' => ∃ v, e = .returned v ∧ PcsNe 3 w.heap.size w' v (GoodV 0 u tx.data.toList) ∧ Chg (fun _ => False) w w' := by
  go_enter Tryz.func66, Tryz.ntmps66
  go_wp2_with fail
  go_ret
  have hA : Chg (fun _ => False) w (w.alloc (.cells #[.int .i64 0, .int .u64 (u : Int), .string tx, .slice A n c, .int .i64 o, .slice A' n' c'] 81)) := (Chg.refl _ w).alloc _
  have hok : PcOk w.heap.size (w.alloc (.cells #[.int .i64 0, .int .u64 (u : Int), .string tx, .slice A n c, .int .i64 o, .slice A' n' c'] 81)) (GoodV 0 u tx.data.toList) (.int .i64 64, .slice none 0 0) := ⟨_, [], rfl, .of_own (own8_nil _ _), ⟨0x40, rfl, rfl⟩⟩
  have hP := PcsNe.lit1 hok hA.size
  exact ⟨.slice (some ⟨w.heap.size + 1, 0, none⟩) 1 1, rfl, by simpa using PcsNe.more (n := 1) (m := 3) hP (by decide), hA.alloc _⟩
set_option maxHeartbeats 2000000 in
set_option maxRecDepth 1000000 in
theorem pieces_4 {u : Nat} (hu : u < 4294967296) (tx : ByteArray) (A : Option Addr) (n c : Nat) (o : Int) (A' : Option Addr) (n' c' : Nat) (fp : Value) (w : World) :
    Calls Tryz.prog 66 #[fp, .agg #[.int .i64 4, .int .u64 (u : Int), .string tx, .slice A n c, .int .i64 o, .slice A' n' c']] w fun e w' => ∃ v, e = .returned v ∧ PcsNe 3 w.heap.size w' v (GoodV 4 u tx.data.toList) ∧ Chg (fun _ => False) w w' := by
  have HU := Lib.hid hu; clear hu
  go_enter Tryz.func66, Tryz.ntmps66
  go_wp2_with fail
  refine (numbered_4 HU.out tx A n c o A' n' c' _).mono ?_
  rintro _ w1 ⟨v, rfl, hP, hC⟩
  obtain ⟨gv, lv, cv, hv, _⟩ := hP.at
  rw [hv] at hP ⊢
  clear hv
  have HP := Lib.hid hP; have HC := Lib.hid hC
  clear hP hC
  go_wp2_with fail
  go_ret
  have hA : Chg (fun _ => False) w (w.alloc (.cells #[.int .i64 4, .int .u64 (u : Int), .string tx, .slice A n c, .int .i64 o, .slice A' n' c'] 81)) := (Chg.refl _ w).alloc _
  exact ⟨_, rfl, HP.out.base hA.size, hA.reads HC.out⟩
set_option maxHeartbeats 2000000 in
set_option maxRecDepth 1000000 in
theorem pieces_5 {u : Nat} (hu : u < U64) (tx : ByteArray) (A : Option Addr) (n c : Nat) (o : Int) (A' : Option Addr) (n' c' : Nat) (fp : Value) (w : World) :
    Calls Tryz.prog 66 #[fp, .agg #[.int .i64 5, .int .u64 (u : Int), .string tx, .slice A n c, .int .i64 o, .slice A' n' c']] w fun e w' => ∃ v, e = .returned v ∧ PcsNe 3 w.heap.size w' v (GoodV 5 u tx.data.toList) ∧ Chg (fun _ => False) w w' := by
  have HU := Lib.hid hu; clear hu
  go_enter Tryz.func66, Tryz.ntmps66
  go_wp2_with fail
  refine (numbered_5 HU.out tx A n c o A' n' c' _).mono ?_
  rintro _ w1 ⟨v, rfl, hP, hC⟩
  obtain ⟨gv, lv, cv, hv, _⟩ := hP.at
  rw [hv] at hP ⊢
  clear hv
  have HP := Lib.hid hP; have HC := Lib.hid hC
  clear hP hC
  go_wp2_with fail
  go_ret
  have hA : Chg (fun _ => False) w (w.alloc (.cells #[.int .i64 5, .int .u64 (u : Int), .string tx, .slice A n c, .int .i64 o, .slice A' n' c'] 81)) := (Chg.refl _ w).alloc _
  exact ⟨_, rfl, HP.out.base hA.size, hA.reads HC.out⟩
set_option maxHeartbeats 2000000 in
set_option maxRecDepth 1000000 in
theorem pieces_16 {u : Nat} (hu : u < U64) (tx : ByteArray) (A : Option Addr) (n c : Nat) (o : Int) (A' : Option Addr) (n' c' : Nat) (fp : Value) (w : World) :
    Calls Tryz.prog 66 #[fp, .agg #[.int .i64 16, .int .u64 (u : Int), .string tx, .slice A n c, .int .i64 o, .slice A' n' c']] w fun e w' => ∃ v, e = .returned v ∧ PcsNe 3 w.heap.size w' v (GoodV 16 u tx.data.toList) ∧ Chg (fun _ => False) w w' := by
  have HU := Lib.hid hu; clear hu
  go_enter Tryz.func66, Tryz.ntmps66
  go_wp2_with fail
  refine (numbered_16 HU.out tx A n c o A' n' c' _).mono ?_
  rintro _ w1 ⟨v, rfl, hP, hC⟩
  obtain ⟨gv, lv, cv, hv, _⟩ := hP.at
  rw [hv] at hP ⊢
  clear hv
  have HP := Lib.hid hP; have HC := Lib.hid hC
  clear hP hC
  go_wp2_with fail
  go_ret
  have hA : Chg (fun _ => False) w (w.alloc (.cells #[.int .i64 16, .int .u64 (u : Int), .string tx, .slice A n c, .int .i64 o, .slice A' n' c'] 81)) := (Chg.refl _ w).alloc _
  exact ⟨_, rfl, HP.out.base hA.size, hA.reads HC.out⟩
set_option maxHeartbeats 2000000 in
set_option maxRecDepth 1000000 in
theorem pieces_18 {u : Nat}  (tx : ByteArray) (htx : tx.size ≤ 2000000000) (A : Option Addr) (n c : Nat) (o : Int) (A' : Option Addr) (n' c' : Nat) (fp : Value) (w : World) :
    Calls Tryz.prog 66 #[fp, .agg #[.int .i64 18, .int .u64 (u : Int), .string tx, .slice A n c, .int .i64 o, .slice A' n' c']] w fun e w' => ∃ v, e = .returned v ∧ PcsNe 3 w.heap.size w' v (GoodV 18 u tx.data.toList) ∧ Chg (fun _ => False) w w' := by
  have HT := Lib.hid htx; clear htx
  have kb := fun W => Lib.run_convert_string_bytes (P := Tryz.prog) W 9 23 5 tx Tryz.underlying9 Tryz.underlying23 Tryz.underlying5
  go_enter Tryz.func66, Tryz.ntmps66
  go_wp2_with fail
  have hbs := (bytes_dat (w.alloc (.cells #[.int .i64 18, .int .u64 (u : Int), .string tx, .slice A n c, .int .i64 o, .slice A' n' c'] 81)) tx 0 (Nat.zero_le _)).bs
  have hsz : (w.alloc (.cells #[.int .i64 18, .int .u64 (u : Int), .string tx, .slice A n c, .int .i64 o, .slice A' n' c'] 81)).heap.size = w.heap.size + 1 := by simp
  rw [hsz] at hbs
  clear hsz
  refine (lengthed_text (G := GoodV 18 u tx.data.toList) (toList_len tx) hbs HT.out (fun h => ?_) ?_).mono ?_
  · have := good_short (kd := 18) (u := u) (tx := tx.data.toList) (by decide) (by rw [toList_len]; exact h)
    rw [toList_len] at this
    exact this
  · have := good_long (kd := 18) (u := u) (tx := tx.data.toList) (by decide) (by rw [toList_len]; exact HT.out)
    rw [toList_len] at this
    exact this
  rintro _ w1 ⟨v, rfl, hP, hC⟩
  obtain ⟨gv, lv, cv, hv, _⟩ := hP.at
  rw [hv] at hP ⊢
  clear hv
  have HP := Lib.hid hP; have HC := Lib.hid hC
  clear hP hC
  go_wp2_with fail
  go_ret
  have hA : Chg (fun _ => False) w (w.alloc (.cells #[.int .i64 18, .int .u64 (u : Int), .string tx, .slice A n c, .int .i64 o, .slice A' n' c'] 81)) := (Chg.refl _ w).alloc _
  have hB := hA.reads (bytes_chg _ tx)
  exact ⟨_, rfl, (HP.out.base hB.size).more (by decide), hB.reads HC.out⟩
set_option maxHeartbeats 2000000 in
set_option maxRecDepth 1000000 in
theorem pieces_19 {u : Nat}  (tx : ByteArray) (htx : tx.size ≤ 2000000000) (A : Option Addr) (n c : Nat) (o : Int) (A' : Option Addr) (n' c' : Nat) (fp : Value) (w : World) :
    Calls Tryz.prog 66 #[fp, .agg #[.int .i64 19, .int .u64 (u : Int), .string tx, .slice A n c, .int .i64 o, .slice A' n' c']] w fun e w' => ∃ v, e = .returned v ∧ PcsNe 3 w.heap.size w' v (GoodV 19 u tx.data.toList) ∧ Chg (fun _ => False) w w' := by
  have HT := Lib.hid htx; clear htx
  have kb := fun W => Lib.run_convert_string_bytes (P := Tryz.prog) W 9 23 5 tx Tryz.underlying9 Tryz.underlying23 Tryz.underlying5
  go_enter Tryz.func66, Tryz.ntmps66
  go_wp2_with fail
  have hbs := (bytes_dat (w.alloc (.cells #[.int .i64 19, .int .u64 (u : Int), .string tx, .slice A n c, .int .i64 o, .slice A' n' c'] 81)) tx 0 (Nat.zero_le _)).bs
  have hsz : (w.alloc (.cells #[.int .i64 19, .int .u64 (u : Int), .string tx, .slice A n c, .int .i64 o, .slice A' n' c'] 81)).heap.size = w.heap.size + 1 := by simp
  rw [hsz] at hbs
  clear hsz
  refine (lengthed_text (G := GoodV 19 u tx.data.toList) (toList_len tx) hbs HT.out (fun h => ?_) ?_).mono ?_
  · have := good_short (kd := 19) (u := u) (tx := tx.data.toList) (by decide) (by rw [toList_len]; exact h)
    rw [toList_len] at this
    exact this
  · have := good_long (kd := 19) (u := u) (tx := tx.data.toList) (by decide) (by rw [toList_len]; exact HT.out)
    rw [toList_len] at this
    exact this
  rintro _ w1 ⟨v, rfl, hP, hC⟩
  obtain ⟨gv, lv, cv, hv, _⟩ := hP.at
  rw [hv] at hP ⊢
  clear hv
  have HP := Lib.hid hP; have HC := Lib.hid hC
  clear hP hC
  go_wp2_with fail
  go_ret
  have hA : Chg (fun _ => False) w (w.alloc (.cells #[.int .i64 19, .int .u64 (u : Int), .string tx, .slice A n c, .int .i64 o, .slice A' n' c'] 81)) := (Chg.refl _ w).alloc _
  have hB := hA.reads (bytes_chg _ tx)
  exact ⟨_, rfl, (HP.out.base hB.size).more (by decide), hB.reads HC.out⟩
set_option maxHeartbeats 2000000 in
set_option maxRecDepth 1000000 in
theorem pieces_20 {u : Nat}  (tx : ByteArray) (htx : tx.size ≤ 2000000000) (A : Option Addr) (n c : Nat) (o : Int) (A' : Option Addr) (n' c' : Nat) (fp : Value) (w : World) :
    Calls Tryz.prog 66 #[fp, .agg #[.int .i64 20, .int .u64 (u : Int), .string tx, .slice A n c, .int .i64 o, .slice A' n' c']] w fun e w' => ∃ v, e = .returned v ∧ PcsNe 3 w.heap.size w' v (GoodV 20 u tx.data.toList) ∧ Chg (fun _ => False) w w' := by
  have HT := Lib.hid htx; clear htx
  have kb := fun W => Lib.run_convert_string_bytes (P := Tryz.prog) W 9 23 5 tx Tryz.underlying9 Tryz.underlying23 Tryz.underlying5
  go_enter Tryz.func66, Tryz.ntmps66
  go_wp2_with fail
  have hbs := (bytes_dat (w.alloc (.cells #[.int .i64 20, .int .u64 (u : Int), .string tx, .slice A n c, .int .i64 o, .slice A' n' c'] 81)) tx 0 (Nat.zero_le _)).bs
  have hsz : (w.alloc (.cells #[.int .i64 20, .int .u64 (u : Int), .string tx, .slice A n c, .int .i64 o, .slice A' n' c'] 81)).heap.size = w.heap.size + 1 := by simp
  rw [hsz] at hbs
  clear hsz
  refine (lengthed_text (G := GoodV 20 u tx.data.toList) (toList_len tx) hbs HT.out (fun h => ?_) ?_).mono ?_
  · have := good_short (kd := 20) (u := u) (tx := tx.data.toList) (by decide) (by rw [toList_len]; exact h)
    rw [toList_len] at this
    exact this
  · have := good_long (kd := 20) (u := u) (tx := tx.data.toList) (by decide) (by rw [toList_len]; exact HT.out)
    rw [toList_len] at this
    exact this
  rintro _ w1 ⟨v, rfl, hP, hC⟩
  obtain ⟨gv, lv, cv, hv, _⟩ := hP.at
  rw [hv] at hP ⊢
  clear hv
  have HP := Lib.hid hP; have HC := Lib.hid hC
  clear hP hC
  go_wp2_with fail
  go_ret
  have hA : Chg (fun _ => False) w (w.alloc (.cells #[.int .i64 20, .int .u64 (u : Int), .string tx, .slice A n c, .int .i64 o, .slice A' n' c'] 81)) := (Chg.refl _ w).alloc _
  have hB := hA.reads (bytes_chg _ tx)
  exact ⟨_, rfl, (HP.out.base hB.size).more (by decide), hB.reads HC.out⟩
def RU8 (base b0 u : Nat) (tx : ByteArray) (i : Nat) (v : Value) (m : Nat → Value) (c : Nat) (w : World) : Prop :=
  match i with
  | 0 => v = .pointer (some ⟨b0, 0, none⟩)
  | 1 => v = .int .i64 17
  | 2 => v = .int .i64 152
  | 3 => v = .pointer (some ⟨b0, 2, none⟩)
  | 4 => v = .string tx
  | 5 => (∃ A7 n7 c7, v = .slice A7 n7 c7) ∧ Dat w base v tx.data.toList
  | 6 => ∃ A7 n7 c7, v = .agg #[.int .i64 152, .slice A7 n7 c7] ∧ Dat w base (.slice A7 n7 c7) tx.data.toList
  | 7 => PcsNe 1 base w v (GoodV 17 u tx.data.toList)
  | 8 => PcsNe 1 base w v (GoodV 17 u tx.data.toList)
  | _ => True
theorem RU8_ext (base b0 u : Nat) (tx : ByteArray) {i : Nat} {v : Value} {m : Nat → Value} {c : Nat} {w w1 : World} (h : RU8 base b0 u tx i v m c w) (hc : Chg (fun _ => False) w w1) : RU8 base b0 u tx i v m (c + 1) w1 := by
  unfold RU8 at h ⊢
  split
  · exact h
  · exact h
  · exact h
  · exact h
  · exact h
  · exact ⟨h.1, h.2.move (fun g cs fr _ hh => hc.block g (Array.getElem?_eq_some_iff.1 hh).1 (fun h => h))⟩
  · obtain ⟨A7, n7, c7, h1, h2⟩ := h; exact ⟨A7, n7, c7, h1, h2.move (fun g cs fr _ hh => hc.block g (Array.getElem?_eq_some_iff.1 hh).1 (fun h => h))⟩
  · exact h.chg hc (fun _ h => h.elim)
  · exact h.chg hc (fun _ h => h.elim)
  · trivial
set_option maxHeartbeats 2000000 in
set_option maxRecDepth 1000000 in
theorem pieces_17 {u : Nat} (tx : ByteArray) (htx : tx.size = 16) (A : Option Addr) (n c : Nat) (o : Int) (A' : Option Addr) (n' c' : Nat) (fp : Value) (w : World) :
    Calls Tryz.prog 66 #[fp, .agg #[.int .i64 17, .int .u64 (u : Int), .string tx, .slice A n c, .int .i64 o, .slice A' n' c']] w fun e w' => ∃ v, e = .returned v ∧ PcsNe 3 w.heap.size w' v (GoodV 17 u tx.data.toList) ∧ Chg (fun _ => False) w w' := by
  have HT : Hid (tx.data.toList.length = 16) := Lib.hid (by rw [toList_len]; exact htx)
  clear htx
  go_enter Tryz.func66, Tryz.ntmps66
  go_wp2_with fail
  refine wp_any_world (fun w' => Chg (fun _ => False) w w' ∧ w'.heap[w.heap.size]? = some (.cells #[.int .i64 17, .int .u64 (u : Int), .string tx, .slice A n c, .int .i64 o, .slice A' n' c'] 81 (0, 0))) ⟨(Chg.refl _ w).alloc _, heap_alloc_new _ _⟩ ?_
  rintro wB ⟨hB, hbx⟩
  have c0 := blk_cell (k := 0) hbx rfl
  have c2 := blk_cell (k := 2) hbx rfl
  have HBC := Lib.hid hB; clear hB hbx
  refine wp_region_rel (RU8 wB.heap.size w.heap.size u tx) (fun w' => Chg (fun _ => False) wB w') [8] (by kernel_rfl) (by kernel_rfl) (by kernel_rfl) (by kernel_rfl) ((Chg.refl _ wB).drewN 1) ?steps ?fin
  case steps =>
    refine ⟨⟨rfl, ?_⟩, ⟨rfl, ?_⟩, ⟨rfl, ?_⟩, ⟨rfl, ?_⟩, ⟨rfl, ?_⟩, ⟨rfl, ?_⟩, ⟨rfl, ?_⟩, ⟨rfl, ?_⟩, ⟨rfl, ?_⟩, trivial⟩
    all_goals (intro vals ev c w1 hc hI hR hv h0 hcst hfn hgl)
    · have e3 : ev (.tmp 3) = .pointer (some ⟨w.heap.size, 0, none⟩) := h0 3 (by kernel_rfl)
      have l_c0 := Chg.cell hI c0 (fun h => h)
      have l_c2 := Chg.cell hI c2 (fun h => h)
      clear hR hv h0 hc
      refine Step.fixed (x := .pointer (some ⟨w.heap.size, 0, none⟩)) ?_ ⟨rfl, hI, fun i_ x_ m_ _ _ h_ => RU8_ext wB.heap.size w.heap.size u tx h_ (Chg.refl _ _)⟩
      unfold OpDoes
      go_simp
    · have e31 : ev (.tmp 31) = .pointer (some ⟨w.heap.size, 0, none⟩) := (hv 0 31 (by kernel_rfl) (by kernel_rfl) (Nat.le_of_ble_eq_true (by kernel_rfl))).trans (hR 0 (by kernel_rfl))
      have l_c0 := Chg.cell hI c0 (fun h => h)
      have l_c2 := Chg.cell hI c2 (fun h => h)
      clear hR hv h0 hc
      refine Step.fixed (x := .int .i64 17) ?_ ⟨rfl, hI, fun i_ x_ m_ _ _ h_ => RU8_ext wB.heap.size w.heap.size u tx h_ (Chg.refl _ _)⟩
      unfold OpDoes
      go_simp
    · have e32 : ev (.tmp 32) = .int .i64 17 := (hv 1 32 (by kernel_rfl) (by kernel_rfl) (Nat.le_of_ble_eq_true (by kernel_rfl))).trans (hR 1 (by kernel_rfl))
      have hf := hfn 121
      clear hR hv h0 hc
      unfold OpDoes
      go_simp
      refine (coded_at 17 152 (by decide) (by kernel_rfl) w1).mono ?_
      rintro _ w2 ⟨rfl, hC⟩
      exact ⟨_, rfl, rfl, hI.reads hC, fun i_ x_ m_ _ _ h_ => RU8_ext wB.heap.size w.heap.size u tx h_ hC⟩
    · have e3 : ev (.tmp 3) = .pointer (some ⟨w.heap.size, 0, none⟩) := h0 3 (by kernel_rfl)
      have l_c0 := Chg.cell hI c0 (fun h => h)
      have l_c2 := Chg.cell hI c2 (fun h => h)
      clear hR hv h0 hc
      refine Step.fixed (x := .pointer (some ⟨w.heap.size, 2, none⟩)) ?_ ⟨rfl, hI, fun i_ x_ m_ _ _ h_ => RU8_ext wB.heap.size w.heap.size u tx h_ (Chg.refl _ _)⟩
      unfold OpDoes
      go_simp
    · have e34 : ev (.tmp 34) = .pointer (some ⟨w.heap.size, 2, none⟩) := (hv 3 34 (by kernel_rfl) (by kernel_rfl) (Nat.le_of_ble_eq_true (by kernel_rfl))).trans (hR 3 (by kernel_rfl))
      have l_c0 := Chg.cell hI c0 (fun h => h)
      have l_c2 := Chg.cell hI c2 (fun h => h)
      clear hR hv h0 hc
      refine Step.fixed (x := .string tx) ?_ ⟨rfl, hI, fun i_ x_ m_ _ _ h_ => RU8_ext wB.heap.size w.heap.size u tx h_ (Chg.refl _ _)⟩
      unfold OpDoes
      go_simp
    · have e35 : ev (.tmp 35) = .string tx := (hv 4 35 (by kernel_rfl) (by kernel_rfl) (Nat.le_of_ble_eq_true (by kernel_rfl))).trans (hR 4 (by kernel_rfl))
      clear hR hv h0 hc
      refine OpDoes.mono (p := fun v w2 => v = .slice (some ⟨w1.heap.size, 0, none⟩) tx.size (grownCap w1 tx.size 0 5) ∧ w2 = Lib.bytesWorld w1 5 tx) ?_ ?_
      · have kb := Lib.run_convert_string_bytes (P := Tryz.prog) w1 9 23 5 tx Tryz.underlying9 Tryz.underlying23 Tryz.underlying5
        unfold OpDoes
        go_simp
      · rintro v w2 ⟨rfl, rfl⟩
        exact ⟨⟨⟨_, _, _, rfl⟩, bytes_dat w1 tx wB.heap.size hI.size⟩, hI.reads (bytes_chg w1 tx), fun i_ x_ m_ _ _ h_ => RU8_ext wB.heap.size w.heap.size u tx h_ (bytes_chg w1 tx)⟩
    · have e33 : ev (.tmp 33) = vals 2 := hv 2 33 (by kernel_rfl) (by kernel_rfl) (Nat.le_of_ble_eq_true (by kernel_rfl))
      have e36 : ev (.tmp 36) = vals 5 := hv 5 36 (by kernel_rfl) (by kernel_rfl) (Nat.le_of_ble_eq_true (by kernel_rfl))
      have h2 : vals 2 = .int .i64 152 := hR 2 (by kernel_rfl)
      obtain ⟨⟨A7, n7, c7, h7e⟩, h7⟩ := (hR 5 (by kernel_rfl) : (∃ A7 n7 c7, vals 5 = .slice A7 n7 c7) ∧ Dat w1 wB.heap.size (vals 5) tx.data.toList)
      rw [h2] at e33
      rw [h7e] at e36 h7
      have H7 := Lib.hid h7; clear h7 h7e h2
      clear hR hv h0 hc
      refine Step.fixed (x := .agg #[.int .i64 152, .slice A7 n7 c7]) ?_ ⟨⟨_, _, _, rfl, H7.out⟩, hI, fun i_ x_ m_ _ _ h_ => RU8_ext wB.heap.size w.heap.size u tx h_ (Chg.refl _ _)⟩
      unfold OpDoes
      go_simp
    · have e37 : ev (.tmp 37) = vals 6 := hv 6 37 (by kernel_rfl) (by kernel_rfl) (Nat.le_of_ble_eq_true (by kernel_rfl))
      obtain ⟨A7, n7, c7, g1, g2⟩ := (hR 6 (by kernel_rfl) : ∃ A7 n7 c7, vals 6 = .agg #[.int .i64 152, .slice A7 n7 c7] ∧ Dat w1 wB.heap.size (.slice A7 n7 c7) tx.data.toList)
      rw [g1] at e37
      have H7 := Lib.hid g2; clear g1 g2
      clear hR hv h0 hc
      refine OpDoes.mono (p := fun v w2 => v = .slice (some ⟨w1.heap.size, 0, none⟩) 1 1 ∧ w2 = w1.alloc (.cells #[.int .i64 152, .slice A7 n7 c7] 154)) ?_ ?_
      · unfold OpDoes
        go_simp
      · rintro v w2 ⟨rfl, rfl⟩
        have hok : PcOk wB.heap.size w1 (GoodV 17 u tx.data.toList) (.int .i64 152, .slice A7 n7 c7) := ⟨_, _, rfl, H7.out, ⟨0x98, rfl, UuidEnc.mk HT.out⟩⟩
        exact ⟨PcsNe.lit1 hok hI.size, hI.alloc _, fun i_ x_ m_ _ _ h_ => RU8_ext wB.heap.size w.heap.size u tx h_ ((Chg.refl _ _).alloc _)⟩
    · have e38 : ev (.tmp 38) = vals 7 := hv 7 38 (by kernel_rfl) (by kernel_rfl) (Nat.le_of_ble_eq_true (by kernel_rfl))
      have h7 : PcsNe 1 wB.heap.size w1 (vals 7) (GoodV 17 u tx.data.toList) := hR 7 (by kernel_rfl)
      exact does_value rfl ⟨e38 ▸ h7, hI, fun i_ x_ m_ _ _ h_ => RU8_ext wB.heap.size w.heap.size u tx h_ (Chg.refl _ _)⟩
  case fin =>
    intro vals c9 wZ hC hfin
    have h8 : PcsNe 1 wB.heap.size wZ (vals 8) (GoodV 17 u tx.data.toList) := hfin 8 (by kernel_rfl) (by decide)
    clear hfin
    obtain ⟨gv, lv, cv, hv, _⟩ := h8.at
    rw [hv] at h8
    have HP := Lib.hid h8; have HC := Lib.hid hC
    clear h8 hC c0 c2
    simp only [putAll, Act.put, List.setIfInBounds_toArray, List.set_cons_zero, List.set_cons_succ, Nat.reduceAdd]
    rw [hv]
    clear hv
    go_wp2_with fail
    go_ret
    exact ⟨_, rfl, (HP.out.base HBC.out.size).more (by decide), HBC.out.reads HC.out⟩
end Go.Proofs.S
