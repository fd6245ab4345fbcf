/- The general composite reader goes through its fields, and the reader reads a uuid: for a reader that holds the bytes of one encoding. -/
import Derived.Test.YtoilepadamfacaaGreatDoorB8
import Derived.Laws.EntriesVeiled
import Derived.Laws.CopyOwn
set_option linter.unusedVariables false
set_option linter.unusedSimpArgs false
namespace Go.Proofs.S
open Go.RowKit
/-- A handler of nothing: none, or one that does its work. -/
def HandlerOk (P : Program) (H : Value) (w : World) (Post : World → Prop) : Prop :=
  (H = .nilFunc ∧ Post w) ∨ ∃ f cap, H = .func (.func f) #[] cap ∧ (∀ x : World, (callFunc f cap).run P x = .ok (.enter f cap) x) ∧ Calls P f cap w (fun e w' => e = .returned .nilIface ∧ Post w')
set_option maxRecDepth 100000 in
set_option maxHeartbeats 1000000 in
theorem unmarshalComposite {w : World} {r d n c i fb fo fcap K N m code : Nat} {bs enc : List UInt8} (ft : Nat → TypeId) (fv H : Nat → Value) (hH : ∀ k, H k = .nilFunc ∨ ∃ f cap, H k = .func (.func f) #[] cap) (pos : Nat → Nat) (J : Nat → World → Prop)
    (h : Buf w r d n c i bs) (hi0 : At bs i [0]) (hu : EncUlong code enc) (hue : At bs (i + 1) enc) (hl : LHead bs n (i + 1 + enc.length) K m) (hcode : code < 256) (hKN : K ≤ N) (hN : N ≤ fcap) (hN2 : fcap ≤ 1000)
    (hJ0 : ∀ w', Buf w' r d n c (i + (1 + enc.length + m)) bs → Chg (· = r) w w' → J 0 w')
    (hbuf : ∀ k w', k ≤ K → J k w' → Buf w' r d n c (pos k) bs)
    (hfld : ∀ k w', k ≤ N → J k w' → ∀ j, j < N → w'.cell? ⟨fb, fo + j * 2, none⟩ = some (.iface (ft j) (fv j)) ∧ w'.cell? ⟨fb, fo + j * 2 + 1, none⟩ = some (H j))
    (hext : ∀ k w' w'', J k w' → Chg (fun _ => False) w' w'' → J k w'')
    (nul : Nat → Bool) (stepN : ∀ k, k < K → nul k = true → At bs (pos k) [0x40] ∧ ∀ w' w'', J k w' → Buf w'' r d n c (pos k + 1) bs → Chg (· = r) w' w'' → HandlerOk Tryz.prog (H k) w'' (J (k + 1)))
    (stepV : ∀ k, k < K → nul k = false → ∃ x : UInt8, At bs (pos k) [x] ∧ ((x.toNat : Int) == 64) = false ∧ ∀ w', J k w' → Calls Tryz.prog 84 #[.pointer (some ⟨r, 0, none⟩), .iface (ft k) (fv k)] w' (fun e w'' => e = .returned .nilIface ∧ J (k + 1) w''))
    (rest : ∀ k w', K ≤ k → k < N → J k w' → HandlerOk Tryz.prog (H k) w' (J (k + 1))) :
    Calls Tryz.prog 59 #[.pointer (some ⟨r, 0, none⟩), .int .u8 (code : Int), .slice (some ⟨fb, fo, none⟩) N fcap] w (fun e w' => e = .returned .nilIface ∧ J N w') := by
  have hgt : decide (N < K) = false := by simp; omega
  have hK0 : (0 : Int) ≤ (K : Int) := by omega
  have hKc : (K : Int) ≤ (fcap : Int) := by omega
  have HH0 := Lib.hid hH; clear hH
  have hn0 : ∀ x : World, (binOp .neq 134 .nilFunc .nilFunc).run Tryz.prog x = .ok (.bool false) x := fun _ => by kernel_rfl
  have hn1 : ∀ (f : FuncId) (cap : Array Value) (x : World), (binOp .neq 134 (.func (.func f) #[] cap) .nilFunc).run Tryz.prog x = .ok (.bool true) x := fun _ _ _ => by kernel_rfl
  have HF := Lib.hid hfld; clear hfld
  have HKN := Lib.hid hKN
  have HN := Lib.hid stepN; clear stepN
  have HV := Lib.hid stepV; clear stepV
  have HR := Lib.hid rest; clear rest
  have HE := Lib.hid hext; clear hext
  have HB := Lib.hid hbuf; clear hbuf
  have HJ := Lib.hid hJ0; clear hJ0
  go_enter Tryz.func59, Tryz.ntmps59
  go_wp2_with fail
  refine (readCompositeHeader h hi0 hu hue hl hcode).mono ?_
  rintro _ w1 ⟨rfl, hB, hC⟩
  have J0 := Lib.hid (HJ.out w1 hB hC)
  go_wp2_with fail
  go_loopw [36] (fun i wr => ∃ k : Nat, k ≤ K ∧ i = .int .i64 (k : Int) ∧ J k wr) (fun i _ => K - (intOf i).toNat)
  case atStart => exact ⟨0, Nat.zero_le _, rfl, J0.out⟩
  case round =>
    obtain ⟨k, hk, rfl, hJ⟩ := hrel
    by_cases hlt : k < K
    · have hwk : IntKind.i64.wrap ((k : Int) + 1) = (k : Int) + 1 := IntWalk.i64_in _ (by omega)
      have hk0 : (0 : Int) ≤ (k : Int) := by omega
      have hkK : (k : Int) < (K : Int) := by omega
      have hkc : (k : Int) < (fcap : Int) := by omega
      obtain ⟨c0, c1⟩ := HF.out k wr (by omega) hJ k (by omega)
      have HJk := Lib.hid hJ; clear hJ
      have hBk := HB.out k wr hk HJk.out
      have hr := hBk.rlt
      rcases HH0.out k with hHk | ⟨f0, cap0, hHk⟩
      · rw [hHk] at c1
        have HHk := Lib.hid hHk; clear hHk
        cases hnul : nul k with
        | true =>
          obtain ⟨hat, hstep⟩ := HN.out k hlt hnul
          have HST := Lib.hid (hstep wr); clear hstep
          have HBk := Lib.hid hBk; clear hBk
          have HNUL := Lib.hid hnul; clear hnul
          go_wp2_with fail
          refine (tryNull_yes (HBk.out.ext ((Chg.refl _ wr).alloc _)) hat).mono ?_
          rintro _ w2 ⟨rfl, hB2, hC2⟩
          have hb2 := blk_new hC2 (not_r hr)
          have d1 := blk_cell (k := 1) hb2 rfl
          have HC := Lib.hid (HST.out w2 HJk.out hB2 hC2.from_alloc)
          have hJn : J (k + 1) w2 := by
            rcases HC.out with ⟨_, h⟩ | ⟨f, cap, h, _⟩
            · exact h
            · rw [HHk.out] at h; cases h
          have HJn := Lib.hid hJn; clear hJn
          go_wp2
          go_roundw
          case rel => first | exact ⟨k + 1, by omega, by go_num, HJn.out⟩ | ((repeat apply Exists.intro); exact ⟨⟨k + 1, by omega, by go_num, HJn.out⟩, rfl⟩)
          case measure => simp [intOf]; omega
        | false =>
          obtain ⟨x, hat, hx, hcall⟩ := HV.out k hlt hnul
          have HST := Lib.hid hcall; clear hcall
          have HBk := Lib.hid hBk; clear hBk
          have HNUL := Lib.hid hnul; clear hnul
          go_wp2_with fail
          refine (tryNull_no (HBk.out.ext ((Chg.refl _ wr).alloc _)) hat hx).mono ?_
          rintro _ w2 ⟨rfl, j, rfl⟩
          go_wp2_with fail
          refine (HST.out _ (HE.out k wr _ HJk.out (((Chg.refl _ wr).alloc _).drewN _))).mono ?_
          rintro _ w3 ⟨rfl, hJn⟩
          have HJn := Lib.hid hJn; clear hJn
          go_wp2
          go_roundw
          case rel => first | exact ⟨k + 1, by omega, by go_num, HJn.out⟩ | ((repeat apply Exists.intro); exact ⟨⟨k + 1, by omega, by go_num, HJn.out⟩, rfl⟩)
          case measure => simp [intOf]; omega
      · rw [hHk] at c1
        have HHk := Lib.hid hHk; clear hHk
        cases hnul : nul k with
        | true =>
          obtain ⟨hat, hstep⟩ := HN.out k hlt hnul
          have HST := Lib.hid (hstep wr); clear hstep
          have HBk := Lib.hid hBk; clear hBk
          have HNUL := Lib.hid hnul; clear hnul
          go_wp2_with fail
          refine (tryNull_yes (HBk.out.ext ((Chg.refl _ wr).alloc _)) hat).mono ?_
          rintro _ w2 ⟨rfl, hB2, hC2⟩
          have hb2 := blk_new hC2 (not_r hr)
          have d1 := blk_cell (k := 1) hb2 rfl
          have HC := Lib.hid (HST.out w2 HJk.out hB2 hC2.from_alloc)
          have hcl : (∀ x : World, (callFunc f0 cap0).run Tryz.prog x = .ok (.enter f0 cap0) x) ∧ Calls Tryz.prog f0 cap0 w2 (fun e w' => e = .returned .nilIface ∧ J (k + 1) w') := by
            rcases HC.out with ⟨h, _⟩ | ⟨f, cap, h, h'⟩
            · rw [HHk.out] at h; cases h
            · rw [HHk.out] at h
              injection h with h1 h2 h3
              injection h1 with h1
              subst h1; subst h3
              exact h'
          obtain ⟨hcf, hcl⟩ := hcl
          have HCL := Lib.hid hcl; clear hcl
          go_wp2_with fail
          refine HCL.out.mono ?_
          rintro _ w3 ⟨rfl, hJn⟩
          have HJn := Lib.hid hJn; clear hJn
          go_wp2
          go_roundw
          case rel => first | exact ⟨k + 1, by omega, by go_num, HJn.out⟩ | ((repeat apply Exists.intro); exact ⟨⟨k + 1, by omega, by go_num, HJn.out⟩, rfl⟩)
          case measure => simp [intOf]; omega
        | false =>
          obtain ⟨x, hat, hx, hcall⟩ := HV.out k hlt hnul
          have HST := Lib.hid hcall; clear hcall
          have HBk := Lib.hid hBk; clear hBk
          have HNUL := Lib.hid hnul; clear hnul
          go_wp2_with fail
          refine (tryNull_no (HBk.out.ext ((Chg.refl _ wr).alloc _)) hat hx).mono ?_
          rintro _ w2 ⟨rfl, j, rfl⟩
          go_wp2_with fail
          refine (HST.out _ (HE.out k wr _ HJk.out (((Chg.refl _ wr).alloc _).drewN _))).mono ?_
          rintro _ w3 ⟨rfl, hJn⟩
          have HJn := Lib.hid hJn; clear hJn
          go_wp2
          go_roundw
          case rel => first | exact ⟨k + 1, by omega, by go_num, HJn.out⟩ | ((repeat apply Exists.intro); exact ⟨⟨k + 1, by omega, by go_num, HJn.out⟩, rfl⟩)
          case measure => simp [intOf]; omega
    · obtain rfl : k = K := by omega
      have HJk := Lib.hid hJ; clear hJ
      clear HB HN HV HJ J0 hB hC
      have hkN : k ≤ N := hKN
      by_cases hkf : k = fcap
      · obtain rfl : N = k := by omega
        obtain rfl : fcap = N := by omega
        go_wp2_with fail
        go_loopw [63] (fun i wr => i = .int .i64 0 ∧ J fcap wr) (fun i _ => 0)
        case atStart => exact ⟨rfl, HJk.out⟩
        case round =>
          obtain ⟨rfl, hJ2⟩ := hrel
          have HJk2 := Lib.hid hJ2; clear hJ2
          go_wp2
          go_ret
          exact ⟨rfl, HJk2.out⟩
      · have hkf2 : k < fcap := by omega
        go_wp2_with fail
        go_loopw [63] (fun i wr => ∃ j : Nat, j ≤ N - k ∧ i = .int .i64 (j : Int) ∧ J (k + j) wr) (fun i _ => N - k - (intOf i).toNat)
        case atStart => exact ⟨0, by omega, rfl, HJk.out⟩
        case round =>
          obtain ⟨j, hj, rfl, hJ2⟩ := hrel
          have HJk2 := Lib.hid hJ2; clear hJ2
          by_cases hlt : j < N - k
          · have hwk : IntKind.i64.wrap ((j : Int) + 1) = (j : Int) + 1 := IntWalk.i64_in _ (by omega)
            have hk0 : (0 : Int) ≤ (j : Int) := by omega
            have hkK : (j : Int) < ((N - k : Nat) : Int) := by omega
            obtain ⟨c0, c1⟩ := HF.out (k + j) wr (by omega) HJk2.out (k + j) (by omega)
            have ea : fo + (k + j) * 2 = fo + k * 2 + j * 2 := by omega
            rw [ea] at c0 c1
            have HEA := Lib.hid ea; clear ea
            rcases HH0.out (k + j) with hHk | ⟨f0, cap0, hHk⟩
            · rw [hHk] at c1
              have HHk := Lib.hid hHk; clear hHk
              have HC := Lib.hid (HR.out (k + j) (wr.alloc (.cells #[.iface (ft (k + j)) (fv (k + j)), .nilFunc] 136)) (by omega) (by omega) (HE.out _ wr _ HJk2.out ((Chg.refl _ wr).alloc _)))
              have hJn : J (k + j + 1) (wr.alloc (.cells #[.iface (ft (k + j)) (fv (k + j)), .nilFunc] 136)) := by
                rcases HC.out with ⟨_, h⟩ | ⟨f, cap, h, _⟩
                · exact h
                · rw [HHk.out] at h; cases h
              have HJn := Lib.hid hJn; clear hJn
              go_wp2
              go_roundw
              case rel => first | exact ⟨j + 1, by omega, by go_num, by rw [← Nat.add_assoc]; exact HJn.out⟩ | ((repeat apply Exists.intro); exact ⟨⟨j + 1, by omega, by go_num, by rw [← Nat.add_assoc]; exact HJn.out⟩, rfl⟩)
              case measure => simp [intOf]; omega
            · rw [hHk] at c1
              have HHk := Lib.hid hHk; clear hHk
              have HC := Lib.hid (HR.out (k + j) (wr.alloc (.cells #[.iface (ft (k + j)) (fv (k + j)), .func (.func f0) #[] cap0] 136)) (by omega) (by omega) (HE.out _ wr _ HJk2.out ((Chg.refl _ wr).alloc _)))
              have hcl : (∀ x : World, (callFunc f0 cap0).run Tryz.prog x = .ok (.enter f0 cap0) x) ∧ Calls Tryz.prog f0 cap0 (wr.alloc (.cells #[.iface (ft (k + j)) (fv (k + j)), .func (.func f0) #[] cap0] 136)) (fun e w' => e = .returned .nilIface ∧ J (k + j + 1) w') := by
                rcases HC.out with ⟨h, _⟩ | ⟨f, cap, h, h'⟩
                · rw [HHk.out] at h; cases h
                · rw [HHk.out] at h
                  injection h with h1 h2 h3
                  injection h1 with h1
                  subst h1; subst h3
                  exact h'
              obtain ⟨hcf, hcl⟩ := hcl
              have HCL := Lib.hid hcl; clear hcl
              go_wp2_with fail
              refine HCL.out.mono ?_
              rintro _ w3 ⟨rfl, hJn⟩
              have HJn := Lib.hid hJn; clear hJn
              go_wp2
              go_roundw
              case rel => first | exact ⟨j + 1, by omega, by go_num, by rw [← Nat.add_assoc]; exact HJn.out⟩ | ((repeat apply Exists.intro); exact ⟨⟨j + 1, by omega, by go_num, by rw [← Nat.add_assoc]; exact HJn.out⟩, rfl⟩)
              case measure => simp [intOf]; omega
          · obtain rfl : j = N - k := by omega
            have hJN : J N wr := by have := HJk2.out; rwa [Nat.add_sub_cancel' hkN] at this
            have HJN := Lib.hid hJN; clear hJN HJk2
            go_wp2
            go_ret
            exact ⟨rfl, HJN.out⟩
end Go.Proofs.S
namespace Go.Proofs.S
open Go.RowKit
theorem setRow_chg (w : World) (g : Nat) (cs : Array Value) : Chg (· = g) w (w.setRow g cs) :=
  ⟨rfl, rfl, rfl, by simp [World.setRow], fun k _ hx => setRow_other w g k cs hx⟩
/-- The walk's step at copy, its run being known. -/
theorem wpList_cpy {P : Program} {ops : Array Oper} {rest : List Oper} {o : Oper} {a : Act} {Q : Exit → Act → World → Prop} {w w1 : World} {t t1 t2 : TypeId} {v u v1 : Value} {s x : Operand}
    (hrun : (Builtin.copy_ #[t1, t2] t #[v, u]).run P w = .ok v1 w1) (hgd : o.guard = none) (hty : o.type = t) (ho : o.op = .call { callee := .builtin .copy, args := #[s, x], argTypes := #[t1, t2] }) (hs : a.eval s = v) (hx : a.eval x = u)
    (h : wpList P ops Q rest (a.put o.dst v1) w1) : wpList P ops Q (o :: rest) a w := by
  refine wpList_plain hgd fun K hK => ?_
  unfold Oper.wp execOp
  simp only [ho, hty, resolve, invoke, builtin, Sem.run_bind, Sem.run_pure, Result.andThen_ok, List.map_toArray, List.map_cons, List.map_nil, hs, hx, hrun]
  exact hK _ _ h
def uuidV (l : List UInt8) : Value := .agg (c8 l).toArray
set_option maxRecDepth 100000 in
set_option maxHeartbeats 2000000 in
theorem readUUID {w : World} {r d n c i : Nat} {bs : List UInt8} {b0 b1 b2 b3 b4 b5 b6 b7 b8 b9 b10 b11 b12 b13 b14 b15 : UInt8} (h : Buf w r d n c i bs) (hi : At bs i (0x98 :: [b0, b1, b2, b3, b4, b5, b6, b7, b8, b9, b10, b11, b12, b13, b14, b15])) :
    Calls Tryz.prog 209 #[.pointer (some ⟨r, 0, none⟩)] w (Reads w r d n c i 17 bs (.tuple #[uuidV [b0, b1, b2, b3, b4, b5, b6, b7, b8, b9, b10, b11, b12, b13, b14, b15], .nilIface])) := by
  have hr := h.rlt
  have hd : d < w.heap.size := h.dlt (by
    have e := h.len
    have := hi.le (by have := h.pos; omega)
    simp at this
    omega)
  have H := Lib.hid h; clear h
  go_enter Tryz.func209, Tryz.ntmps209
  go_wp2_with fail
  refine (readType (H.out.ext (((Chg.refl _ w).alloc _).alloc _)) hi.cut).mono ?_
  rintro _ w1 ⟨rfl, hB, hC⟩
  have hCa : Chg (· = r) (w.alloc (.cells #[.int .u8 0, .int .u8 0, .int .u8 0, .int .u8 0, .int .u8 0, .int .u8 0, .int .u8 0, .int .u8 0, .int .u8 0, .int .u8 0, .int .u8 0, .int .u8 0, .int .u8 0, .int .u8 0, .int .u8 0, .int .u8 0] 192)) w1 := hC.from_alloc
  have g1 : w1.heap[w.heap.size]? = some (.cells #[.int .u8 0, .int .u8 0, .int .u8 0, .int .u8 0, .int .u8 0, .int .u8 0, .int .u8 0, .int .u8 0, .int .u8 0, .int .u8 0, .int .u8 0, .int .u8 0, .int .u8 0, .int .u8 0, .int .u8 0, .int .u8 0] 192 (0, 0)) := blk_new hCa (not_r hr)
  have g2 : w1.heap[w.heap.size + 1]? = some (.cells #[.int .u8 0, .int .u8 0, .int .u8 0, .int .u8 0, .int .u8 0, .int .u8 0, .int .u8 0, .int .u8 0, .int .u8 0, .int .u8 0, .int .u8 0, .int .u8 0, .int .u8 0, .int .u8 0, .int .u8 0, .int .u8 0] 192 (0, 0)) := by
    have := blk_new hC (fun e => by have : (w.alloc (.cells #[.int .u8 0, .int .u8 0, .int .u8 0, .int .u8 0, .int .u8 0, .int .u8 0, .int .u8 0, .int .u8 0, .int .u8 0, .int .u8 0, .int .u8 0, .int .u8 0, .int .u8 0, .int .u8 0, .int .u8 0, .int .u8 0] 192)).heap.size = r := e; simp at this; omega)
    simpa using this
  have hC1 : Chg (· = r) w w1 := hCa.from_alloc
  clear hC hCa
  go_wp2_with fail
  refine (next hB 16 hi.tail rfl).mono ?_
  rintro _ w2 ⟨o, cc, ⟨rfl, hB2, hC2⟩, hcc, hcc2, hS⟩
  have k1 := hC2.blk g1 (not_r hr)
  have k2 := hC2.blk g2 (not_r (by omega))
  have hC12 := hC1.reads hC2
  clear g1 g2 hC1 hC2 hB
  have hrun := run_copy_row (P := Tryz.prog) w2 23 23 3 5 (w.heap.size + 1) 0 16 16 ⟨d, o, none⟩ 16 cc _ 192 (c8 [b0, b1, b2, b3, b4, b5, b6, b7, b8, b9, b10, b11, b12, b13, b14, b15]) Tryz.underlying23 (by kernel_rfl) k2 rfl (fun j u hu => by obtain ⟨b, hb, rfl⟩ := c8_get hu; rw [add_off]; exact hS j b hb) (by simp [c8]) c8_one
  simp only [c8, List.map_cons, List.map_nil, List.take_zero, List.nil_append, List.length_cons, List.length_nil, Nat.reduceAdd, Nat.zero_add, List.drop_succ_cons, List.drop_nil, List.drop_zero, List.append_nil, goInt] at hrun
  have q2 := setRow_heap w2 (w.heap.size + 1) _ #[.int .u8 (b0.toNat : Int), .int .u8 (b1.toNat : Int), .int .u8 (b2.toNat : Int), .int .u8 (b3.toNat : Int), .int .u8 (b4.toNat : Int), .int .u8 (b5.toNat : Int), .int .u8 (b6.toNat : Int), .int .u8 (b7.toNat : Int), .int .u8 (b8.toNat : Int), .int .u8 (b9.toNat : Int), .int .u8 (b10.toNat : Int), .int .u8 (b11.toNat : Int), .int .u8 (b12.toNat : Int), .int .u8 (b13.toNat : Int), .int .u8 (b14.toNat : Int), .int .u8 (b15.toNat : Int)] _ _ k2
  have q1 : (w2.setRow (w.heap.size + 1) #[.int .u8 (b0.toNat : Int), .int .u8 (b1.toNat : Int), .int .u8 (b2.toNat : Int), .int .u8 (b3.toNat : Int), .int .u8 (b4.toNat : Int), .int .u8 (b5.toNat : Int), .int .u8 (b6.toNat : Int), .int .u8 (b7.toNat : Int), .int .u8 (b8.toNat : Int), .int .u8 (b9.toNat : Int), .int .u8 (b10.toNat : Int), .int .u8 (b11.toNat : Int), .int .u8 (b12.toNat : Int), .int .u8 (b13.toNat : Int), .int .u8 (b14.toNat : Int), .int .u8 (b15.toNat : Int)]).heap[w.heap.size]? = some (.cells #[.int .u8 0, .int .u8 0, .int .u8 0, .int .u8 0, .int .u8 0, .int .u8 0, .int .u8 0, .int .u8 0, .int .u8 0, .int .u8 0, .int .u8 0, .int .u8 0, .int .u8 0, .int .u8 0, .int .u8 0, .int .u8 0] 192 (0, 0)) := (setRow_other w2 (w.heap.size + 1) _ _ (by omega)).trans k1
  have hC3 := setRow_chg w2 (w.heap.size + 1) #[.int .u8 (b0.toNat : Int), .int .u8 (b1.toNat : Int), .int .u8 (b2.toNat : Int), .int .u8 (b3.toNat : Int), .int .u8 (b4.toNat : Int), .int .u8 (b5.toNat : Int), .int .u8 (b6.toNat : Int), .int .u8 (b7.toNat : Int), .int .u8 (b8.toNat : Int), .int .u8 (b9.toNat : Int), .int .u8 (b10.toNat : Int), .int .u8 (b11.toNat : Int), .int .u8 (b12.toNat : Int), .int .u8 (b13.toNat : Int), .int .u8 (b14.toNat : Int), .int .u8 (b15.toNat : Int)]
  have HU := Lib.hid hrun; clear hrun k1 k2
  generalize w2.setRow (w.heap.size + 1) #[.int .u8 (b0.toNat : Int), .int .u8 (b1.toNat : Int), .int .u8 (b2.toNat : Int), .int .u8 (b3.toNat : Int), .int .u8 (b4.toNat : Int), .int .u8 (b5.toNat : Int), .int .u8 (b6.toNat : Int), .int .u8 (b7.toNat : Int), .int .u8 (b8.toNat : Int), .int .u8 (b9.toNat : Int), .int .u8 (b10.toNat : Int), .int .u8 (b11.toNat : Int), .int .u8 (b12.toNat : Int), .int .u8 (b13.toNat : Int), .int .u8 (b14.toNat : Int), .int .u8 (b15.toNat : Int)] = w3 at *
  have e0 := blk_cell (k := 0) q2 rfl
  have z0 := blk_cell (k := 0) q1 rfl
  have f0 := blk_free (k := 0) q1
  have e1 := blk_cell (k := 1) q2 rfl
  have z1 := blk_cell (k := 1) q1 rfl
  have f1 := blk_free (k := 1) q1
  have e2 := blk_cell (k := 2) q2 rfl
  have z2 := blk_cell (k := 2) q1 rfl
  have f2 := blk_free (k := 2) q1
  have e3 := blk_cell (k := 3) q2 rfl
  have z3 := blk_cell (k := 3) q1 rfl
  have f3 := blk_free (k := 3) q1
  have e4 := blk_cell (k := 4) q2 rfl
  have z4 := blk_cell (k := 4) q1 rfl
  have f4 := blk_free (k := 4) q1
  have e5 := blk_cell (k := 5) q2 rfl
  have z5 := blk_cell (k := 5) q1 rfl
  have f5 := blk_free (k := 5) q1
  have e6 := blk_cell (k := 6) q2 rfl
  have z6 := blk_cell (k := 6) q1 rfl
  have f6 := blk_free (k := 6) q1
  have e7 := blk_cell (k := 7) q2 rfl
  have z7 := blk_cell (k := 7) q1 rfl
  have f7 := blk_free (k := 7) q1
  have e8 := blk_cell (k := 8) q2 rfl
  have z8 := blk_cell (k := 8) q1 rfl
  have f8 := blk_free (k := 8) q1
  have e9 := blk_cell (k := 9) q2 rfl
  have z9 := blk_cell (k := 9) q1 rfl
  have f9 := blk_free (k := 9) q1
  have e10 := blk_cell (k := 10) q2 rfl
  have z10 := blk_cell (k := 10) q1 rfl
  have f10 := blk_free (k := 10) q1
  have e11 := blk_cell (k := 11) q2 rfl
  have z11 := blk_cell (k := 11) q1 rfl
  have f11 := blk_free (k := 11) q1
  have e12 := blk_cell (k := 12) q2 rfl
  have z12 := blk_cell (k := 12) q1 rfl
  have f12 := blk_free (k := 12) q1
  have e13 := blk_cell (k := 13) q2 rfl
  have z13 := blk_cell (k := 13) q1 rfl
  have f13 := blk_free (k := 13) q1
  have e14 := blk_cell (k := 14) q2 rfl
  have z14 := blk_cell (k := 14) q1 rfl
  have f14 := blk_free (k := 14) q1
  have e15 := blk_cell (k := 15) q2 rfl
  have z15 := blk_cell (k := 15) q1 rfl
  have f15 := blk_free (k := 15) q1
  go_wp2_with (refine wpList_cpy HU.out rfl rfl rfl rfl rfl ?_)
  refine bodyPost_ret (v := .tuple #[uuidV [b0, b1, b2, b3, b4, b5, b6, b7, b8, b9, b10, b11, b12, b13, b14, b15], .nilIface]) (by simp [results, Tryz.results209, go_sem, uuidV, c8, z0, z1, z2, z3, z4, z5, z6, z7, z8, z9, z10, z11, z12, z13, z14, z15]) rfl ⟨rfl, ?_, ?_⟩
  · rw [show i + 17 = i + 1 + 16 by omega]
    refine hB2.chg (X := fun k => k = w.heap.size ∨ k = w.heap.size + 1) (Chg.reads (b := w3) (hC3.mono (fun _ h => .inr h)) ?_) (by omega) (by omega)
    repeat (refine Chg.setCell ?_ (fun _ => .inl rfl) _)
    exact Chg.refl _ _
  · refine Chg.trans (Y := fun k => k = w.heap.size ∨ k = w.heap.size + 1) hC12 (Chg.reads (b := w3) (hC3.mono (fun _ h => .inr h)) ?_) (fun k hk hY => by omega)
    repeat (refine Chg.setCell ?_ (fun _ => .inl rfl) _)
    exact Chg.refl _ _
end Go.Proofs.S
