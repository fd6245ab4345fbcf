/- The type switch of the reader, at a number, a time and their pointers: for a reader that holds the bytes of one encoding. -/
import Derived.Test.YtoilepadamfacaaGreatDoorB12
set_option linter.unusedVariables false
set_option linter.unusedSimpArgs false
namespace Go.Proofs.S
open Go.RowKit
/-- A pointer to a new variable of one cell. -/
def NewVar (base : Nat) (t : TypeId) (cs : Array Value) (w' : World) (v : Value) : Prop := ∃ g, v = .pointer (some ⟨g, 0, none⟩) ∧ base ≤ g ∧ w'.heap[g]? = some (.cells cs t (0, 0))
set_option maxRecDepth 1000000 in
set_option maxHeartbeats 2000000 in
theorem unm_u32p {w : World} {r d n c i m : Nat} {bs : List UInt8} {y : UInt8} {q : Int} (h : Buf w r d n c i bs) (hi : At bs i [y]) (hy : ((y.toNat : Int) == 64) = false)
    {x o : Nat} {cs : Array Value} {t : TypeId} (hx : w.heap[x]? = some (.cells cs t (0, 0))) (hxr : x ≠ r) (hxd : x ≠ d) (ho : o < cs.size)
    (hc : ∀ k, Calls Tryz.prog 140 #[.pointer (some ⟨r, 0, none⟩)] (w.drewN k) (Reads (w.drewN k) r d n c i m bs (.tuple #[.int .u32 q, .nilIface]))) :
    Calls Tryz.prog 84 #[.pointer (some ⟨r, 0, none⟩), .iface 143 (.pointer (some ⟨x, o, none⟩))] w (UnmC w r d n c i m bs x o cs t (NewVar w.heap.size 45 #[.int .u32 q])) := by
  have ta191 : ∀ (v : Value) (z : World), (Instr.typeAssert (.iface 143 v) 20 158 true).run Tryz.prog z = .ok (.tuple #[.pointer none, .bool false]) z := fun _ _ => by kernel_rfl
  have ta299 : ∀ (v : Value) (z : World), (Instr.typeAssert (.iface 143 v) 20 256 true).run Tryz.prog z = .ok (.tuple #[.pointer none, .bool false]) z := fun _ _ => by kernel_rfl
  have ta302 : ∀ (v : Value) (z : World), (Instr.typeAssert (.iface 143 v) 20 259 true).run Tryz.prog z = .ok (.tuple #[.pointer none, .bool false]) z := fun _ _ => by kernel_rfl
  have ta305 : ∀ (v : Value) (z : World), (Instr.typeAssert (.iface 143 v) 20 262 true).run Tryz.prog z = .ok (.tuple #[.pointer none, .bool false]) z := fun _ _ => by kernel_rfl
  have ta308 : ∀ (v : Value) (z : World), (Instr.typeAssert (.iface 143 v) 20 265 true).run Tryz.prog z = .ok (.tuple #[.pointer none, .bool false]) z := fun _ _ => by kernel_rfl
  have ta311 : ∀ (v : Value) (z : World), (Instr.typeAssert (.iface 143 v) 20 266 true).run Tryz.prog z = .ok (.tuple #[.pointer none, .bool false]) z := fun _ _ => by kernel_rfl
  have ta84 : ∀ (v : Value) (z : World), (Instr.typeAssert (.iface 143 v) 20 71 true).run Tryz.prog z = .ok (.tuple #[.pointer none, .bool false]) z := fun _ _ => by kernel_rfl
  have ta177 : ∀ (v : Value) (z : World), (Instr.typeAssert (.iface 143 v) 20 143 true).run Tryz.prog z = .ok (.tuple #[v, .bool true]) z := fun _ _ => by kernel_rfl
  have hxs : x < w.heap.size := (Array.getElem?_eq_some_iff.1 hx).1
  have HX := Lib.hid hx; clear hx
  have HC := Lib.hid hc; clear hc
  have HY := Lib.hid hy; clear hy
  go_enter Tryz.func84, Tryz.ntmps84
  go_wp2_with fail
  refine (tryNull_no h hi HY.out).mono ?_
  rintro _ w1 ⟨rfl, k, rfl⟩
  go_wp2_with fail
  refine (HC.out k).mono ?_
  rintro _ w2 ⟨rfl, hB, hC⟩
  have hC' : Chg (· = r) w w2 := ((Chg.refl _ w).drewN k).reads hC
  have hA : Chg (· = r) w (w2.alloc (.cells #[.int .u32 q] 45)) := hC'.alloc _
  obtain ⟨⟨u0, c0⟩, f0⟩ := cell_of_blk hC' HX.out hxr ho
  have hs2 : w.heap.size ≤ w2.heap.size := hC'.size
  have hxs2 : x < w2.heap.size := by omega
  go_wp2
  go_ret
  have hS : Chg (· = x) w2 (w2.setCell ⟨x, o, none⟩ (.pointer (some ⟨w2.heap.size, 0, none⟩))) := (Chg.refl (· = x) w2).setCell (p := ⟨x, o, none⟩) (fun _ => rfl) _
  have hx2 := setCell_blk (k := o) (hC'.blk HX.out hxr) (.pointer (some ⟨w2.heap.size, 0, none⟩))
  have hz : (w2.setCell ⟨x, o, none⟩ (.pointer (some ⟨w2.heap.size, 0, none⟩))).heap.size = w2.heap.size := by simp [World.setCell]
  refine ⟨rfl, (hB.chg hS (fun e => hxr e.symm) (fun e => hxd e.symm)).ext ((Chg.refl _ _).alloc _), ((hC'.mono (fun _ h => .inl h)).trans hS (fun _ _ h => .inr h)).alloc _, _, (Below.heap_alloc _ _ _ (by omega)).trans hx2, w2.heap.size, rfl, hs2, ?_⟩
  have := heap_alloc_new (w2.setCell ⟨x, o, none⟩ (.pointer (some ⟨w2.heap.size, 0, none⟩))) (.cells #[.int .u32 q] 45)
  rwa [hz] at this
set_option maxRecDepth 1000000 in
set_option maxHeartbeats 2000000 in
theorem unm_time {w : World} {r d n c i m : Nat} {bs : List UInt8} {y : UInt8} {ms : Int} (h : Buf w r d n c i bs) (hi : At bs i [y]) (hy : ((y.toNat : Int) == 64) = false)
    {x : Nat} {a0 a1 : Value} (hx : w.heap[x]? = some (.cells #[a0, a1] 141 (0, 0))) (hxr : x ≠ r) (hxd : x ≠ d)
    (hc : ∀ k, Calls Tryz.prog 148 #[.pointer (some ⟨r, 0, none⟩)] (w.drewN k) (Reads (w.drewN k) r d n c i m bs (.tuple #[timeV ms, .nilIface]))) :
    Calls Tryz.prog 84 #[.pointer (some ⟨r, 0, none⟩), .iface 70 (.pointer (some ⟨x, 0, none⟩))] w
      (fun e w' => e = .returned .nilIface ∧ Buf w' r d n c (i + m) bs ∧ Chg (fun k => k = r ∨ k = x) w w' ∧ w'.heap[x]? = some (.cells #[.int .i64 (ms / 1000), .int .i64 (ms % 1000 * 1000000)] 141 (0, 0))) := by
  have ta191 : ∀ (v : Value) (z : World), (Instr.typeAssert (.iface 70 v) 20 158 true).run Tryz.prog z = .ok (.tuple #[.pointer none, .bool false]) z := fun _ _ => by kernel_rfl
  have ta299 : ∀ (v : Value) (z : World), (Instr.typeAssert (.iface 70 v) 20 256 true).run Tryz.prog z = .ok (.tuple #[.pointer none, .bool false]) z := fun _ _ => by kernel_rfl
  have ta302 : ∀ (v : Value) (z : World), (Instr.typeAssert (.iface 70 v) 20 259 true).run Tryz.prog z = .ok (.tuple #[.pointer none, .bool false]) z := fun _ _ => by kernel_rfl
  have ta305 : ∀ (v : Value) (z : World), (Instr.typeAssert (.iface 70 v) 20 262 true).run Tryz.prog z = .ok (.tuple #[.pointer none, .bool false]) z := fun _ _ => by kernel_rfl
  have ta308 : ∀ (v : Value) (z : World), (Instr.typeAssert (.iface 70 v) 20 265 true).run Tryz.prog z = .ok (.tuple #[.pointer none, .bool false]) z := fun _ _ => by kernel_rfl
  have ta311 : ∀ (v : Value) (z : World), (Instr.typeAssert (.iface 70 v) 20 266 true).run Tryz.prog z = .ok (.tuple #[.pointer none, .bool false]) z := fun _ _ => by kernel_rfl
  have ta84 : ∀ (v : Value) (z : World), (Instr.typeAssert (.iface 70 v) 20 71 true).run Tryz.prog z = .ok (.tuple #[.pointer none, .bool false]) z := fun _ _ => by kernel_rfl
  have ta177 : ∀ (v : Value) (z : World), (Instr.typeAssert (.iface 70 v) 20 143 true).run Tryz.prog z = .ok (.tuple #[.pointer none, .bool false]) z := fun _ _ => by kernel_rfl
  have ta316 : ∀ (v : Value) (z : World), (Instr.typeAssert (.iface 70 v) 20 269 true).run Tryz.prog z = .ok (.tuple #[.pointer none, .bool false]) z := fun _ _ => by kernel_rfl
  have ta319 : ∀ (v : Value) (z : World), (Instr.typeAssert (.iface 70 v) 20 272 true).run Tryz.prog z = .ok (.tuple #[.pointer none, .bool false]) z := fun _ _ => by kernel_rfl
  have ta322 : ∀ (v : Value) (z : World), (Instr.typeAssert (.iface 70 v) 20 275 true).run Tryz.prog z = .ok (.tuple #[.pointer none, .bool false]) z := fun _ _ => by kernel_rfl
  have ta325 : ∀ (v : Value) (z : World), (Instr.typeAssert (.iface 70 v) 20 278 true).run Tryz.prog z = .ok (.tuple #[.pointer none, .bool false]) z := fun _ _ => by kernel_rfl
  have ta82 : ∀ (v : Value) (z : World), (Instr.typeAssert (.iface 70 v) 20 69 true).run Tryz.prog z = .ok (.tuple #[.pointer none, .bool false]) z := fun _ _ => by kernel_rfl
  have ta195 : ∀ (v : Value) (z : World), (Instr.typeAssert (.iface 70 v) 20 162 true).run Tryz.prog z = .ok (.tuple #[.pointer none, .bool false]) z := fun _ _ => by kernel_rfl
  have ta76 : ∀ (v : Value) (z : World), (Instr.typeAssert (.iface 70 v) 20 63 true).run Tryz.prog z = .ok (.tuple #[.pointer none, .bool false]) z := fun _ _ => by kernel_rfl
  have ta77 : ∀ (v : Value) (z : World), (Instr.typeAssert (.iface 70 v) 20 64 true).run Tryz.prog z = .ok (.tuple #[.pointer none, .bool false]) z := fun _ _ => by kernel_rfl
  have ta83 : ∀ (v : Value) (z : World), (Instr.typeAssert (.iface 70 v) 20 70 true).run Tryz.prog z = .ok (.tuple #[v, .bool true]) z := fun _ _ => by kernel_rfl
  have hxs : x < w.heap.size := (Array.getElem?_eq_some_iff.1 hx).1
  have HX := Lib.hid hx; clear hx
  have HC := Lib.hid hc; clear hc
  have HY := Lib.hid hy; clear hy
  go_enter Tryz.func84, Tryz.ntmps84
  go_wp2_with fail
  refine (tryNull_no h hi HY.out).mono ?_
  rintro _ w1 ⟨rfl, k, rfl⟩
  go_wp2_with fail
  refine (HC.out k).mono ?_
  rintro _ w2 ⟨rfl, hB, hC⟩
  have hC' : Chg (· = r) w w2 := ((Chg.refl _ w).drewN k).reads hC
  have hx2 := hC'.blk HX.out hxr
  have c0 := blk_cell (k := 0) hx2 rfl
  have c1 := blk_cell (k := 1) hx2 rfl
  have f0 := blk_free (k := 0) hx2
  have f1 := blk_free (k := 1) hx2
  have HX2 := Lib.hid hx2; clear hx2
  unfold timeV
  have hs2 : w.heap.size ≤ w2.heap.size := hC'.size
  have hxs2 : x < w2.heap.size := by omega
  go_wp2
  go_ret
  have hx4 := setCell_blk (k := 1) (setCell_blk (k := 0) HX2.out (.int .i64 (ms / 1000))) (.int .i64 (ms % 1000 * 1000000))
  have hCh : Chg (· = x) w2 ((w2.setCell ⟨x, 0, none⟩ (.int .i64 (ms / 1000))).setCell ⟨x, 1, none⟩ (.int .i64 (ms % 1000 * 1000000))) := ((Chg.refl (· = x) w2).setCell (p := ⟨x, 0, none⟩) (fun _ => rfl) _).setCell (p := ⟨x, 1, none⟩) (fun _ => rfl) _
  exact ⟨rfl, (hB.chg hCh (fun e => hxr e.symm) (fun e => hxd e.symm)).ext ((Chg.refl _ _).alloc _), ((hC'.mono (Y := fun k => k = r ∨ k = x) (fun _ h => .inl h)).trans hCh (fun _ _ h => .inr h)).alloc _, (Below.heap_alloc _ _ _ (by have := hCh.size; omega)).trans hx4⟩

/-- A field of a pointer to a pointer: a new variable is made and read. -/
theorem ptr_string {w : World} {r d n c i m : Nat} {bs : List UInt8} {y : UInt8} {s : ByteArray} (h : Buf w r d n c i bs) (hi : At bs i [y]) (hy : ((y.toNat : Int) == 64) = false)
    {x o : Nat} {cs : Array Value} {t : TypeId} (hx : w.heap[x]? = some (.cells cs t (0, 0))) (hxr : x ≠ r) (hxd : x ≠ d) (ho : cs[o]? = some (.pointer none)) (hd : d < w.heap.size)
    (hc : ∀ w', Buf w' r d n c i bs → Calls Tryz.prog 145 #[.pointer (some ⟨r, 0, none⟩)] w' (Reads w' r d n c i m bs (.tuple #[.string s, .nilIface]))) :
    Calls Tryz.prog 366 #[.agg #[.pointer (some ⟨x, o, none⟩)], .pointer (some ⟨r, 0, none⟩)] w (UnmC w r d n c i m bs x o cs t (NewVar w.heap.size 9 #[.string s])) := by
  have hxs : x < w.heap.size := (Array.getElem?_eq_some_iff.1 hx).1
  have hrs := h.rlt
  have c0 := blk_cell (k := o) hx ho
  have f0 := blk_free (k := o) hx
  have HX := Lib.hid hx; clear hx
  have HC := Lib.hid hc; clear hc
  have HY := Lib.hid hy; clear hy
  have HO := Lib.hid ho; clear ho
  have H := Lib.hid h; clear h
  go_enter Tryz.func366, Tryz.ntmps366
  go_wp2_with fail
  have hxw : (w.setCell ⟨x, o, none⟩ (.pointer (some ⟨w.heap.size + 1, 0, none⟩))).heap.size = w.heap.size := by simp [World.setCell]
  generalize hws : w.setCell ⟨x, o, none⟩ (.pointer (some ⟨w.heap.size + 1, 0, none⟩)) = ws at *
  have hS : Chg (· = x) w ws := by rw [← hws]; exact (Chg.refl (· = x) w).setCell (p := ⟨x, o, none⟩) (fun _ => rfl) _
  have hxb : ws.heap[x]? = some (.cells (cs.setIfInBounds o (.pointer (some ⟨w.heap.size + 1, 0, none⟩))) t (0, 0)) := by rw [← hws]; exact setCell_blk HX.out _
  have hA : Chg (fun _ => False) ws ((ws.alloc (.cells #[.pointer (some ⟨x, o, none⟩)] 181)).alloc (.cells #[.string ⟨#[]⟩] 9)) := ((Chg.refl _ ws).alloc _).alloc _
  have hgb := heap_alloc_new (ws.alloc (.cells #[.pointer (some ⟨x, o, none⟩)] 181)) (.cells #[.string ⟨#[]⟩] 9)
  have hB0 : Buf ((ws.alloc (.cells #[.pointer (some ⟨x, o, none⟩)] 181)).alloc (.cells #[.string ⟨#[]⟩] 9)) r d n c i bs := (H.out.chg hS (fun e => hxr e.symm) (fun e => hxd e.symm)).ext hA
  have hsz : (ws.alloc (.cells #[.pointer (some ⟨x, o, none⟩)] 181)).heap.size = w.heap.size + 1 := by simp [hxw]
  rw [hsz] at hgb
  generalize ((ws.alloc (.cells #[.pointer (some ⟨x, o, none⟩)] 181)).alloc (.cells #[.string ⟨#[]⟩] 9)) = wa at *
  refine (unm_string (o := 0) hB0 hi HY.out hgb (by omega) (by omega) (by simp) (fun k => HC.out _ (hB0.drewN k))).mono ?_
  rintro _ w2 ⟨rfl, hB2, hC2, hV⟩
  go_wp2
  go_ret
  refine ⟨rfl, hB2, ?_, _, ?_, w.heap.size + 1, rfl, Nat.le_succ _, ?_⟩
  · exact ((hS.mono (fun _ h => .inr h)).trans hA (fun _ _ h => h.elim)).trans hC2 (fun k hk hk2 => by rcases hk2 with rfl | rfl; exact .inl rfl; omega)
  · exact hC2.blk (hA.blk hxb (fun h => h)) (by intro e; rcases e with e | e; exact hxr e; omega)
  · obtain ⟨v, hv, hv2⟩ := hV
    subst hv2
    simpa using hv

/-- A field of a pointer to a pointer: a new variable is made and read. -/
theorem ptr_time {w : World} {r d n c i m : Nat} {bs : List UInt8} {y : UInt8} {ms : Int} (h : Buf w r d n c i bs) (hi : At bs i [y]) (hy : ((y.toNat : Int) == 64) = false)
    {x o : Nat} {cs : Array Value} {t : TypeId} (hx : w.heap[x]? = some (.cells cs t (0, 0))) (hxr : x ≠ r) (hxd : x ≠ d) (ho : cs[o]? = some (.pointer none)) (hd : d < w.heap.size)
    (hc : ∀ w', Buf w' r d n c i bs → Calls Tryz.prog 148 #[.pointer (some ⟨r, 0, none⟩)] w' (Reads w' r d n c i m bs (.tuple #[timeV ms, .nilIface]))) :
    Calls Tryz.prog 367 #[.agg #[.pointer (some ⟨x, o, none⟩)], .pointer (some ⟨r, 0, none⟩)] w (UnmC w r d n c i m bs x o cs t (NewVar w.heap.size 141 #[.int .i64 (ms / 1000), .int .i64 (ms % 1000 * 1000000)])) := by
  have hxs : x < w.heap.size := (Array.getElem?_eq_some_iff.1 hx).1
  have hrs := h.rlt
  have c0 := blk_cell (k := o) hx ho
  have f0 := blk_free (k := o) hx
  have HX := Lib.hid hx; clear hx
  have HC := Lib.hid hc; clear hc
  have HY := Lib.hid hy; clear hy
  have HO := Lib.hid ho; clear ho
  have H := Lib.hid h; clear h
  go_enter Tryz.func367, Tryz.ntmps367
  go_wp2_with fail
  have hxw : (w.setCell ⟨x, o, none⟩ (.pointer (some ⟨w.heap.size + 1, 0, none⟩))).heap.size = w.heap.size := by simp [World.setCell]
  generalize hws : w.setCell ⟨x, o, none⟩ (.pointer (some ⟨w.heap.size + 1, 0, none⟩)) = ws at *
  have hS : Chg (· = x) w ws := by rw [← hws]; exact (Chg.refl (· = x) w).setCell (p := ⟨x, o, none⟩) (fun _ => rfl) _
  have hxb : ws.heap[x]? = some (.cells (cs.setIfInBounds o (.pointer (some ⟨w.heap.size + 1, 0, none⟩))) t (0, 0)) := by rw [← hws]; exact setCell_blk HX.out _
  have hA : Chg (fun _ => False) ws ((ws.alloc (.cells #[.pointer (some ⟨x, o, none⟩)] 183)).alloc (.cells #[.int .i64 0, .int .i64 0] 141)) := ((Chg.refl _ ws).alloc _).alloc _
  have hgb := heap_alloc_new (ws.alloc (.cells #[.pointer (some ⟨x, o, none⟩)] 183)) (.cells #[.int .i64 0, .int .i64 0] 141)
  have hB0 : Buf ((ws.alloc (.cells #[.pointer (some ⟨x, o, none⟩)] 183)).alloc (.cells #[.int .i64 0, .int .i64 0] 141)) r d n c i bs := (H.out.chg hS (fun e => hxr e.symm) (fun e => hxd e.symm)).ext hA
  have hsz : (ws.alloc (.cells #[.pointer (some ⟨x, o, none⟩)] 183)).heap.size = w.heap.size + 1 := by simp [hxw]
  rw [hsz] at hgb
  generalize ((ws.alloc (.cells #[.pointer (some ⟨x, o, none⟩)] 183)).alloc (.cells #[.int .i64 0, .int .i64 0] 141)) = wa at *
  refine (unm_time hB0 hi HY.out hgb (by omega) (by omega) (fun k => HC.out _ (hB0.drewN k))).mono ?_
  rintro _ w2 ⟨rfl, hB2, hC2, hV⟩
  go_wp2
  go_ret
  refine ⟨rfl, hB2, ?_, _, ?_, w.heap.size + 1, rfl, Nat.le_succ _, ?_⟩
  · exact ((hS.mono (fun _ h => .inr h)).trans hA (fun _ _ h => h.elim)).trans hC2 (fun k hk hk2 => by rcases hk2 with rfl | rfl; exact .inl rfl; omega)
  · exact hC2.blk (hA.blk hxb (fun h => h)) (by intro e; rcases e with e | e; exact hxr e; omega)
  · exact hV
end Go.Proofs.S
