/- The type switch of the reader, at a string, a byte string and any value: for a reader that holds the bytes of one encoding. -/
import Derived.Test.YtoilepadamfacaaGreatDoorB11
set_option linter.unusedVariables false
set_option linter.unusedSimpArgs false
namespace Go.Proofs.S
open Go.RowKit
/-- What Unmarshal does into the cell o of block x. -/
def UnmC (w : World) (r d n c i m : Nat) (bs : List UInt8) (x o : Nat) (cs : Array Value) (t : TypeId) (V : World → Value → Prop) (e : Ending) (w' : World) : Prop :=
  e = .returned .nilIface ∧ Buf w' r d n c (i + m) bs ∧ Chg (fun k => k = r ∨ k = x) w w' ∧ ∃ v, w'.heap[x]? = some (.cells (cs.setIfInBounds o v) t (0, 0)) ∧ V w' v
theorem UnmC.mk_ {w w1 : World} {r d n c i m : Nat} {bs : List UInt8} {x o : Nat} {cs : Array Value} {t : TypeId} {V : World → Value → Prop} {v : Value} (hB : Buf w1 r d n c (i + m) bs) (hC : Chg (· = r) w w1)
    (hx : w.heap[x]? = some (.cells cs t (0, 0))) (hxr : x ≠ r) (hxd : x ≠ d) (hV : V (w1.setCell ⟨x, o, none⟩ v) v) : UnmC w r d n c i m bs x o cs t V (.returned .nilIface) (w1.setCell ⟨x, o, none⟩ v) := by
  have hx1 := hC.blk hx hxr
  have hS : Chg (· = x) w1 (w1.setCell ⟨x, o, none⟩ v) := (Chg.refl (· = x) w1).setCell (p := ⟨x, o, none⟩) (fun _ => rfl) v
  refine ⟨rfl, hB.chg hS (fun e => hxr e.symm) (fun e => hxd e.symm), ?_, v, setCell_blk hx1 v, hV⟩
  exact (hC.mono (fun _ h => .inl h)).trans hS (fun _ _ h => .inr h)
theorem cell_of_blk {w w1 : World} {r x o : Nat} {cs : Array Value} {t : TypeId} (hC : Chg (· = r) w w1) (hx : w.heap[x]? = some (.cells cs t (0, 0))) (hxr : x ≠ r) (ho : o < cs.size) :
    (∃ u, w1.cell? ⟨x, o, none⟩ = some u) ∧ w1.frozen? ⟨x, o, none⟩ = false := by
  have hx1 := hC.blk hx hxr
  exact ⟨⟨cs[o], blk_cell hx1 (by simp [ho])⟩, blk_free hx1⟩

set_option maxRecDepth 1000000 in
set_option maxHeartbeats 2000000 in
theorem unm_string {w : World} {r d n c i m : Nat} {bs : List UInt8} {y : UInt8} {s : ByteArray} (h : Buf w r d n c i bs) (hi : At bs i [y]) (hy : ((y.toNat : Int) == 64) = false)
    {x o : Nat} {cs : Array Value} {t : TypeId} (hx : w.heap[x]? = some (.cells cs t (0, 0))) (hxr : x ≠ r) (hxd : x ≠ d) (ho : o < cs.size)
    (hc : ∀ k, Calls Tryz.prog 145 #[.pointer (some ⟨r, 0, none⟩)] (w.drewN k) (Reads (w.drewN k) r d n c i m bs (.tuple #[.string s, .nilIface]))) :
    Calls Tryz.prog 84 #[.pointer (some ⟨r, 0, none⟩), .iface 69 (.pointer (some ⟨x, o, none⟩))] w (UnmC w r d n c i m bs x o cs t (fun _ v => v = .string s)) := by
  have ta191 : ∀ (v : Value) (z : World), (Instr.typeAssert (.iface 69 v) 20 158 true).run Tryz.prog z = .ok (.tuple #[.pointer none, .bool false]) z := fun _ _ => by kernel_rfl
  have ta299 : ∀ (v : Value) (z : World), (Instr.typeAssert (.iface 69 v) 20 256 true).run Tryz.prog z = .ok (.tuple #[.pointer none, .bool false]) z := fun _ _ => by kernel_rfl
  have ta302 : ∀ (v : Value) (z : World), (Instr.typeAssert (.iface 69 v) 20 259 true).run Tryz.prog z = .ok (.tuple #[.pointer none, .bool false]) z := fun _ _ => by kernel_rfl
  have ta305 : ∀ (v : Value) (z : World), (Instr.typeAssert (.iface 69 v) 20 262 true).run Tryz.prog z = .ok (.tuple #[.pointer none, .bool false]) z := fun _ _ => by kernel_rfl
  have ta308 : ∀ (v : Value) (z : World), (Instr.typeAssert (.iface 69 v) 20 265 true).run Tryz.prog z = .ok (.tuple #[.pointer none, .bool false]) z := fun _ _ => by kernel_rfl
  have ta311 : ∀ (v : Value) (z : World), (Instr.typeAssert (.iface 69 v) 20 266 true).run Tryz.prog z = .ok (.tuple #[.pointer none, .bool false]) z := fun _ _ => by kernel_rfl
  have ta84 : ∀ (v : Value) (z : World), (Instr.typeAssert (.iface 69 v) 20 71 true).run Tryz.prog z = .ok (.tuple #[.pointer none, .bool false]) z := fun _ _ => by kernel_rfl
  have ta177 : ∀ (v : Value) (z : World), (Instr.typeAssert (.iface 69 v) 20 143 true).run Tryz.prog z = .ok (.tuple #[.pointer none, .bool false]) z := fun _ _ => by kernel_rfl
  have ta316 : ∀ (v : Value) (z : World), (Instr.typeAssert (.iface 69 v) 20 269 true).run Tryz.prog z = .ok (.tuple #[.pointer none, .bool false]) z := fun _ _ => by kernel_rfl
  have ta319 : ∀ (v : Value) (z : World), (Instr.typeAssert (.iface 69 v) 20 272 true).run Tryz.prog z = .ok (.tuple #[.pointer none, .bool false]) z := fun _ _ => by kernel_rfl
  have ta322 : ∀ (v : Value) (z : World), (Instr.typeAssert (.iface 69 v) 20 275 true).run Tryz.prog z = .ok (.tuple #[.pointer none, .bool false]) z := fun _ _ => by kernel_rfl
  have ta325 : ∀ (v : Value) (z : World), (Instr.typeAssert (.iface 69 v) 20 278 true).run Tryz.prog z = .ok (.tuple #[.pointer none, .bool false]) z := fun _ _ => by kernel_rfl
  have ta82 : ∀ (v : Value) (z : World), (Instr.typeAssert (.iface 69 v) 20 69 true).run Tryz.prog z = .ok (.tuple #[v, .bool true]) z := fun _ _ => by kernel_rfl
  have hxs : x < w.heap.size := (Array.getElem?_eq_some_iff.1 hx).1
  have HX := Lib.hid hx; clear hx
  have HC := Lib.hid hc; clear hc
  have HY := Lib.hid hy; clear hy
  go_enter Tryz.func84, Tryz.ntmps84
  go_wp2_with fail
  refine (tryNull_no h hi HY.out).mono ?_
  rintro _ w1 ⟨rfl, k, rfl⟩
  go_wp2_with fail
  refine (HC.out k).mono ?_
  rintro _ w2 ⟨rfl, hB, hC⟩
  have hC' : Chg (· = r) w w2 := ((Chg.refl _ w).drewN k).reads hC
  obtain ⟨⟨u0, c0⟩, f0⟩ := cell_of_blk hC' HX.out hxr ho
  have c0' := Lib.hid hC; clear hC
  go_wp2
  go_ret
  exact UnmC.mk_ hB hC' HX.out hxr hxd rfl

set_option maxRecDepth 1000000 in
set_option maxHeartbeats 2000000 in
theorem unm_bytes {w : World} {r d n c i m : Nat} {bs : List UInt8} {y : UInt8} {l : List UInt8} (h : Buf w r d n c i bs) (hi : At bs i [y]) (hy : ((y.toNat : Int) == 64) = false)
    {x o : Nat} {cs : Array Value} {t : TypeId} (hx : w.heap[x]? = some (.cells cs t (0, 0))) (hxr : x ≠ r) (hxd : x ≠ d) (ho : o < cs.size)
    (hc : ∀ k, Calls Tryz.prog 146 #[.pointer (some ⟨r, 0, none⟩)] (w.drewN k) (ReadsBin (w.drewN k) r d n c i m bs l)) :
    Calls Tryz.prog 84 #[.pointer (some ⟨r, 0, none⟩), .iface 63 (.pointer (some ⟨x, o, none⟩))] w (UnmC w r d n c i m bs x o cs t (fun w' v => Own8 w' w.heap.size v l)) := by
  have ta191 : ∀ (v : Value) (z : World), (Instr.typeAssert (.iface 63 v) 20 158 true).run Tryz.prog z = .ok (.tuple #[.pointer none, .bool false]) z := fun _ _ => by kernel_rfl
  have ta299 : ∀ (v : Value) (z : World), (Instr.typeAssert (.iface 63 v) 20 256 true).run Tryz.prog z = .ok (.tuple #[.pointer none, .bool false]) z := fun _ _ => by kernel_rfl
  have ta302 : ∀ (v : Value) (z : World), (Instr.typeAssert (.iface 63 v) 20 259 true).run Tryz.prog z = .ok (.tuple #[.pointer none, .bool false]) z := fun _ _ => by kernel_rfl
  have ta305 : ∀ (v : Value) (z : World), (Instr.typeAssert (.iface 63 v) 20 262 true).run Tryz.prog z = .ok (.tuple #[.pointer none, .bool false]) z := fun _ _ => by kernel_rfl
  have ta308 : ∀ (v : Value) (z : World), (Instr.typeAssert (.iface 63 v) 20 265 true).run Tryz.prog z = .ok (.tuple #[.pointer none, .bool false]) z := fun _ _ => by kernel_rfl
  have ta311 : ∀ (v : Value) (z : World), (Instr.typeAssert (.iface 63 v) 20 266 true).run Tryz.prog z = .ok (.tuple #[.pointer none, .bool false]) z := fun _ _ => by kernel_rfl
  have ta84 : ∀ (v : Value) (z : World), (Instr.typeAssert (.iface 63 v) 20 71 true).run Tryz.prog z = .ok (.tuple #[.pointer none, .bool false]) z := fun _ _ => by kernel_rfl
  have ta177 : ∀ (v : Value) (z : World), (Instr.typeAssert (.iface 63 v) 20 143 true).run Tryz.prog z = .ok (.tuple #[.pointer none, .bool false]) z := fun _ _ => by kernel_rfl
  have ta316 : ∀ (v : Value) (z : World), (Instr.typeAssert (.iface 63 v) 20 269 true).run Tryz.prog z = .ok (.tuple #[.pointer none, .bool false]) z := fun _ _ => by kernel_rfl
  have ta319 : ∀ (v : Value) (z : World), (Instr.typeAssert (.iface 63 v) 20 272 true).run Tryz.prog z = .ok (.tuple #[.pointer none, .bool false]) z := fun _ _ => by kernel_rfl
  have ta322 : ∀ (v : Value) (z : World), (Instr.typeAssert (.iface 63 v) 20 275 true).run Tryz.prog z = .ok (.tuple #[.pointer none, .bool false]) z := fun _ _ => by kernel_rfl
  have ta325 : ∀ (v : Value) (z : World), (Instr.typeAssert (.iface 63 v) 20 278 true).run Tryz.prog z = .ok (.tuple #[.pointer none, .bool false]) z := fun _ _ => by kernel_rfl
  have ta82 : ∀ (v : Value) (z : World), (Instr.typeAssert (.iface 63 v) 20 69 true).run Tryz.prog z = .ok (.tuple #[.pointer none, .bool false]) z := fun _ _ => by kernel_rfl
  have ta195 : ∀ (v : Value) (z : World), (Instr.typeAssert (.iface 63 v) 20 162 true).run Tryz.prog z = .ok (.tuple #[.pointer none, .bool false]) z := fun _ _ => by kernel_rfl
  have ta76 : ∀ (v : Value) (z : World), (Instr.typeAssert (.iface 63 v) 20 63 true).run Tryz.prog z = .ok (.tuple #[v, .bool true]) z := fun _ _ => by kernel_rfl
  have hxs : x < w.heap.size := (Array.getElem?_eq_some_iff.1 hx).1
  have HX := Lib.hid hx; clear hx
  have HC := Lib.hid hc; clear hc
  have HY := Lib.hid hy; clear hy
  go_enter Tryz.func84, Tryz.ntmps84
  go_wp2_with fail
  refine (tryNull_no h hi HY.out).mono ?_
  rintro _ w1 ⟨rfl, k, rfl⟩
  go_wp2_with fail
  refine (HC.out k).mono ?_
  rintro _ w2 ⟨v, rfl, hv, hB, hC⟩
  have hC' : Chg (· = r) w w2 := ((Chg.refl _ w).drewN k).reads hC
  obtain ⟨⟨u0, c0⟩, f0⟩ := cell_of_blk hC' HX.out hxr ho
  obtain ⟨A, cc, rfl⟩ := own8_shape hv
  go_wp2
  go_ret
  refine UnmC.mk_ hB hC' HX.out hxr hxd ?_
  exact hv.chg (X := (· = x)) ((Chg.refl (· = x) w2).setCell (p := ⟨x, o, none⟩) (fun _ => rfl) _) (fun k hk => by subst hk; exact hxs)

set_option maxRecDepth 1000000 in
set_option maxHeartbeats 2000000 in
theorem unm_any {w : World} {r d n c i m : Nat} {bs : List UInt8} {y : UInt8} (h : Buf w r d n c i bs) (hi : At bs i [y]) (hy : ((y.toNat : Int) == 64) = false)
    {x o : Nat} {cs : Array Value} {t : TypeId} (hx : w.heap[x]? = some (.cells cs t (0, 0))) (hxr : x ≠ r) (hxd : x ≠ d) (ho : o < cs.size)
    {V : World → Value → Prop} (hc : ∀ k, Calls Tryz.prog 170 #[.pointer (some ⟨r, 0, none⟩)] (w.drewN k) (ReadsAny (w.drewN k) r d n c i m bs V))
    (hV : ∀ w1 w2 v, V w1 v → Chg (fun k => k < w.heap.size) w1 w2 → V w2 v) (hVI : ∀ w1 v, V w1 v → (∃ t u, v = .iface t u) ∨ v = .nilIface) :
    Calls Tryz.prog 84 #[.pointer (some ⟨r, 0, none⟩), .iface 132 (.pointer (some ⟨x, o, none⟩))] w (UnmC w r d n c i m bs x o cs t V) := by
  have ta191 : ∀ (v : Value) (z : World), (Instr.typeAssert (.iface 132 v) 20 158 true).run Tryz.prog z = .ok (.tuple #[.pointer none, .bool false]) z := fun _ _ => by kernel_rfl
  have ta299 : ∀ (v : Value) (z : World), (Instr.typeAssert (.iface 132 v) 20 256 true).run Tryz.prog z = .ok (.tuple #[.pointer none, .bool false]) z := fun _ _ => by kernel_rfl
  have ta302 : ∀ (v : Value) (z : World), (Instr.typeAssert (.iface 132 v) 20 259 true).run Tryz.prog z = .ok (.tuple #[.pointer none, .bool false]) z := fun _ _ => by kernel_rfl
  have ta305 : ∀ (v : Value) (z : World), (Instr.typeAssert (.iface 132 v) 20 262 true).run Tryz.prog z = .ok (.tuple #[.pointer none, .bool false]) z := fun _ _ => by kernel_rfl
  have ta308 : ∀ (v : Value) (z : World), (Instr.typeAssert (.iface 132 v) 20 265 true).run Tryz.prog z = .ok (.tuple #[.pointer none, .bool false]) z := fun _ _ => by kernel_rfl
  have ta311 : ∀ (v : Value) (z : World), (Instr.typeAssert (.iface 132 v) 20 266 true).run Tryz.prog z = .ok (.tuple #[.pointer none, .bool false]) z := fun _ _ => by kernel_rfl
  have ta84 : ∀ (v : Value) (z : World), (Instr.typeAssert (.iface 132 v) 20 71 true).run Tryz.prog z = .ok (.tuple #[.pointer none, .bool false]) z := fun _ _ => by kernel_rfl
  have ta177 : ∀ (v : Value) (z : World), (Instr.typeAssert (.iface 132 v) 20 143 true).run Tryz.prog z = .ok (.tuple #[.pointer none, .bool false]) z := fun _ _ => by kernel_rfl
  have ta316 : ∀ (v : Value) (z : World), (Instr.typeAssert (.iface 132 v) 20 269 true).run Tryz.prog z = .ok (.tuple #[.pointer none, .bool false]) z := fun _ _ => by kernel_rfl
  have ta319 : ∀ (v : Value) (z : World), (Instr.typeAssert (.iface 132 v) 20 272 true).run Tryz.prog z = .ok (.tuple #[.pointer none, .bool false]) z := fun _ _ => by kernel_rfl
  have ta322 : ∀ (v : Value) (z : World), (Instr.typeAssert (.iface 132 v) 20 275 true).run Tryz.prog z = .ok (.tuple #[.pointer none, .bool false]) z := fun _ _ => by kernel_rfl
  have ta325 : ∀ (v : Value) (z : World), (Instr.typeAssert (.iface 132 v) 20 278 true).run Tryz.prog z = .ok (.tuple #[.pointer none, .bool false]) z := fun _ _ => by kernel_rfl
  have ta82 : ∀ (v : Value) (z : World), (Instr.typeAssert (.iface 132 v) 20 69 true).run Tryz.prog z = .ok (.tuple #[.pointer none, .bool false]) z := fun _ _ => by kernel_rfl
  have ta195 : ∀ (v : Value) (z : World), (Instr.typeAssert (.iface 132 v) 20 162 true).run Tryz.prog z = .ok (.tuple #[.pointer none, .bool false]) z := fun _ _ => by kernel_rfl
  have ta76 : ∀ (v : Value) (z : World), (Instr.typeAssert (.iface 132 v) 20 63 true).run Tryz.prog z = .ok (.tuple #[.pointer none, .bool false]) z := fun _ _ => by kernel_rfl
  have ta77 : ∀ (v : Value) (z : World), (Instr.typeAssert (.iface 132 v) 20 64 true).run Tryz.prog z = .ok (.tuple #[.pointer none, .bool false]) z := fun _ _ => by kernel_rfl
  have ta83 : ∀ (v : Value) (z : World), (Instr.typeAssert (.iface 132 v) 20 70 true).run Tryz.prog z = .ok (.tuple #[.pointer none, .bool false]) z := fun _ _ => by kernel_rfl
  have ta336 : ∀ (v : Value) (z : World), (Instr.typeAssert (.iface 132 v) 20 289 true).run Tryz.prog z = .ok (.tuple #[.pointer none, .bool false]) z := fun _ _ => by kernel_rfl
  have ta338 : ∀ (v : Value) (z : World), (Instr.typeAssert (.iface 132 v) 20 291 true).run Tryz.prog z = .ok (.tuple #[.pointer none, .bool false]) z := fun _ _ => by kernel_rfl
  have ta340 : ∀ (v : Value) (z : World), (Instr.typeAssert (.iface 132 v) 20 293 true).run Tryz.prog z = .ok (.tuple #[.pointer none, .bool false]) z := fun _ _ => by kernel_rfl
  have ta342 : ∀ (v : Value) (z : World), (Instr.typeAssert (.iface 132 v) 20 295 true).run Tryz.prog z = .ok (.tuple #[.pointer none, .bool false]) z := fun _ _ => by kernel_rfl
  have ta344 : ∀ (v : Value) (z : World), (Instr.typeAssert (.iface 132 v) 20 297 true).run Tryz.prog z = .ok (.tuple #[.pointer none, .bool false]) z := fun _ _ => by kernel_rfl
  have ta346 : ∀ (v : Value) (z : World), (Instr.typeAssert (.iface 132 v) 20 299 true).run Tryz.prog z = .ok (.tuple #[.pointer none, .bool false]) z := fun _ _ => by kernel_rfl
  have ta348 : ∀ (v : Value) (z : World), (Instr.typeAssert (.iface 132 v) 20 301 true).run Tryz.prog z = .ok (.tuple #[.pointer none, .bool false]) z := fun _ _ => by kernel_rfl
  have ta350 : ∀ (v : Value) (z : World), (Instr.typeAssert (.iface 132 v) 20 303 true).run Tryz.prog z = .ok (.tuple #[.pointer none, .bool false]) z := fun _ _ => by kernel_rfl
  have ta352 : ∀ (v : Value) (z : World), (Instr.typeAssert (.iface 132 v) 20 305 true).run Tryz.prog z = .ok (.tuple #[.pointer none, .bool false]) z := fun _ _ => by kernel_rfl
  have ta354 : ∀ (v : Value) (z : World), (Instr.typeAssert (.iface 132 v) 20 307 true).run Tryz.prog z = .ok (.tuple #[.pointer none, .bool false]) z := fun _ _ => by kernel_rfl
  have ta356 : ∀ (v : Value) (z : World), (Instr.typeAssert (.iface 132 v) 20 309 true).run Tryz.prog z = .ok (.tuple #[.pointer none, .bool false]) z := fun _ _ => by kernel_rfl
  have ta358 : ∀ (v : Value) (z : World), (Instr.typeAssert (.iface 132 v) 20 311 true).run Tryz.prog z = .ok (.tuple #[.pointer none, .bool false]) z := fun _ _ => by kernel_rfl
  have ta360 : ∀ (v : Value) (z : World), (Instr.typeAssert (.iface 132 v) 20 313 true).run Tryz.prog z = .ok (.tuple #[.pointer none, .bool false]) z := fun _ _ => by kernel_rfl
  have ta362 : ∀ (v : Value) (z : World), (Instr.typeAssert (.iface 132 v) 20 315 true).run Tryz.prog z = .ok (.tuple #[.pointer none, .bool false]) z := fun _ _ => by kernel_rfl
  have ta364 : ∀ (v : Value) (z : World), (Instr.typeAssert (.iface 132 v) 20 317 true).run Tryz.prog z = .ok (.tuple #[.pointer none, .bool false]) z := fun _ _ => by kernel_rfl
  have ta366 : ∀ (v : Value) (z : World), (Instr.typeAssert (.iface 132 v) 20 319 true).run Tryz.prog z = .ok (.tuple #[.pointer none, .bool false]) z := fun _ _ => by kernel_rfl
  have ta222 : ∀ (v : Value) (z : World), (Instr.typeAssert (.iface 132 v) 20 321 true).run Tryz.prog z = .ok (.tuple #[.pointer none, .bool false]) z := fun _ _ => by kernel_rfl
  have ta369 : ∀ (v : Value) (z : World), (Instr.typeAssert (.iface 132 v) 20 323 true).run Tryz.prog z = .ok (.tuple #[.pointer none, .bool false]) z := fun _ _ => by kernel_rfl
  have ta218 : ∀ (v : Value) (z : World), (Instr.typeAssert (.iface 132 v) 20 325 true).run Tryz.prog z = .ok (.tuple #[.pointer none, .bool false]) z := fun _ _ => by kernel_rfl
  have ta194 : ∀ (v : Value) (z : World), (Instr.typeAssert (.iface 132 v) 20 161 true).run Tryz.prog z = .ok (.tuple #[.pointer none, .bool false]) z := fun _ _ => by kernel_rfl
  have ta373 : ∀ (v : Value) (z : World), (Instr.typeAssert (.iface 132 v) 20 328 true).run Tryz.prog z = .ok (.tuple #[.pointer none, .bool false]) z := fun _ _ => by kernel_rfl
  have ta166 : ∀ (v : Value) (z : World), (Instr.typeAssert (.iface 132 v) 20 132 true).run Tryz.prog z = .ok (.tuple #[v, .bool true]) z := fun _ _ => by kernel_rfl
  have hxs : x < w.heap.size := (Array.getElem?_eq_some_iff.1 hx).1
  have HX := Lib.hid hx; clear hx
  have HC := Lib.hid hc; clear hc
  have HY := Lib.hid hy; clear hy
  go_enter Tryz.func84, Tryz.ntmps84
  go_wp2_with fail
  refine (tryNull_no h hi HY.out).mono ?_
  rintro _ w1 ⟨rfl, k, rfl⟩
  go_wp2_with fail
  refine (HC.out k).mono ?_
  rintro _ w2 ⟨v, rfl, hv, hB, hC⟩
  have hC' : Chg (· = r) w w2 := ((Chg.refl _ w).drewN k).reads hC
  obtain ⟨⟨u0, c0⟩, f0⟩ := cell_of_blk hC' HX.out hxr ho
  have hvs := hV _ _ _ hv (((Chg.refl (· = x) w2).setCell (p := ⟨x, o, none⟩) (fun _ => rfl) v).mono (fun k hk => by subst hk; exact hxs))
  have HVS := Lib.hid hvs; clear hvs hV
  rcases hVI _ _ hv with ⟨t1, u1, rfl⟩ | rfl
  all_goals
    clear hVI
    go_wp2
    go_ret
    exact UnmC.mk_ hB hC' HX.out hxr hxd HVS.out
end Go.Proofs.S
