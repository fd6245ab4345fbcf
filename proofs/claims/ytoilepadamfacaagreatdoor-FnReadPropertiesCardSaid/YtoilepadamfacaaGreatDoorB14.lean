/- The type switch of the reader, at pointers to strings and to times: for a reader that holds the bytes of one encoding. -/
import Derived.Test.YtoilepadamfacaaGreatDoorB13
set_option linter.unusedVariables false
set_option linter.unusedSimpArgs false
namespace Go.Proofs.S
open Go.RowKit

set_option maxRecDepth 1000000 in
set_option maxHeartbeats 2000000 in
/-- A field that reads itself. -/
theorem unm_pstring {w : World} {r d n c i : Nat} {bs : List UInt8} {y : UInt8} (h : Buf w r d n c i bs) (hi : At bs i [y]) (hy : ((y.toNat : Int) == 64) = false) (p : Addr)
    {R : Ending → World → Prop} (hR : ∀ e w', R e w' → e = .returned .nilIface) (hc : ∀ k, Calls Tryz.prog 366 #[.agg #[.pointer (some p)], .pointer (some ⟨r, 0, none⟩)] (w.drewN k) R) :
    Calls Tryz.prog 84 #[.pointer (some ⟨r, 0, none⟩), .iface 181 (.agg #[.pointer (some p)])] w R := by
  have ta191 : ∀ (z : World), (Instr.typeAssert (.iface 181 (.agg #[.pointer (some p)])) 20 158 true).run Tryz.prog z = .ok (.tuple #[.pointer none, .bool false]) z := fun _ => by kernel_rfl
  have ta299 : ∀ (z : World), (Instr.typeAssert (.iface 181 (.agg #[.pointer (some p)])) 20 256 true).run Tryz.prog z = .ok (.tuple #[.pointer none, .bool false]) z := fun _ => by kernel_rfl
  have ta302 : ∀ (z : World), (Instr.typeAssert (.iface 181 (.agg #[.pointer (some p)])) 20 259 true).run Tryz.prog z = .ok (.tuple #[.pointer none, .bool false]) z := fun _ => by kernel_rfl
  have ta305 : ∀ (z : World), (Instr.typeAssert (.iface 181 (.agg #[.pointer (some p)])) 20 262 true).run Tryz.prog z = .ok (.tuple #[.pointer none, .bool false]) z := fun _ => by kernel_rfl
  have ta308 : ∀ (z : World), (Instr.typeAssert (.iface 181 (.agg #[.pointer (some p)])) 20 265 true).run Tryz.prog z = .ok (.tuple #[.pointer none, .bool false]) z := fun _ => by kernel_rfl
  have ta311 : ∀ (z : World), (Instr.typeAssert (.iface 181 (.agg #[.pointer (some p)])) 20 266 true).run Tryz.prog z = .ok (.tuple #[.pointer none, .bool false]) z := fun _ => by kernel_rfl
  have ta84 : ∀ (z : World), (Instr.typeAssert (.iface 181 (.agg #[.pointer (some p)])) 20 71 true).run Tryz.prog z = .ok (.tuple #[.pointer none, .bool false]) z := fun _ => by kernel_rfl
  have ta177 : ∀ (z : World), (Instr.typeAssert (.iface 181 (.agg #[.pointer (some p)])) 20 143 true).run Tryz.prog z = .ok (.tuple #[.pointer none, .bool false]) z := fun _ => by kernel_rfl
  have ta316 : ∀ (z : World), (Instr.typeAssert (.iface 181 (.agg #[.pointer (some p)])) 20 269 true).run Tryz.prog z = .ok (.tuple #[.pointer none, .bool false]) z := fun _ => by kernel_rfl
  have ta319 : ∀ (z : World), (Instr.typeAssert (.iface 181 (.agg #[.pointer (some p)])) 20 272 true).run Tryz.prog z = .ok (.tuple #[.pointer none, .bool false]) z := fun _ => by kernel_rfl
  have ta322 : ∀ (z : World), (Instr.typeAssert (.iface 181 (.agg #[.pointer (some p)])) 20 275 true).run Tryz.prog z = .ok (.tuple #[.pointer none, .bool false]) z := fun _ => by kernel_rfl
  have ta325 : ∀ (z : World), (Instr.typeAssert (.iface 181 (.agg #[.pointer (some p)])) 20 278 true).run Tryz.prog z = .ok (.tuple #[.pointer none, .bool false]) z := fun _ => by kernel_rfl
  have ta82 : ∀ (z : World), (Instr.typeAssert (.iface 181 (.agg #[.pointer (some p)])) 20 69 true).run Tryz.prog z = .ok (.tuple #[.pointer none, .bool false]) z := fun _ => by kernel_rfl
  have ta195 : ∀ (z : World), (Instr.typeAssert (.iface 181 (.agg #[.pointer (some p)])) 20 162 true).run Tryz.prog z = .ok (.tuple #[.pointer none, .bool false]) z := fun _ => by kernel_rfl
  have ta76 : ∀ (z : World), (Instr.typeAssert (.iface 181 (.agg #[.pointer (some p)])) 20 63 true).run Tryz.prog z = .ok (.tuple #[.pointer none, .bool false]) z := fun _ => by kernel_rfl
  have ta77 : ∀ (z : World), (Instr.typeAssert (.iface 181 (.agg #[.pointer (some p)])) 20 64 true).run Tryz.prog z = .ok (.tuple #[.pointer none, .bool false]) z := fun _ => by kernel_rfl
  have ta83 : ∀ (z : World), (Instr.typeAssert (.iface 181 (.agg #[.pointer (some p)])) 20 70 true).run Tryz.prog z = .ok (.tuple #[.pointer none, .bool false]) z := fun _ => by kernel_rfl
  have ta336 : ∀ (z : World), (Instr.typeAssert (.iface 181 (.agg #[.pointer (some p)])) 20 289 true).run Tryz.prog z = .ok (.tuple #[.pointer none, .bool false]) z := fun _ => by kernel_rfl
  have ta338 : ∀ (z : World), (Instr.typeAssert (.iface 181 (.agg #[.pointer (some p)])) 20 291 true).run Tryz.prog z = .ok (.tuple #[.pointer none, .bool false]) z := fun _ => by kernel_rfl
  have ta340 : ∀ (z : World), (Instr.typeAssert (.iface 181 (.agg #[.pointer (some p)])) 20 293 true).run Tryz.prog z = .ok (.tuple #[.pointer none, .bool false]) z := fun _ => by kernel_rfl
  have ta342 : ∀ (z : World), (Instr.typeAssert (.iface 181 (.agg #[.pointer (some p)])) 20 295 true).run Tryz.prog z = .ok (.tuple #[.pointer none, .bool false]) z := fun _ => by kernel_rfl
  have ta344 : ∀ (z : World), (Instr.typeAssert (.iface 181 (.agg #[.pointer (some p)])) 20 297 true).run Tryz.prog z = .ok (.tuple #[.pointer none, .bool false]) z := fun _ => by kernel_rfl
  have ta346 : ∀ (z : World), (Instr.typeAssert (.iface 181 (.agg #[.pointer (some p)])) 20 299 true).run Tryz.prog z = .ok (.tuple #[.pointer none, .bool false]) z := fun _ => by kernel_rfl
  have ta348 : ∀ (z : World), (Instr.typeAssert (.iface 181 (.agg #[.pointer (some p)])) 20 301 true).run Tryz.prog z = .ok (.tuple #[.pointer none, .bool false]) z := fun _ => by kernel_rfl
  have ta350 : ∀ (z : World), (Instr.typeAssert (.iface 181 (.agg #[.pointer (some p)])) 20 303 true).run Tryz.prog z = .ok (.tuple #[.pointer none, .bool false]) z := fun _ => by kernel_rfl
  have ta352 : ∀ (z : World), (Instr.typeAssert (.iface 181 (.agg #[.pointer (some p)])) 20 305 true).run Tryz.prog z = .ok (.tuple #[.pointer none, .bool false]) z := fun _ => by kernel_rfl
  have ta354 : ∀ (z : World), (Instr.typeAssert (.iface 181 (.agg #[.pointer (some p)])) 20 307 true).run Tryz.prog z = .ok (.tuple #[.pointer none, .bool false]) z := fun _ => by kernel_rfl
  have ta356 : ∀ (z : World), (Instr.typeAssert (.iface 181 (.agg #[.pointer (some p)])) 20 309 true).run Tryz.prog z = .ok (.tuple #[.pointer none, .bool false]) z := fun _ => by kernel_rfl
  have ta358 : ∀ (z : World), (Instr.typeAssert (.iface 181 (.agg #[.pointer (some p)])) 20 311 true).run Tryz.prog z = .ok (.tuple #[.pointer none, .bool false]) z := fun _ => by kernel_rfl
  have ta360 : ∀ (z : World), (Instr.typeAssert (.iface 181 (.agg #[.pointer (some p)])) 20 313 true).run Tryz.prog z = .ok (.tuple #[.pointer none, .bool false]) z := fun _ => by kernel_rfl
  have ta362 : ∀ (z : World), (Instr.typeAssert (.iface 181 (.agg #[.pointer (some p)])) 20 315 true).run Tryz.prog z = .ok (.tuple #[.pointer none, .bool false]) z := fun _ => by kernel_rfl
  have ta364 : ∀ (z : World), (Instr.typeAssert (.iface 181 (.agg #[.pointer (some p)])) 20 317 true).run Tryz.prog z = .ok (.tuple #[.pointer none, .bool false]) z := fun _ => by kernel_rfl
  have ta366 : ∀ (z : World), (Instr.typeAssert (.iface 181 (.agg #[.pointer (some p)])) 20 319 true).run Tryz.prog z = .ok (.tuple #[.pointer none, .bool false]) z := fun _ => by kernel_rfl
  have ta222 : ∀ (z : World), (Instr.typeAssert (.iface 181 (.agg #[.pointer (some p)])) 20 321 true).run Tryz.prog z = .ok (.tuple #[.pointer none, .bool false]) z := fun _ => by kernel_rfl
  have ta369 : ∀ (z : World), (Instr.typeAssert (.iface 181 (.agg #[.pointer (some p)])) 20 323 true).run Tryz.prog z = .ok (.tuple #[.pointer none, .bool false]) z := fun _ => by kernel_rfl
  have ta218 : ∀ (z : World), (Instr.typeAssert (.iface 181 (.agg #[.pointer (some p)])) 20 325 true).run Tryz.prog z = .ok (.tuple #[.pointer none, .bool false]) z := fun _ => by kernel_rfl
  have ta194 : ∀ (z : World), (Instr.typeAssert (.iface 181 (.agg #[.pointer (some p)])) 20 161 true).run Tryz.prog z = .ok (.tuple #[.pointer none, .bool false]) z := fun _ => by kernel_rfl
  have ta373 : ∀ (z : World), (Instr.typeAssert (.iface 181 (.agg #[.pointer (some p)])) 20 328 true).run Tryz.prog z = .ok (.tuple #[.pointer none, .bool false]) z := fun _ => by kernel_rfl
  have ta166 : ∀ (z : World), (Instr.typeAssert (.iface 181 (.agg #[.pointer (some p)])) 20 132 true).run Tryz.prog z = .ok (.tuple #[.pointer none, .bool false]) z := fun _ => by kernel_rfl
  have ta392 : ∀ (z : World), (Instr.typeAssert (.iface 181 (.agg #[.pointer (some p)])) 20 351 true).run Tryz.prog z = .ok (.tuple #[.iface 181 (.agg #[.pointer (some p)]), .bool true]) z := fun _ => by kernel_rfl
  have HC := Lib.hid hc; clear hc
  have HY := Lib.hid hy; clear hy
  go_enter Tryz.func84, Tryz.ntmps84
  go_wp2_with fail
  refine (tryNull_no h hi HY.out).mono ?_
  rintro _ w1 ⟨rfl, k, rfl⟩
  have hm : ∀ z : World, (method 647 181 (.agg #[.pointer (some p)]) "Unmarshal").run Tryz.prog z = .ok (366, .agg #[.pointer (some p)]) z := fun _ => by kernel_rfl
  go_wp2_with fail
  refine (HC.out k).mono ?_
  intro e w' hr
  have he := hR e w' hr
  subst he
  have HR := Lib.hid hr; clear hr hR
  go_wp2
  exact HR.out

set_option maxRecDepth 1000000 in
set_option maxHeartbeats 2000000 in
/-- A field that reads itself. -/
theorem unm_ptime {w : World} {r d n c i : Nat} {bs : List UInt8} {y : UInt8} (h : Buf w r d n c i bs) (hi : At bs i [y]) (hy : ((y.toNat : Int) == 64) = false) (p : Addr)
    {R : Ending → World → Prop} (hR : ∀ e w', R e w' → e = .returned .nilIface) (hc : ∀ k, Calls Tryz.prog 367 #[.agg #[.pointer (some p)], .pointer (some ⟨r, 0, none⟩)] (w.drewN k) R) :
    Calls Tryz.prog 84 #[.pointer (some ⟨r, 0, none⟩), .iface 183 (.agg #[.pointer (some p)])] w R := by
  have ta191 : ∀ (z : World), (Instr.typeAssert (.iface 183 (.agg #[.pointer (some p)])) 20 158 true).run Tryz.prog z = .ok (.tuple #[.pointer none, .bool false]) z := fun _ => by kernel_rfl
  have ta299 : ∀ (z : World), (Instr.typeAssert (.iface 183 (.agg #[.pointer (some p)])) 20 256 true).run Tryz.prog z = .ok (.tuple #[.pointer none, .bool false]) z := fun _ => by kernel_rfl
  have ta302 : ∀ (z : World), (Instr.typeAssert (.iface 183 (.agg #[.pointer (some p)])) 20 259 true).run Tryz.prog z = .ok (.tuple #[.pointer none, .bool false]) z := fun _ => by kernel_rfl
  have ta305 : ∀ (z : World), (Instr.typeAssert (.iface 183 (.agg #[.pointer (some p)])) 20 262 true).run Tryz.prog z = .ok (.tuple #[.pointer none, .bool false]) z := fun _ => by kernel_rfl
  have ta308 : ∀ (z : World), (Instr.typeAssert (.iface 183 (.agg #[.pointer (some p)])) 20 265 true).run Tryz.prog z = .ok (.tuple #[.pointer none, .bool false]) z := fun _ => by kernel_rfl
  have ta311 : ∀ (z : World), (Instr.typeAssert (.iface 183 (.agg #[.pointer (some p)])) 20 266 true).run Tryz.prog z = .ok (.tuple #[.pointer none, .bool false]) z := fun _ => by kernel_rfl
  have ta84 : ∀ (z : World), (Instr.typeAssert (.iface 183 (.agg #[.pointer (some p)])) 20 71 true).run Tryz.prog z = .ok (.tuple #[.pointer none, .bool false]) z := fun _ => by kernel_rfl
  have ta177 : ∀ (z : World), (Instr.typeAssert (.iface 183 (.agg #[.pointer (some p)])) 20 143 true).run Tryz.prog z = .ok (.tuple #[.pointer none, .bool false]) z := fun _ => by kernel_rfl
  have ta316 : ∀ (z : World), (Instr.typeAssert (.iface 183 (.agg #[.pointer (some p)])) 20 269 true).run Tryz.prog z = .ok (.tuple #[.pointer none, .bool false]) z := fun _ => by kernel_rfl
  have ta319 : ∀ (z : World), (Instr.typeAssert (.iface 183 (.agg #[.pointer (some p)])) 20 272 true).run Tryz.prog z = .ok (.tuple #[.pointer none, .bool false]) z := fun _ => by kernel_rfl
  have ta322 : ∀ (z : World), (Instr.typeAssert (.iface 183 (.agg #[.pointer (some p)])) 20 275 true).run Tryz.prog z = .ok (.tuple #[.pointer none, .bool false]) z := fun _ => by kernel_rfl
  have ta325 : ∀ (z : World), (Instr.typeAssert (.iface 183 (.agg #[.pointer (some p)])) 20 278 true).run Tryz.prog z = .ok (.tuple #[.pointer none, .bool false]) z := fun _ => by kernel_rfl
  have ta82 : ∀ (z : World), (Instr.typeAssert (.iface 183 (.agg #[.pointer (some p)])) 20 69 true).run Tryz.prog z = .ok (.tuple #[.pointer none, .bool false]) z := fun _ => by kernel_rfl
  have ta195 : ∀ (z : World), (Instr.typeAssert (.iface 183 (.agg #[.pointer (some p)])) 20 162 true).run Tryz.prog z = .ok (.tuple #[.pointer none, .bool false]) z := fun _ => by kernel_rfl
  have ta76 : ∀ (z : World), (Instr.typeAssert (.iface 183 (.agg #[.pointer (some p)])) 20 63 true).run Tryz.prog z = .ok (.tuple #[.pointer none, .bool false]) z := fun _ => by kernel_rfl
  have ta77 : ∀ (z : World), (Instr.typeAssert (.iface 183 (.agg #[.pointer (some p)])) 20 64 true).run Tryz.prog z = .ok (.tuple #[.pointer none, .bool false]) z := fun _ => by kernel_rfl
  have ta83 : ∀ (z : World), (Instr.typeAssert (.iface 183 (.agg #[.pointer (some p)])) 20 70 true).run Tryz.prog z = .ok (.tuple #[.pointer none, .bool false]) z := fun _ => by kernel_rfl
  have ta336 : ∀ (z : World), (Instr.typeAssert (.iface 183 (.agg #[.pointer (some p)])) 20 289 true).run Tryz.prog z = .ok (.tuple #[.pointer none, .bool false]) z := fun _ => by kernel_rfl
  have ta338 : ∀ (z : World), (Instr.typeAssert (.iface 183 (.agg #[.pointer (some p)])) 20 291 true).run Tryz.prog z = .ok (.tuple #[.pointer none, .bool false]) z := fun _ => by kernel_rfl
  have ta340 : ∀ (z : World), (Instr.typeAssert (.iface 183 (.agg #[.pointer (some p)])) 20 293 true).run Tryz.prog z = .ok (.tuple #[.pointer none, .bool false]) z := fun _ => by kernel_rfl
  have ta342 : ∀ (z : World), (Instr.typeAssert (.iface 183 (.agg #[.pointer (some p)])) 20 295 true).run Tryz.prog z = .ok (.tuple #[.pointer none, .bool false]) z := fun _ => by kernel_rfl
  have ta344 : ∀ (z : World), (Instr.typeAssert (.iface 183 (.agg #[.pointer (some p)])) 20 297 true).run Tryz.prog z = .ok (.tuple #[.pointer none, .bool false]) z := fun _ => by kernel_rfl
  have ta346 : ∀ (z : World), (Instr.typeAssert (.iface 183 (.agg #[.pointer (some p)])) 20 299 true).run Tryz.prog z = .ok (.tuple #[.pointer none, .bool false]) z := fun _ => by kernel_rfl
  have ta348 : ∀ (z : World), (Instr.typeAssert (.iface 183 (.agg #[.pointer (some p)])) 20 301 true).run Tryz.prog z = .ok (.tuple #[.pointer none, .bool false]) z := fun _ => by kernel_rfl
  have ta350 : ∀ (z : World), (Instr.typeAssert (.iface 183 (.agg #[.pointer (some p)])) 20 303 true).run Tryz.prog z = .ok (.tuple #[.pointer none, .bool false]) z := fun _ => by kernel_rfl
  have ta352 : ∀ (z : World), (Instr.typeAssert (.iface 183 (.agg #[.pointer (some p)])) 20 305 true).run Tryz.prog z = .ok (.tuple #[.pointer none, .bool false]) z := fun _ => by kernel_rfl
  have ta354 : ∀ (z : World), (Instr.typeAssert (.iface 183 (.agg #[.pointer (some p)])) 20 307 true).run Tryz.prog z = .ok (.tuple #[.pointer none, .bool false]) z := fun _ => by kernel_rfl
  have ta356 : ∀ (z : World), (Instr.typeAssert (.iface 183 (.agg #[.pointer (some p)])) 20 309 true).run Tryz.prog z = .ok (.tuple #[.pointer none, .bool false]) z := fun _ => by kernel_rfl
  have ta358 : ∀ (z : World), (Instr.typeAssert (.iface 183 (.agg #[.pointer (some p)])) 20 311 true).run Tryz.prog z = .ok (.tuple #[.pointer none, .bool false]) z := fun _ => by kernel_rfl
  have ta360 : ∀ (z : World), (Instr.typeAssert (.iface 183 (.agg #[.pointer (some p)])) 20 313 true).run Tryz.prog z = .ok (.tuple #[.pointer none, .bool false]) z := fun _ => by kernel_rfl
  have ta362 : ∀ (z : World), (Instr.typeAssert (.iface 183 (.agg #[.pointer (some p)])) 20 315 true).run Tryz.prog z = .ok (.tuple #[.pointer none, .bool false]) z := fun _ => by kernel_rfl
  have ta364 : ∀ (z : World), (Instr.typeAssert (.iface 183 (.agg #[.pointer (some p)])) 20 317 true).run Tryz.prog z = .ok (.tuple #[.pointer none, .bool false]) z := fun _ => by kernel_rfl
  have ta366 : ∀ (z : World), (Instr.typeAssert (.iface 183 (.agg #[.pointer (some p)])) 20 319 true).run Tryz.prog z = .ok (.tuple #[.pointer none, .bool false]) z := fun _ => by kernel_rfl
  have ta222 : ∀ (z : World), (Instr.typeAssert (.iface 183 (.agg #[.pointer (some p)])) 20 321 true).run Tryz.prog z = .ok (.tuple #[.pointer none, .bool false]) z := fun _ => by kernel_rfl
  have ta369 : ∀ (z : World), (Instr.typeAssert (.iface 183 (.agg #[.pointer (some p)])) 20 323 true).run Tryz.prog z = .ok (.tuple #[.pointer none, .bool false]) z := fun _ => by kernel_rfl
  have ta218 : ∀ (z : World), (Instr.typeAssert (.iface 183 (.agg #[.pointer (some p)])) 20 325 true).run Tryz.prog z = .ok (.tuple #[.pointer none, .bool false]) z := fun _ => by kernel_rfl
  have ta194 : ∀ (z : World), (Instr.typeAssert (.iface 183 (.agg #[.pointer (some p)])) 20 161 true).run Tryz.prog z = .ok (.tuple #[.pointer none, .bool false]) z := fun _ => by kernel_rfl
  have ta373 : ∀ (z : World), (Instr.typeAssert (.iface 183 (.agg #[.pointer (some p)])) 20 328 true).run Tryz.prog z = .ok (.tuple #[.pointer none, .bool false]) z := fun _ => by kernel_rfl
  have ta166 : ∀ (z : World), (Instr.typeAssert (.iface 183 (.agg #[.pointer (some p)])) 20 132 true).run Tryz.prog z = .ok (.tuple #[.pointer none, .bool false]) z := fun _ => by kernel_rfl
  have ta392 : ∀ (z : World), (Instr.typeAssert (.iface 183 (.agg #[.pointer (some p)])) 20 351 true).run Tryz.prog z = .ok (.tuple #[.iface 183 (.agg #[.pointer (some p)]), .bool true]) z := fun _ => by kernel_rfl
  have HC := Lib.hid hc; clear hc
  have HY := Lib.hid hy; clear hy
  go_enter Tryz.func84, Tryz.ntmps84
  go_wp2_with fail
  refine (tryNull_no h hi HY.out).mono ?_
  rintro _ w1 ⟨rfl, k, rfl⟩
  have hm : ∀ z : World, (method 647 183 (.agg #[.pointer (some p)]) "Unmarshal").run Tryz.prog z = .ok (367, .agg #[.pointer (some p)]) z := fun _ => by kernel_rfl
  go_wp2_with fail
  refine (HC.out k).mono ?_
  intro e w' hr
  have he := hR e w' hr
  subst he
  have HR := Lib.hid hr; clear hr hR
  go_wp2
  exact HR.out
end Go.Proofs.S
