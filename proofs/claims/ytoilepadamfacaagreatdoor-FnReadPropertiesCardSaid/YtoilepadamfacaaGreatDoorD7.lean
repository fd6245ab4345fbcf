/- Rows of pieces that the writer builds: what a program owns and what each piece holds: for lengths within the machine. -/
import Derived.Test.YtoilepadamfacaaGreatDoorD6
import Derived.Test.YtoilepadamfacaaGreatDoorB18
import Derived.Laws.OwnMore
set_option linter.unusedVariables false
set_option linter.unusedSimpArgs false
namespace Go.Proofs.S
open Go.RowKit
theorem rows_ne {w : World} {b b' : Nat} {e e' : TypeId} {s s' n n' : Nat} {v v' : Value} {xs xs' : List Value} (h : w.ownsRow b e s v n xs) (h' : w.ownsRow b' e' s' v' n' xs') (hne : e ≠ e') : v.ownBlock = none ∨ v.ownBlock ≠ v'.ownBlock := by
  rcases h.2 with ⟨rfl, _⟩ | ⟨g, c, cur, rfl, _, hh, _⟩
  · exact .inl rfl
  · rcases h'.2 with ⟨rfl, _⟩ | ⟨g', c', cur', rfl, _, hh', _⟩
    · exact .inr (by simp [Value.ownBlock])
    · refine .inr fun he => ?_
      simp only [Value.ownBlock, Option.some.injEq] at he
      subst he
      rw [hh] at hh'
      injection hh' with hh'
      injection hh' with _ h2
      exact hne h2
def pcl (ps : List (Value × Value)) : List Value := ps.flatMap fun p => [p.1, p.2]
theorem pcl_append (ps qs : List (Value × Value)) : pcl (ps ++ qs) = pcl ps ++ pcl qs := by simp [pcl]
theorem pcl_length (ps : List (Value × Value)) : (pcl ps).length = ps.length * 2 := by
  induction ps with
  | nil => rfl
  | cons p ps ih => simp only [pcl, List.flatMap_cons, List.length_append, List.length_cons, List.length_nil] at ih ⊢; omega
theorem pcl_get : ∀ (ps : List (Value × Value)) (i : Nat) (p : Value × Value), ps[i]? = some p → (pcl ps)[2 * i]? = some p.1 ∧ (pcl ps)[2 * i + 1]? = some p.2 := by
  intro ps
  induction ps with
  | nil => intro i p h; simp at h
  | cons q ps ih =>
    intro i p h
    cases i with
    | zero => simp at h; subst h; exact ⟨rfl, rfl⟩
    | succ i =>
      have := ih i p (by simpa using h)
      have e : pcl (q :: ps) = q.1 :: q.2 :: pcl ps := rfl
      rw [e, show 2 * (i + 1) = 2 * i + 1 + 1 by omega, show 2 * i + 1 + 1 + 1 = 2 * i + 1 + 1 + 1 from rfl]
      simpa using this
/-- A row of pieces (codes, bytes) of the call's own. -/
def OwnP (w : World) (base : Nat) (v : Value) (ps : List (Value × Value)) : Prop := w.ownsRow base 154 2 v ps.length (pcl ps)
theorem Tryz_info154 : (Tryz.prog.info? 154).map (fun i => (i.zero, i.size, i.bytes)) = some (some (.agg #[.int .i64 0, .slice none 0 0]), 2, 32) := by kernel_rfl
/-- Bytes in a block from base on (or none). -/
def Dat (w : World) (base : Nat) (v : Value) (l : List UInt8) : Prop := ∃ A c, v = .slice A l.length c ∧ l.length ≤ c ∧ (l ≠ [] → ∃ g cs fr, A = some ⟨g, 0, none⟩ ∧ base ≤ g ∧ w.heap[g]? = some (.cells cs 5 fr) ∧ Sl8 w g 0 l)
theorem Dat.of_own {w : World} {base : Nat} {v : Value} {l : List UInt8} (h : Own8 w base v l) : Dat w base v l := by
  rcases h.2 with ⟨rfl, h0⟩ | ⟨g, cap, cur, rfl, hg, hh, h1, h2, h3, h4⟩
  · exact ⟨none, 0, by rw [h0], by omega, fun hn => absurd (List.eq_nil_of_length_eq_zero h0) hn⟩
  · refine ⟨_, cap, rfl, h1, fun hn => ?_⟩
    obtain ⟨g', c', he, _, _, _, _, hs⟩ := h.reads hn
    injection he with he _ _
    injection he with he
    injection he with he _ _
    subst he
    exact ⟨g, _, _, rfl, hg, hh, hs⟩
theorem Dat.bs {w : World} {base : Nat} {v : Value} {l : List UInt8} (h : Dat w base v l) : Bs w v l := by
  obtain ⟨A, c, h1, h2, h3⟩ := h
  refine ⟨A, c, h1, h2, fun hn => ?_⟩
  obtain ⟨g, cs, fr, h4, _, _, h5⟩ := h3 hn
  exact ⟨g, 0, h4, h5⟩
theorem Dat.slice {w : World} {base : Nat} {v : Value} {l : List UInt8} (h : Dat w base v l) : ∃ A n c, v = .slice A n c := by
  obtain ⟨A, c, h1, _⟩ := h
  exact ⟨_, _, _, h1⟩
theorem Dat.move {w w1 : World} {base : Nat} {v : Value} {l : List UInt8} (h : Dat w base v l) (hm : ∀ g cs fr, base ≤ g → w.heap[g]? = some (.cells cs 5 fr) → w1.heap[g]? = w.heap[g]?) : Dat w1 base v l := by
  obtain ⟨A, c, h1, h2, h3⟩ := h
  refine ⟨A, c, h1, h2, fun hn => ?_⟩
  obtain ⟨g, cs, fr, h4, h5, h6, h7⟩ := h3 hn
  have hb := hm g cs fr h5 h6
  exact ⟨g, cs, fr, h4, h5, hb.trans h6, fun j x hx => (World.cell?_of_block (a := ⟨g, 0 + j, none⟩) hb).trans (h7 j x hx)⟩
theorem Dat.base {w : World} {base base' : Nat} {v : Value} {l : List UInt8} (h : Dat w base v l) (hb : base' ≤ base) : Dat w base' v l := by
  obtain ⟨A, c, h1, h2, h3⟩ := h
  refine ⟨A, c, h1, h2, fun hn => ?_⟩
  obtain ⟨g, cs, fr, h4, h5, h6⟩ := h3 hn
  exact ⟨g, cs, fr, h4, Nat.le_trans hb h5, h6⟩
/-- A piece: its code, the call's own bytes. -/
def PcOk (base : Nat) (w : World) (Good : Int → List UInt8 → Prop) (p : Value × Value) : Prop := ∃ code data, p.1 = .int .i64 code ∧ Dat w base p.2 data ∧ Good code data
def Pcs (n base : Nat) (w : World) (v : Value) (Good : Int → List UInt8 → Prop) : Prop := ∃ ps, OwnP w base v ps ∧ ps.length ≤ n ∧ ∀ p, p ∈ ps → PcOk base w Good p
def PcsNe (n base : Nat) (w : World) (v : Value) (Good : Int → List UInt8 → Prop) : Prop := ∃ ps, OwnP w base v ps ∧ ps ≠ [] ∧ ps.length ≤ n ∧ ∀ p, p ∈ ps → PcOk base w Good p
theorem PcsNe.pcs {n base : Nat} {w : World} {v : Value} {G : Int → List UInt8 → Prop} (h : PcsNe n base w v G) : Pcs n base w v G := by
  obtain ⟨ps, h1, _, h2, h3⟩ := h
  exact ⟨ps, h1, h2, h3⟩
theorem Own8.slice {w : World} {base : Nat} {v : Value} {l : List UInt8} (h : Own8 w base v l) : ∃ A n c, v = .slice A n c := by
  rcases h.2 with ⟨rfl, _⟩ | ⟨g, cap, cur, rfl, _⟩
  · exact ⟨_, _, _, rfl⟩
  · exact ⟨_, _, _, rfl⟩
theorem PcOk.one {base : Nat} {w : World} {G : Int → List UInt8 → Prop} {p : Value × Value} (h : PcOk base w G p) : p.1.oneCell' = true ∧ p.2.oneCell' = true := by
  obtain ⟨code, data, h1, h2, _⟩ := h
  obtain ⟨A, n, c, h3⟩ := h2.slice
  rw [h1, h3]
  exact ⟨rfl, rfl⟩
theorem PcOk.kept {base : Nat} {w w1 : World} {G : Int → List UInt8 → Prop} {p : Value × Value} {v : Value} {n : Nat} {xs : List Value} {b : Nat} (h : PcOk base w G p) (ho : w.ownsRow b 154 2 v n xs) (hg : w.grownBy w1 v.ownBlock) : PcOk base w1 G p := by
  obtain ⟨code, data, h1, h2, h3⟩ := h
  refine ⟨code, data, h1, h2.move (fun g cs fr hg1 hh => hg.block g (Array.getElem?_eq_some_iff.1 hh).1 (fun he => ?_)), h3⟩
  rcases ho.2 with ⟨rfl, _⟩ | ⟨g', c', cur', rfl, _, hh', _⟩
  · cases he
  · simp only [Value.ownBlock, Option.some.injEq] at he
    subst he
    rw [hh] at hh'
    injection hh' with hh'
    injection hh' with _ h2
    exact absurd h2 (by decide)
theorem PcOk.chg {base : Nat} {w w1 : World} {G : Int → List UInt8 → Prop} {p : Value × Value} {X : Nat → Prop} (h : PcOk base w G p) (hc : Chg X w w1) (hX : ∀ k, X k → k < base) : PcOk base w1 G p := by
  obtain ⟨code, data, h1, h2, h3⟩ := h
  exact ⟨code, data, h1, h2.move (fun g cs fr hg1 hh => hc.block g (Array.getElem?_eq_some_iff.1 hh).1 (fun hx => by have := hX g hx; omega)), h3⟩
theorem row_chg {X : Nat → Prop} {w w1 : World} {base : Nat} {e : TypeId} {s n : Nat} {v : Value} {xs : List Value} (h : w.ownsRow base e s v n xs) (hc : Chg X w w1) (hx : ∀ k, X k → k < base) : w1.ownsRow base e s v n xs := by
  refine ⟨h.1, ?_⟩
  rcases h.2 with h2 | ⟨g, cap, cur, rfl, hg, hh, r⟩
  · exact .inl h2
  · exact .inr ⟨g, cap, cur, rfl, hg, (hc.block g (Array.getElem?_eq_some_iff.1 hh).1 (fun hX => by have := hx g hX; omega)).trans hh, r⟩
theorem row_base {w : World} {base base' : Nat} {e : TypeId} {s n : Nat} {v : Value} {xs : List Value} (h : w.ownsRow base e s v n xs) (hb : base' ≤ base) : w.ownsRow base' e s v n xs := by
  refine ⟨h.1, ?_⟩
  rcases h.2 with h2 | ⟨g, cap, cur, rfl, hg, r⟩
  · exact .inl h2
  · exact .inr ⟨g, cap, cur, rfl, Nat.le_trans hb hg, r⟩
theorem Pcs.chg {n base : Nat} {w w1 : World} {v : Value} {G : Int → List UInt8 → Prop} {X : Nat → Prop} (h : Pcs n base w v G) (hc : Chg X w w1) (hX : ∀ k, X k → k < base) : Pcs n base w1 v G := by
  obtain ⟨ps, h1, h2, h3⟩ := h
  exact ⟨ps, row_chg h1 hc hX, h2, fun p hp => (h3 p hp).chg hc hX⟩
theorem PcsNe.chg {n base : Nat} {w w1 : World} {v : Value} {G : Int → List UInt8 → Prop} {X : Nat → Prop} (h : PcsNe n base w v G) (hc : Chg X w w1) (hX : ∀ k, X k → k < base) : PcsNe n base w1 v G := by
  obtain ⟨ps, h1, h0, h2, h3⟩ := h
  exact ⟨ps, row_chg h1 hc hX, h0, h2, fun p hp => (h3 p hp).chg hc hX⟩
theorem PcOk.base {base base' : Nat} {w : World} {G : Int → List UInt8 → Prop} {p : Value × Value} (h : PcOk base w G p) (hb : base' ≤ base) : PcOk base' w G p := by
  obtain ⟨code, data, h1, h2, h3⟩ := h
  exact ⟨code, data, h1, h2.base hb, h3⟩
theorem PcsNe.base {n base base' : Nat} {w : World} {v : Value} {G : Int → List UInt8 → Prop} (h : PcsNe n base w v G) (hb : base' ≤ base) : PcsNe n base' w v G := by
  obtain ⟨ps, h1, h0, h2, h3⟩ := h
  exact ⟨ps, row_base h1 hb, h0, h2, fun p hp => (h3 p hp).base hb⟩
theorem PcsNe.imp {n base : Nat} {w : World} {v : Value} {G G' : Int → List UInt8 → Prop} (h : PcsNe n base w v G) (hG : ∀ c d, G c d → G' c d) : PcsNe n base w v G' := by
  obtain ⟨ps, h1, h0, h2, h3⟩ := h
  refine ⟨ps, h1, h0, h2, fun p hp => ?_⟩
  obtain ⟨c, d, q1, q2, q3⟩ := h3 p hp
  exact ⟨c, d, q1, q2, hG _ _ q3⟩
theorem PcsNe.more {n m base : Nat} {w : World} {v : Value} {G : Int → List UInt8 → Prop} (h : PcsNe n base w v G) (hm : n ≤ m) : PcsNe m base w v G := by
  obtain ⟨ps, h1, h0, h2, h3⟩ := h
  exact ⟨ps, h1, h0, Nat.le_trans h2 hm, h3⟩
theorem Pcs.nil (n base : Nat) (w : World) (G : Int → List UInt8 → Prop) : Pcs n base w (.slice none 0 0) G := ⟨[], World.ownsRow_nil w base 154 2, Nat.zero_le _, fun p hp => by cases hp⟩
/-- A literal of one piece. -/
theorem PcsNe.lit1 {base : Nat} {w : World} {G : Int → List UInt8 → Prop} {x y : Value} (hp : PcOk base w G (x, y)) (hb : base ≤ w.heap.size) : PcsNe 1 base (w.alloc (.cells #[x, y] 154)) (.slice (some ⟨w.heap.size, 0, none⟩) 1 1) G :=
  ⟨[(x, y)], World.ownsRow_lit (base := base) (e := 154) (size := 2) w #[x, y] 1 hb (by simp [maxLen]) rfl, by simp, by simp, fun p hp' => by
    rw [List.mem_singleton.1 hp']
    exact hp.chg ((Chg.refl (fun _ => False) w).alloc _) (fun _ h => h.elim)⟩
/-- append(v, u...) of pieces. -/
theorem run_appP {n m base : Nat} {w : World} {v u : Value} {G : Int → List UInt8 → Prop} (h : Pcs n base w v G) (h' : PcsNe m base w u G) (hn : n + m ≤ 1000) (hb : base ≤ w.heap.size) :
    ∃ v1 w1, (Builtin.append_ #[151, 151] 151 #[v, u]).run Tryz.prog w = .ok v1 w1 ∧ PcsNe (n + m) base w1 v1 G ∧ (∀ b2, (∀ k, v.ownBlock = some k → b2 ≤ k) → Chg (fun b => b2 ≤ b) w w1) ∧ w.grownBy w1 v.ownBlock := by
  obtain ⟨ps, ho, hl, hp⟩ := h
  obtain ⟨qs, ho', hne, hl', hq⟩ := h'
  obtain ⟨i0, hi, hzz⟩ := Option.map_eq_some_iff.1 Tryz_info154
  simp only [Prod.mk.injEq] at hzz
  obtain ⟨hz0, hz1, hz2⟩ := hzz
  rcases ho'.2 with ⟨rfl, h0⟩ | ⟨g, cap, cur, rfl, hg, hh, r1, r2, r3, r4⟩
  · exact absurd (List.eq_nil_of_length_eq_zero h0) hne
  · obtain ⟨v1, w1, q1, q2, q3, _, q5⟩ := run_append_own_at (P := Tryz.prog) w base 151 151 154 i0 _ 2 32 Tryz.underlying151 hi hz0 hz1 hz2 rfl (by decide) v ps.length (pcl ps) ho ⟨g, 0, none⟩ qs.length cap (pcl qs) (pcl_length qs)
      (World.ownsRow.cells ho' (g := g) rfl) (fun x hx => by
        simp only [pcl, List.mem_flatMap, List.mem_cons, List.not_mem_nil, or_false] at hx
        obtain ⟨p, hp', hx⟩ := hx
        have := (hq p hp').one
        rcases hx with rfl | rfl
        · exact this.1
        · exact this.2) (by simp only [maxLen]; omega) (by omega) hb
    refine ⟨v1, w1, q1, ⟨ps ++ qs, ?_, by simp [hne], by simp; omega, fun p hp' => ?_⟩, ?_, q3⟩
    · show w1.ownsRow base 154 2 v1 _ _
      rw [pcl_append, List.length_append]
      exact q2
    · rcases List.mem_append.1 hp' with h | h
      · exact (hp p h).kept ho q3
      · exact (hq p h).kept ho q3
    · exact fun b2 hb2 => (Chg.refl _ w).grown q3 (fun k hk _ => hb2 k hk)
theorem row_map {w w1 : World} {base B m : Nat} {D : DataW Unit} {e : TypeId} {s n : Nat} {v : Value} {xs : List Value} (h : w.ownsRow base e s v n xs) (hm : MapI w B m D) (hg : w.grownBy w1 (some B)) : w1.ownsRow base e s v n xs := by
  refine World.ownsRow.kept h hg ?_
  rcases h.2 with ⟨rfl, _⟩ | ⟨g, c, cur, rfl, _, hh, _⟩
  · exact .inl rfl
  · refine .inr fun he => ?_
    simp only [Value.ownBlock, Option.some.injEq] at he
    subst he
    obtain ⟨es, ck, h1, _⟩ := hm
    rw [hh] at h1
    cases h1
theorem PcsNe.map {n base B m : Nat} {D : DataW Unit} {w w1 : World} {v : Value} {G : Int → List UInt8 → Prop} (h : PcsNe n base w v G) (hm : MapI w B m D) (hg : w.grownBy w1 (some B)) : PcsNe n base w1 v G := by
  obtain ⟨ps, h1, h0, h2, h3⟩ := h
  refine ⟨ps, row_map h1 hm hg, h0, h2, fun p hp => ?_⟩
  obtain ⟨c, d, q1, q2, q3⟩ := h3 p hp
  refine ⟨c, d, q1, q2.move (fun g cs fr hg1 hh => hg.block g (Array.getElem?_eq_some_iff.1 hh).1 (fun he => ?_)), q3⟩
  injection he with he
  subst he
  obtain ⟨es, ck, h1, _⟩ := hm
  rw [hh] at h1
  cases h1
/-- What lies at an index. -/
theorem PcsNe.at {n base : Nat} {w : World} {v : Value} {G : Int → List UInt8 → Prop} (h : PcsNe n base w v G) : ∃ g len c, v = .slice (some ⟨g, 0, none⟩) len c ∧ base ≤ g ∧ g < w.heap.size ∧ 1 ≤ len ∧ len ≤ n ∧ len ≤ c ∧ ∀ i, i < len → ∃ code dv data, w.cell? ⟨g, i * 2, none⟩ = some (.int .i64 code) ∧ w.cell? ⟨g, i * 2 + 1, none⟩ = some dv ∧ Dat w base dv data ∧ G code data := by
  obtain ⟨ps, ho, hne, hl, hp⟩ := h
  rcases ho.2 with ⟨rfl, h0⟩ | ⟨g, cap, cur, rfl, hg, hh, r1, r2, r3, r4⟩
  · exact absurd (List.eq_nil_of_length_eq_zero h0) hne
  · refine ⟨g, _, cap, rfl, hg, (Array.getElem?_eq_some_iff.1 hh).1, by have := List.length_pos_iff.2 hne; omega, hl, r1, fun i hi => ?_⟩
    have hget : ps[i]? = some ps[i] := List.getElem?_eq_getElem hi
    obtain ⟨c1, c2⟩ := pcl_get ps i _ hget
    obtain ⟨code, data, e1, e2, e3⟩ := hp _ (List.getElem_mem hi)
    have hc := World.ownsRow.cells ho (g := g) rfl
    have k1 := hc _ _ c1
    have k2 := hc _ _ c2
    rw [add_off, Nat.zero_add, Nat.mul_comm] at k1
    rw [add_off, Nat.zero_add, Nat.mul_comm] at k2
    exact ⟨code, _, data, by rw [k1, e1], k2, e2, e3⟩
/-- The forms of a value that is no list. -/
def EncV (kd : Int) (u : Nat) (tx : List UInt8) (enc : List UInt8) : Prop :=
  if kd = 0 then enc = [0x40] else if kd = 4 then EncUint u enc else if kd = 5 then EncUlong u enc else if kd = 16 then TimeEnc (wrap64 u) enc else if kd = 17 then UuidEnc tx enc else if kd = 18 then BinEnc tx enc else TextEnc tx enc
def GoodV (kd : Int) (u : Nat) (tx : List UInt8) (code : Int) (data : List UInt8) : Prop := ∃ b : UInt8, code = (b.toNat : Int) ∧ EncV kd u tx (b :: data)
/-- Above all numbers of 64 bits. -/
def U64 : Nat := 18446744073709551616
theorem beNat_be4 (u : Nat) (h : u < 4294967296) : Lib.beNat (be 4 u) = u := by
  simp only [be, Lib.beNat, Lib.beFrom, UInt8.toNat_ofNat']
  omega
theorem beNat_be8 (u : Nat) (h : u < 18446744073709551616) : Lib.beNat (be 8 u) = u := by
  simp only [be, Lib.beNat, Lib.beFrom, UInt8.toNat_ofNat']
  omega
theorem be4_enc (u : Nat) (h : u < 4294967296) : EncUint u (0x70 :: be 4 u) := by
  have := EncUint.full (UInt8.ofNat (u / 256 ^ 3)) (UInt8.ofNat (u / 256 ^ 2)) (UInt8.ofNat (u / 256 ^ 1)) (UInt8.ofNat (u / 256 ^ 0))
  rw [show [UInt8.ofNat (u / 256 ^ 3), UInt8.ofNat (u / 256 ^ 2), UInt8.ofNat (u / 256 ^ 1), UInt8.ofNat (u / 256 ^ 0)] = be 4 u from rfl, beNat_be4 u h] at this
  exact this
theorem be8_enc (u : Nat) (h : u < 18446744073709551616) : EncUlong u (0x80 :: be 8 u) := by
  have := EncUlong.full (UInt8.ofNat (u / 256 ^ 7)) (UInt8.ofNat (u / 256 ^ 6)) (UInt8.ofNat (u / 256 ^ 5)) (UInt8.ofNat (u / 256 ^ 4)) (UInt8.ofNat (u / 256 ^ 3)) (UInt8.ofNat (u / 256 ^ 2)) (UInt8.ofNat (u / 256 ^ 1)) (UInt8.ofNat (u / 256 ^ 0))
  rw [show [UInt8.ofNat (u / 256 ^ 7), UInt8.ofNat (u / 256 ^ 6), UInt8.ofNat (u / 256 ^ 5), UInt8.ofNat (u / 256 ^ 4), UInt8.ofNat (u / 256 ^ 3), UInt8.ofNat (u / 256 ^ 2), UInt8.ofNat (u / 256 ^ 1), UInt8.ofNat (u / 256 ^ 0)] = be 8 u from rfl, beNat_be8 u h] at this
  exact this
theorem time_enc (u : Nat) (h : u < 18446744073709551616) : TimeEnc (wrap64 u) (0x83 :: be 8 u) := by
  have := TimeEnc.mk (UInt8.ofNat (u / 256 ^ 7)) (UInt8.ofNat (u / 256 ^ 6)) (UInt8.ofNat (u / 256 ^ 5)) (UInt8.ofNat (u / 256 ^ 4)) (UInt8.ofNat (u / 256 ^ 3)) (UInt8.ofNat (u / 256 ^ 2)) (UInt8.ofNat (u / 256 ^ 1)) (UInt8.ofNat (u / 256 ^ 0))
  rw [show [UInt8.ofNat (u / 256 ^ 7), UInt8.ofNat (u / 256 ^ 6), UInt8.ofNat (u / 256 ^ 5), UInt8.ofNat (u / 256 ^ 4), UInt8.ofNat (u / 256 ^ 3), UInt8.ofNat (u / 256 ^ 2), UInt8.ofNat (u / 256 ^ 1), UInt8.ofNat (u / 256 ^ 0)] = be 8 u from rfl, beNat_be8 u h] at this
  exact this
theorem be1_uint (u : Nat) (h : u < 256) : EncUint u (0x52 :: be 1 u) := by
  have := EncUint.small (UInt8.ofNat (u / 256 ^ 0))
  rw [show (UInt8.ofNat (u / 256 ^ 0)).toNat = u by simp only [UInt8.toNat_ofNat']; omega] at this
  exact this
theorem be1_ulong (u : Nat) (h : u < 256) : EncUlong u (0x53 :: be 1 u) := by
  have := EncUlong.small (UInt8.ofNat (u / 256 ^ 0))
  rw [show (UInt8.ofNat (u / 256 ^ 0)).toNat = u by simp only [UInt8.toNat_ofNat']; omega] at this
  exact this
end Go.Proofs.S
