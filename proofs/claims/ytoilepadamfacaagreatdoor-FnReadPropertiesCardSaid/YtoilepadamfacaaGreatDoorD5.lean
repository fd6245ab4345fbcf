/- A law for regions of code that leave their order of evaluation open: for operations whose results stay true beside the others. -/
import Derived.Test.YtoilepadamfacaaGreatDoorB20
set_option linter.unusedVariables false
set_option linter.unusedSimpArgs false
namespace Go.Proofs.S
section
variable {P : Program} {md : Region.Mode}
/-- What one operation does. -/
def OpDoes (P : Program) (o : Oper) (ev : Operand → Value) (w : World) (post : Value → World → Prop) : Prop :=
  match (execOp ev o).run P w with
  | .ok (.value v) w' => post v w'
  | .ok .skip w' => post undef w'
  | .ok (.enter f args) w' => Calls P f args w' fun e w'' => ∃ v, e = .returned v ∧ post v w''
  | _ => False
theorem OpDoes.wp {o : Oper} {a : Act} {w : World} {post : Value → World → Prop} {K : Act → World → Prop} {Q : Exit → Act → World → Prop} (h : OpDoes P o a.eval w post)
    (hK : ∀ v w', post v w' → K (a.put o.dst v) w') : Oper.wp P o a w K Q := by
  unfold Oper.wp
  unfold OpDoes at h
  generalize (execOp a.eval o).run P w = r at h ⊢
  match r, h with
  | .ok (.value v) w', h => exact hK _ _ h
  | .ok .skip w', h => exact hK _ _ h
  | .ok (.enter f args) w', h =>
    refine Calls.mono h ?_
    rintro e w'' ⟨v, rfl, hp⟩
    exact hK _ _ hp
theorem OpDoes.mono {o : Oper} {ev : Operand → Value} {w : World} {p q : Value → World → Prop} (h : OpDoes P o ev w p) (hpq : ∀ v w', p v w' → q v w') : OpDoes P o ev w q := by
  unfold OpDoes at h ⊢
  generalize (execOp ev o).run P w = r at h ⊢
  match r, h with
  | .ok (.value v) w', h => exact hpq _ _ h
  | .ok .skip w', h => exact hpq _ _ h
  | .ok (.enter f args) w', h =>
    refine Calls.mono h ?_
    rintro e w'' ⟨v, rfl, hp⟩
    exact ⟨v, rfl, hpq _ _ hp⟩
def dstOf (ops : Array Oper) (j : Nat) : Option Tmp := (ops[j]?).bind (·.dst)
def needsB (md : Region.Mode) (o : Oper) (i : Nat) : Bool := o.after.any fun e => Region.binds md e && e.on == i
def needsAt (md : Region.Mode) (ops : Array Oper) (k i : Nat) : Bool := ((ops[k]?).map (needsB md · i)).getD false
def dataB (md : Region.Mode) (o : Oper) (i : Nat) : Bool := o.after.any fun e => Region.binds md e && e.on == i && (match e.ground with | .data => true | _ => false)
def dataAt (md : Region.Mode) (ops : Array Oper) (k i : Nat) : Bool := ((ops[k]?).map (dataB md · i)).getD false
theorem needs_of_data {md : Region.Mode} {o : Oper} {i : Nat} (h : dataB md o i = true) : needsB md o i = true := by
  unfold dataB at h
  unfold needsB
  obtain ⟨e, he, hb⟩ := Array.any_eq_true'.1 h
  rw [Bool.and_eq_true] at hb
  exact Array.any_eq_true'.2 ⟨e, he, hb.1⟩
theorem needsAt_of_data {md : Region.Mode} {ops : Array Oper} {k i : Nat} (h : dataAt md ops k i = true) : needsAt md ops k i = true := by
  unfold dataAt at h
  unfold needsAt
  cases ho : ops[k]? with
  | none => rw [ho] at h; cases h
  | some o => rw [ho] at h; exact needs_of_data h
/-- The values that operation k looks at. -/
def mask (md : Region.Mode) (ops : Array Oper) (k : Nat) (vals : Nat → Value) (i : Nat) : Value := if dataAt md ops k i = true then vals i else undef
/-- Waits for it, directly or through others. -/
def needsIn (md : Region.Mode) (ops : Array Oper) : Nat → Nat → Nat → Bool
  | 0, _, _ => false
  | f + 1, k, m => needsAt md ops k m || (List.range ops.size).any fun j => needsAt md ops k j && needsIn md ops f j m
def safeB (md : Region.Mode) (ops : Array Oper) (k s : Nat) : Bool := (List.range ops.size).all fun i => i == k || dstOf ops i != some s || needsAt md ops i k
def keepB (md : Region.Mode) (ops : Array Oper) (fin : List Nat) (k i : Nat) : Bool := !needsIn md ops 9 i k && (fin.contains i || (List.range ops.size).any fun m => m != k && !needsIn md ops 9 k m && dataAt md ops m i)
def distinctB (ops : Array Oper) : Bool := (List.range ops.size).all fun i => (List.range ops.size).all fun j => i == j || dstOf ops i == none || dstOf ops i != dstOf ops j
def whichOp (ops : Array Oper) (listed : Array Bool) (s : Nat) : Option Nat := (List.range ops.size).find? fun j => listed.getD j false && dstOf ops j == some s
def puts (ops : Array Oper) (a0 : Act) (listed : Array Bool) (vals : Nat → Value) : Act :=
  { a0 with tmps := a0.tmps.mapIdx fun s x => match whichOp ops listed s with | some j => vals j | none => x }
theorem dstOf_lt {ops : Array Oper} {j : Nat} {s : Tmp} (h : dstOf ops j = some s) : j < ops.size := by
  unfold dstOf at h
  rcases Nat.lt_or_ge j ops.size with hj | hj
  · exact hj
  · rw [Array.getElem?_eq_none hj] at h
    cases h
theorem which_some {ops : Array Oper} (hd : distinctB ops = true) {listed : Array Bool} {j : Nat} {s : Nat} (h1 : listed.getD j false = true) (h2 : dstOf ops j = some s) : whichOp ops listed s = some j := by
  have hj := dstOf_lt h2
  unfold whichOp
  cases hf : (List.range ops.size).find? (fun j => listed.getD j false && dstOf ops j == some s) with
  | none =>
    have := List.find?_eq_none.1 hf j (by simpa using hj)
    simp only [h1, h2, beq_self_eq_true, Bool.and_self] at this
    exact absurd trivial this
  | some i =>
    have hi := List.find?_some hf
    simp only [Bool.and_eq_true, beq_iff_eq] at hi
    have hil := dstOf_lt hi.2
    rcases Classical.em (i = j) with e | e
    · rw [e]
    · exfalso
      unfold distinctB at hd
      simp only [List.all_eq_true, List.mem_range] at hd
      have := hd i hil j hj
      simp [e, hi.2, h2] at this
theorem which_none {ops : Array Oper} {listed : Array Bool} {s : Nat} (h : ∀ j, dstOf ops j = some s → listed.getD j false = false) : whichOp ops listed s = none := by
  unfold whichOp
  refine List.find?_eq_none.2 fun j _ hp => ?_
  simp only [Bool.and_eq_true, beq_iff_eq] at hp
  rw [h j hp.2] at hp
  exact absurd hp.1 (by decide)
theorem getD_set (listed : Array Bool) (k j : Nat) (hk : k < listed.size) : (listed.setIfInBounds k true).getD j false = if j = k then true else listed.getD j false := by
  simp only [Array.getD_eq_getD_getElem?, Array.getElem?_setIfInBounds]
  rcases Classical.em (j = k) with e | e
  · subst e; simp [hk]
  · rw [if_neg (fun h => e h.symm), if_neg e]
theorem which_set {ops : Array Oper} {listed : Array Bool} {k s : Nat} (hk : k < listed.size) (hs : dstOf ops k ≠ some s) : whichOp ops (listed.setIfInBounds k true) s = whichOp ops listed s := by
  unfold whichOp
  congr 1
  funext j
  rw [getD_set _ _ _ hk]
  rcases Classical.em (j = k) with e | e
  · subst e
    have : (dstOf ops j == some s) = false := by simpa using hs
    simp [this]
  · rw [if_neg e]
theorem puts_put {ops : Array Oper} (hd : distinctB ops = true) (a0 : Act) {listed : Array Bool} (vals : Nat → Value) {k : Nat} (hk : k < listed.size) (hu : listed.getD k false = false) (v : Value) :
    (puts ops a0 listed vals).put (dstOf ops k) v = puts ops a0 (listed.setIfInBounds k true) (fun i => if i = k then v else vals i) := by
  have key : ∀ s, dstOf ops k ≠ some s → ∀ x : Value, (match whichOp ops listed s with | some j => vals j | none => x) = (match whichOp ops (listed.setIfInBounds k true) s with | some j => (if j = k then v else vals j) | none => x) := by
    intro s hs x
    rw [which_set hk hs]
    cases hw : whichOp ops listed s with
    | none => rfl
    | some j =>
      have := List.find?_some hw
      simp only [Bool.and_eq_true, beq_iff_eq] at this
      have hjk : j ≠ k := fun e => by rw [e, hu] at this; exact absurd this.1 (by decide)
      simp [hjk]
  cases hdk : dstOf ops k with
  | none =>
    simp only [Act.put, puts]
    congr 1
    refine Array.ext (by simp) fun s h1 h2 => ?_
    simp only [Array.getElem_mapIdx]
    exact key s (by rw [hdk]; exact fun h => by cases h) _
  | some d =>
    simp only [Act.put, puts]
    congr 1
    refine Array.ext (by simp) fun s h1 h2 => ?_
    rcases Classical.em (d = s) with e | e
    · subst e
      simp only [Array.getElem_mapIdx]
      rw [which_some hd (j := k) (by rw [getD_set _ _ _ hk, if_pos rfl]) hdk]
      simp
    · rw [Array.getElem_setIfInBounds_ne (by simpa using h2) e]
      simp only [Array.getElem_mapIdx]
      exact key s (by rw [hdk]; intro h; injection h with h; exact e h) _
theorem needsIn_listed {md : Region.Mode} {ops : Array Oper} {listed : Array Bool} (hc : ∀ k i, listed.getD k false = true → needsAt md ops k i = true → listed.getD i false = true) : ∀ f k m, (∀ i, needsAt md ops k i = true → listed.getD i false = true) → needsIn md ops f k m = true → listed.getD m false = true := by
  intro f
  induction f with
  | zero => intro k m _ h; cases h
  | succ f ih =>
    intro k m hk h
    simp only [needsIn, Bool.or_eq_true, List.any_eq_true, List.mem_range, Bool.and_eq_true] at h
    rcases h with h | ⟨j, _, h1, h2⟩
    · exact hk m h
    · exact ih j m (fun i hi => hc j i (hk j h1) hi) h2
theorem puts_none (ops : Array Oper) (a0 : Act) (n : Nat) (vals : Nat → Value) : puts ops a0 (Array.replicate n false) vals = a0 := by
  unfold puts
  have : ∀ s, whichOp ops (Array.replicate n false) s = none := fun s => which_none fun j _ => by
    simp only [Array.getD_eq_getD_getElem?, Array.getElem?_replicate]
    split <;> rfl
  obtain ⟨t, d⟩ := a0
  simp only [this]
  congr 1
  refine Array.ext (by simp) fun s h1 h2 => by simp
/-- What is asked of operation k. -/
def StepZ (P : Program) (md : Region.Mode) (ops : Array Oper) (a0 : Act) (R : Nat → Value → (Nat → Value) → Nat → World → Prop) (z : Nat) (Inv : Bool → World → Prop) (fin : List Nat) (k : Nat) (o : Oper) : Prop :=
  ∀ (vals : Nat → Value) (ev : Operand → Value) (c : Nat) (w : World) (b : Bool), (needsIn md ops 9 z k = true → b = false) → (k = z → b = false) → (needsAt md ops k z = true → b = true) → c < ops.size → Inv b w → (∀ i, dataB md o i = true → R i (vals i) (mask md ops i vals) c w) →
    (∀ i s, dataB md o i = true → dstOf ops i = some s → s < a0.tmps.size → ev (.tmp s) = vals i) → (∀ s, safeB md ops k s = true → ev (.tmp s) = a0.eval (.tmp s)) →
    (∀ v, ev (.const v) = v) → (∀ f, ev (.func f) = .func (.func f) #[] #[]) → (∀ g, ev (.global g) = .pointer (some ⟨g, 0, none⟩)) →
    OpDoes P o ev w fun v w' => R k v (mask md ops k vals) (c + 1) w' ∧ Inv (b || k == z) w' ∧ ∀ i u m, i ≠ k → keepB md ops fin k i = true → R i u m c w → R i u m (c + 1) w'
def StepsFromZ (P : Program) (md : Region.Mode) (ops : Array Oper) (a0 : Act) (R : Nat → Value → (Nat → Value) → Nat → World → Prop) (z : Nat) (Inv : Bool → World → Prop) (fin : List Nat) : List Oper → Nat → Prop
  | [], _ => True
  | o :: l, k => (o.guard = none ∧ StepZ P md ops a0 R z Inv fin k o) ∧ StepsFromZ P md ops a0 R z Inv fin l (k + 1)
/-- What is asked of operation k. -/
def Step (P : Program) (md : Region.Mode) (ops : Array Oper) (a0 : Act) (R : Nat → Value → (Nat → Value) → Nat → World → Prop) (Inv : World → Prop) (fin : List Nat) (k : Nat) (o : Oper) : Prop :=
  ∀ (vals : Nat → Value) (ev : Operand → Value) (c : Nat) (w : World), c < ops.size → Inv w → (∀ i, dataB md o i = true → R i (vals i) (mask md ops i vals) c w) →
    (∀ i s, dataB md o i = true → dstOf ops i = some s → s < a0.tmps.size → ev (.tmp s) = vals i) → (∀ s, safeB md ops k s = true → ev (.tmp s) = a0.eval (.tmp s)) →
    (∀ v, ev (.const v) = v) → (∀ f, ev (.func f) = .func (.func f) #[] #[]) → (∀ g, ev (.global g) = .pointer (some ⟨g, 0, none⟩)) →
    OpDoes P o ev w fun v w' => R k v (mask md ops k vals) (c + 1) w' ∧ Inv w' ∧ ∀ i u m, i ≠ k → keepB md ops fin k i = true → R i u m c w → R i u m (c + 1) w'
def StepsFrom (P : Program) (md : Region.Mode) (ops : Array Oper) (a0 : Act) (R : Nat → Value → (Nat → Value) → Nat → World → Prop) (Inv : World → Prop) (fin : List Nat) : List Oper → Nat → Prop
  | [], _ => True
  | o :: l, k => (o.guard = none ∧ Step P md ops a0 R Inv fin k o) ∧ StepsFrom P md ops a0 R Inv fin l (k + 1)
theorem StepsFrom.z {ops : Array Oper} {a0 : Act} {R : Nat → Value → (Nat → Value) → Nat → World → Prop} {Inv : World → Prop} {fin : List Nat} : ∀ (l : List Oper) (k : Nat), StepsFrom P md ops a0 R Inv fin l k → StepsFromZ P md ops a0 R 0 (fun _ => Inv) fin l k := by
  intro l
  induction l with
  | nil => intro k _; trivial
  | cons o l ih => exact fun k h => ⟨⟨h.1.1, fun vals ev c w _ _ _ _ => h.1.2 vals ev c w⟩, ih (k + 1) h.2⟩
theorem StepsFromZ.get {ops : Array Oper} {a0 : Act} {R : Nat → Value → (Nat → Value) → Nat → World → Prop} {z : Nat} {Inv : Bool → World → Prop} {fin : List Nat} : ∀ (l : List Oper) (k : Nat), StepsFromZ P md ops a0 R z Inv fin l k → ∀ j o, l[j]? = some o → o.guard = none ∧ StepZ P md ops a0 R z Inv fin (k + j) o := by
  intro l
  induction l with
  | nil => intro k _ j o h; simp at h
  | cons x l ih =>
    intro k h j o hj
    cases j with
    | zero => simp at hj; subst hj; exact h.1
    | succ j =>
      have := ih (k + 1) h.2 j o (by simpa using hj)
      rwa [show k + (j + 1) = k + 1 + j by omega]
def unlisted (n : Nat) (listed : Array Bool) : Nat := ((List.range n).filter fun i => !listed.getD i false).length
structure RelyInv (md : Region.Mode) (ops : Array Oper) (a0 : Act) (R : Nat → Value → (Nat → Value) → Nat → World → Prop) (z : Nat) (Inv : Bool → World → Prop) (fin : List Nat) (listed : Array Bool) (a : Act) (c : Nat) (w : World) (vals : Nat → Value) : Prop where
  cnt : c + unlisted ops.size listed ≤ ops.size
  size : listed.size = ops.size
  act : a = puts ops a0 listed vals
  inv : Inv (listed.getD z false) w
  closed : ∀ k i, listed.getD k false = true → needsAt md ops k i = true → listed.getD i false = true
  res : ∀ i, listed.getD i false = true → (fin.contains i = true ∨ ∃ k, listed.getD k false = false ∧ dataAt md ops k i = true) → R i (vals i) (mask md ops i vals) c w
theorem unlisted_set {n k : Nat} {listed : Array Bool} (hs : listed.size = n) (hk : k < n) (hu : listed.getD k false = false) : unlisted n (listed.setIfInBounds k true) + 1 ≤ unlisted n listed := by
  unfold unlisted
  have hk' : k < listed.size := by omega
  have h1 : ((List.range n).filter fun i => !(listed.setIfInBounds k true).getD i false) = ((List.range n).filter fun i => !listed.getD i false).filter fun i => i != k := by
    rw [List.filter_filter]
    congr 1
    funext i
    rw [getD_set _ _ _ hk']
    rcases Classical.em (i = k) with e | e
    · subst e; simp
    · simp [e]
  rw [h1]
  have hm : k ∈ (List.range n).filter fun i => !listed.getD i false := by simp [List.mem_filter, hk]; simpa [Array.getD_eq_getD_getElem?] using hu
  exact List.length_filter_lt_length_iff_exists.2 ⟨k, hm, by simp⟩
theorem wpAny_rely {ops : Array Oper} {a0 : Act} {R : Nat → Value → (Nat → Value) → Nat → World → Prop} {z : Nat} {Inv : Bool → World → Prop} {fin : List Nat} {Q : Exit → Act → World → Prop} (hd : distinctB ops = true)
    (hsteps : StepsFromZ P md ops a0 R z Inv fin ops.toList 0)
    (hQ : ∀ listed a c w vals, RelyInv md ops a0 R z Inv fin listed a c w vals → Region.ready md ops listed = [] → Q .normal a w) :
    ∀ (fuel : Nat) (listed : Array Bool) (a : Act) (c : Nat) (w : World) (vals : Nat → Value), RelyInv md ops a0 R z Inv fin listed a c w vals → unlisted ops.size listed ≤ fuel → wpAny P md ops Q fuel listed a w := by
  have ready_spec : ∀ {listed : Array Bool} {j : Nat}, listed.size = ops.size → j ∈ Region.ready md ops listed → j < ops.size ∧ listed.getD j false = false ∧ ∃ o, ops[j]? = some o ∧ ∀ i, needsB md o i = true → listed.getD i false = true := by
    intro listed j hs hj
    unfold Region.ready at hj
    simp only [List.mem_filter, List.mem_range, Bool.and_eq_true] at hj
    obtain ⟨h1, h2, h3⟩ := hj
    obtain ⟨o, ho⟩ : ∃ o, ops[j]? = some o := ⟨_, Array.getElem?_eq_getElem h1⟩
    rw [ho] at h3
    simp only [Option.map_some, Option.getD_some] at h3
    refine ⟨h1, ?_, o, ho, fun i hi => ?_⟩
    · have hj' : j < listed.size := by omega
      simpa [Array.getD_eq_getD_getElem?, hj'] using h2
    · unfold needsB at hi
      obtain ⟨e, he, hb⟩ := Array.any_eq_true'.1 hi
      simp only [Bool.and_eq_true, beq_iff_eq] at hb
      have := Array.all_eq_true'.1 h3 e he
      rw [hb.1, hb.2] at this
      simpa using this
  intro fuel
  induction fuel with
  | zero =>
    intro listed a c w vals hI hu
    have hr : Region.ready md ops listed = [] := by
      rw [List.eq_nil_iff_forall_not_mem]
      intro j hj
      obtain ⟨h1, h2, _⟩ := ready_spec hI.size hj
      have := unlisted_set hI.size h1 h2
      omega
    exact ⟨hr, hQ _ _ _ _ _ hI hr⟩
  | succ fuel ih =>
    intro listed a c w vals hI hu
    refine ⟨fun hr => hQ _ _ _ _ _ hI hr, fun j hj => ?_⟩
    obtain ⟨h1, h2, o, ho, hneed⟩ := ready_spec hI.size hj
    have hj' : j < listed.size := by rw [hI.size]; exact h1
    obtain ⟨hg, hst⟩ := hsteps.get _ _ j o (by simpa using ho)
    rw [Nat.zero_add] at hst
    have hat : ∀ i, dataB md o i = true → dataAt md ops j i = true := fun i hi => by simp [dataAt, ho, hi]
    have hdj : dstOf ops j = o.dst := by simp [dstOf, ho]
    unfold wpOp
    simp only [ho]
    have hw : Region.wanted o (yielded ops a.tmps) = true := by simp [Region.wanted, hg]
    rw [if_pos hw]
    refine .inl ?_
    have hz1 : needsIn md ops 9 z j = true → listed.getD z false = false := by
      intro hz
      cases hl : listed.getD z false with
      | false => rfl
      | true =>
        have := needsIn_listed hI.closed 9 z j (fun i hi => hI.closed z i hl hi) hz
        rw [this] at h2; cases h2
    refine OpDoes.wp (hst vals a.eval c w (listed.getD z false) hz1 (fun hz => by rw [← hz]; exact h2) (fun hz => hneed z (by simpa [needsAt, ho] using hz)) (by have := unlisted_set hI.size h1 h2; have := hI.cnt; omega) hI.inv (fun i hi => hI.res i (hneed i (needs_of_data hi)) (.inr ⟨j, h2, hat i hi⟩)) (fun i s hi hs hlt => ?_) (fun s hs => ?_) (fun _ => rfl) (fun _ => rfl) (fun _ => rfl)) (fun v w' hp => ?_)
    · rw [hI.act]
      simp only [Act.eval, puts, Array.getD_eq_getD_getElem?, Array.getElem?_mapIdx, which_some hd (hneed i (needs_of_data hi)) hs]
      simp [hlt]
    · rw [hI.act]
      have hn : whichOp ops listed s = none := which_none fun i hi => by
        have hil := dstOf_lt hi
        unfold safeB at hs
        simp only [List.all_eq_true, List.mem_range] at hs
        have := hs i hil
        simp only [hi, Bool.or_eq_true, beq_iff_eq, bne_self_eq_false, Bool.false_eq_true, or_false] at this
        rcases this with e | e
        · rw [e]; exact h2
        · cases hl : listed.getD i false with
          | false => rfl
          | true => rw [hI.closed i j hl e] at h2; exact absurd h2 (by decide)
      simp only [Act.eval, puts, Array.getD_eq_getD_getElem?, Array.getElem?_mapIdx, hn]
      cases a0.tmps[s]? <;> rfl
    · obtain ⟨hR, hInv, hkeep⟩ := hp
      have hInv' : Inv ((listed.setIfInBounds j true).getD z false) w' := by
        rw [getD_set _ _ _ hj']
        rcases Classical.em (z = j) with e | e
        · have e2 : (j == z) = true := by simp [e]
          rw [if_pos e]
          rw [e2, Bool.or_true] at hInv
          exact hInv
        · have e2 : (j == z) = false := by simpa using fun h => e h.symm
          rw [if_neg e]
          rw [e2, Bool.or_false] at hInv
          exact hInv
      refine ih _ _ (c + 1) _ (fun i => if i = j then v else vals i) ⟨by have := unlisted_set hI.size h1 h2; have := hI.cnt; omega, by simp [hI.size], ?_, hInv', ?_, ?_⟩ (by have := unlisted_set hI.size h1 h2; omega)
      · rw [hI.act, ← hdj]
        exact puts_put hd a0 vals hj' h2 v
      · intro k i hk hki
        rw [getD_set _ _ _ hj'] at hk ⊢
        rcases Classical.em (i = j) with e | e
        · rw [if_pos e]
        · rw [if_neg e]
          rcases Classical.em (k = j) with e' | e'
          · subst e'
            exact hneed i (by simpa [needsAt, ho] using hki)
          · rw [if_neg e'] at hk
            exact hI.closed k i hk hki
      · intro i hi hu'
        rw [getD_set _ _ _ hj'] at hi
        have hmask : ∀ i, (i = j ∨ listed.getD i false = true) → mask md ops i (fun i => if i = j then v else vals i) = mask md ops i vals := by
          intro i hi
          funext m
          unfold mask
          cases hdm : dataAt md ops i m with
          | false => rfl
          | true =>
            have hn := needsAt_of_data hdm
            have hmj : m ≠ j := by
              rintro rfl
              rcases hi with rfl | hi
              · have := hneed i (by simpa [needsAt, ho] using hn)
                rw [this] at h2; cases h2
              · have := hI.closed i m hi hn
                rw [this] at h2; cases h2
            simp [hmj]
        rcases Classical.em (i = j) with e | e
        · rw [hmask i (.inl e)]; subst e; simp only [if_true]; exact hR
        · rw [if_neg e] at hi
          rw [hmask i (.inr hi)]
          simp only [e, if_false]
          have hk : keepB md ops fin j i = true := by
            unfold keepB
            have hnj : needsIn md ops 9 i j = false := by
              cases hnn : needsIn md ops 9 i j with
              | false => rfl
              | true =>
                have := needsIn_listed hI.closed 9 i j (fun q hq => hI.closed i q hi hq) hnn
                rw [this] at h2; cases h2
            rw [hnj]
            simp only [Bool.not_false, Bool.true_and]
            rcases hu' with hf | ⟨k, hk, hki⟩
            · rw [hf]; rfl
            · rw [getD_set _ _ _ hj'] at hk
              rcases Classical.em (k = j) with e' | e'
              · rw [if_pos e'] at hk; cases hk
              · have hkl : k < ops.size := by
                  unfold dataAt at hki
                  rcases Nat.lt_or_ge k ops.size with h | h
                  · exact h
                  · rw [Array.getElem?_eq_none h] at hki; cases hki
                simp only [Bool.or_eq_true, List.any_eq_true, List.mem_range, Bool.and_eq_true]
                have hnk : needsIn md ops 9 j k = false := by
                  cases hnn : needsIn md ops 9 j k with
                  | false => rfl
                  | true =>
                    have := needsIn_listed hI.closed 9 j k (fun i hi => hneed i (by simpa [needsAt, ho] using hi)) hnn
                    rw [if_neg e', this] at hk
                    exact absurd hk (by decide)
                exact .inr ⟨k, hkl, ⟨by simpa using e', by simp [hnk]⟩, hki⟩
          refine hkeep i _ _ e hk (hI.res i hi ?_)
          rcases hu' with hf | ⟨k, hk2, hki⟩
          · exact .inl hf
          · rw [getD_set _ _ _ hj'] at hk2
            rcases Classical.em (k = j) with e' | e'
            · rw [if_pos e'] at hk2; cases hk2
            · rw [if_neg e'] at hk2
              exact .inr ⟨k, hk2, hki⟩
end
def backB (md : Region.Mode) (ops : Array Oper) : Bool := (List.range ops.size).all fun k => (List.range ops.size).all fun i => !needsAt md ops k i || decide (i < k)
def insideB (ops : Array Oper) : Bool := (List.range ops.size).all fun k => ((ops[k]?).map fun o => o.after.all fun e => decide (e.on < ops.size)).getD true
theorem all_listed {md : Region.Mode} {ops : Array Oper} {listed : Array Bool} (hb : backB md ops = true) (hin : insideB ops = true) (hs : listed.size = ops.size) (hr : Region.ready md ops listed = []) : ∀ j, j < ops.size → listed.getD j false = true := by
  intro j
  induction j using Nat.strongRecOn with
  | _ j ih =>
    intro hj
    cases hl : listed.getD j false with
    | true => rfl
    | false =>
      exfalso
      have hmem : j ∈ Region.ready md ops listed := by
        unfold Region.ready
        simp only [List.mem_filter, List.mem_range, Bool.and_eq_true]
        refine ⟨hj, ?_, ?_⟩
        · have hj' : j < listed.size := by omega
          simpa [Array.getD_eq_getD_getElem?, hj'] using hl
        · obtain ⟨o, ho⟩ : ∃ o, ops[j]? = some o := ⟨_, Array.getElem?_eq_getElem hj⟩
          rw [ho]
          simp only [Option.map_some, Option.getD_some]
          refine Array.all_eq_true'.2 fun e he => ?_
          cases hbd : Region.binds md e with
          | false => rfl
          | true =>
            have hne : needsAt md ops j e.on = true := by
              simp only [needsAt, ho, Option.map_some, Option.getD_some, needsB]
              exact Array.any_eq_true'.2 ⟨e, he, by simp [hbd]⟩
            have hlt : e.on < ops.size := by
              unfold insideB at hin
              simp only [List.all_eq_true, List.mem_range] at hin
              have := hin j hj
              rw [ho] at this
              simp only [Option.map_some, Option.getD_some] at this
              exact of_decide_eq_true (Array.all_eq_true'.1 this e he)
            have hlt2 : e.on < j := by
              unfold backB at hb
              simp only [List.all_eq_true, List.mem_range] at hb
              have := hb j hj e.on hlt
              simpa [hne] using this
            simpa using ih e.on hlt2 hlt
      rw [hr] at hmem
      cases hmem
/-- A region that draws its order, by what each operation hands to those that wait for it. -/
theorem wp_region_rely {P : Program} {id : Nat} {Q : Exit → Act → World → Prop} {a : Act} {w : World} {l : List Oper} (R : Nat → Value → (Nat → Value) → Nat → World → Prop) (z : Nat) (Inv : Bool → World → Prop) (fin : List Nat)
    (hm : P.follows .mixedOrders = true) (hd : distinctB l.toArray = true) (hback : backB .any l.toArray = true) (hin : insideB l.toArray = true)
    (hInv : Inv false w.drew) (hsteps : StepsFromZ P .any l.toArray a R z Inv fin l 0)
    (hQ : ∀ (vals : Nat → Value) (c : Nat) (w' : World), c ≤ l.length → (∃ b, Inv b w') → (∀ i, fin.contains i = true → i < l.length → R i (vals i) (mask .any l.toArray i vals) c w') → Q .normal (puts l.toArray a (Array.replicate l.length true) vals) w') : (Code.region id l.toArray true).wp P Q a w := by
  refine wp_region_any hm ?_
  refine wpAny_rely (R := R) (z := z) (Inv := Inv) (fin := fin) (a0 := a) hd hsteps (fun listed a' c w' vals hI hr => ?_) _ _ _ 0 _ (fun _ => undef) ⟨?_, by simp, (puts_none _ _ _ _).symm, by rw [show (Array.replicate l.toArray.size false).getD z false = false by simp only [Array.getD_eq_getD_getElem?, Array.getElem?_replicate]; split <;> rfl]; exact hInv, ?_, ?_⟩ ?_
  · have hall : ∀ j, j < l.length → listed.getD j false = true := fun j hj => all_listed hback hin hI.size hr j (by simpa using hj)
    have he : listed = Array.replicate l.length true := by
      have hs := hI.size
      simp at hs
      refine Array.ext (by simp [hs]) fun i h1 h2 => ?_
      have := hall i (by omega)
      simpa [Array.getD_eq_getD_getElem?, h1] using this
    rw [hI.act, he]
    exact hQ vals c w' (by have := hI.cnt; simp at this; omega) ⟨_, hI.inv⟩ fun i hi hl => hI.res i (hall i hl) (.inl hi)
  · rw [Nat.zero_add]; unfold unlisted
    exact Nat.le_trans (List.length_filter_le _ _) (by simp)
  · intro k i hk
    exfalso
    revert hk
    simp only [Array.getD_eq_getD_getElem?, Array.getElem?_replicate]
    split <;> intro h <;> cases h
  · intro i hi
    exfalso
    revert hi
    simp only [Array.getD_eq_getD_getElem?, Array.getElem?_replicate]
    split <;> intro h <;> cases h
  · unfold unlisted
    exact Nat.le_trans (List.length_filter_le _ _) (by simp)
theorem mask_eq {md : Region.Mode} {ops : Array Oper} {k i : Nat} {vals : Nat → Value} (h : dataAt md ops k i = true) : mask md ops k vals i = vals i := if_pos h
theorem Q_congr {Q : Exit → Act → World → Prop} {a a' : Act} {w : World} (h : a = a') (hq : Q .normal a' w) : Q .normal a w := h ▸ hq
theorem does_value {P : Program} {o : Oper} {ev : Operand → Value} {w : World} {v : Value} {post : Value → World → Prop} (h : (execOp ev o).run P w = .ok (.value v) w) (hp : post v w) : OpDoes P o ev w post := by
  unfold OpDoes
  rw [h]
  exact hp
theorem does_value' {P : Program} {o : Oper} {ev : Operand → Value} {w w' : World} {v : Value} {post : Value → World → Prop} (h : (execOp ev o).run P w = .ok (.value v) w') (hp : post v w') : OpDoes P o ev w post := by
  unfold OpDoes
  rw [h]
  exact hp
theorem does_skip {P : Program} {o : Oper} {ev : Operand → Value} {w w' : World} {post : Value → World → Prop} (h : (execOp ev o).run P w = .ok .skip w') (hp : post undef w') : OpDoes P o ev w post := by
  unfold OpDoes
  rw [h]
  exact hp
theorem does_call {P : Program} {o : Oper} {ev : Operand → Value} {w : World} {f : FuncId} {args : Array Value} {post : Value → World → Prop} (h : (execOp ev o).run P w = .ok (.enter f args) w) (hp : Calls P f args w fun e w' => ∃ v, e = .returned v ∧ post v w') : OpDoes P o ev w post := by
  unfold OpDoes
  rw [h]
  exact hp
end Go.Proofs.S
namespace Go.Proofs.S
/-- All values put, one behind the other. -/
def putAll : List Oper → Act → (Nat → Value) → Nat → Act
  | [], a, _, _ => a
  | o :: l, a, vals, k => putAll l (a.put o.dst (vals k)) vals (k + 1)
def upTo (n k : Nat) : Array Bool := (Array.range n).map fun i => decide (i < k)
theorem upTo_get (n k i : Nat) : (upTo n k).getD i false = decide (i < n ∧ i < k) := by
  unfold upTo
  simp only [Array.getD_eq_getD_getElem?, Array.getElem?_map, Array.getElem?_range]
  by_cases h : i < n
  · simp [h]
  · simp [h]
theorem upTo_succ {n k : Nat} (hk : k < n) : (upTo n k).setIfInBounds k true = upTo n (k + 1) := by
  refine Array.ext (by simp [upTo]) fun i h1 h2 => ?_
  have h2' : i < n := by simpa [upTo] using h2
  rcases Classical.em (k = i) with e | e
  · subst e
    simp [upTo]
  · rw [Array.getElem_setIfInBounds_ne (by simpa [upTo] using h2') e]
    simp only [upTo, Array.getElem_map, Array.getElem_range]
    congr 1
    apply propext
    omega
theorem puts_all {ops : Array Oper} (hd : distinctB ops = true) (a0 : Act) (vals : Nat → Value) : ∀ (l : List Oper) (k : Nat), k + l.length = ops.size → (∀ j, l[j]? = ops[k + j]?) →
    putAll l (puts ops a0 (upTo ops.size k) vals) vals k = puts ops a0 (upTo ops.size ops.size) vals := by
  intro l
  induction l with
  | nil => intro k hk _; simp at hk; simp [putAll, hk]
  | cons o l ih =>
    intro k hk hget
    have hk' : k < ops.size := by simp at hk; omega
    have ho : ops[k]? = some o := by simpa using (hget 0).symm
    have hdk : dstOf ops k = o.dst := by simp [dstOf, ho]
    simp only [putAll]
    rw [← hdk, puts_put hd a0 vals (by simpa [upTo] using hk') (by rw [upTo_get]; simp), upTo_succ hk']
    have hv : (fun i => if i = k then vals k else vals i) = vals := by funext i; split <;> simp_all
    rw [hv]
    exact ih (k + 1) (by simp at hk; omega) (fun j => by have := hget (j + 1); simpa [Nat.add_assoc, Nat.add_comm 1] using this)
/-- A region that draws its order, by what each operation hands to those that wait for it; the frame behind it written out. -/
theorem wp_region_relZ {P : Program} {id : Nat} {Q : Exit → Act → World → Prop} {a : Act} {w : World} {l : List Oper} (R : Nat → Value → (Nat → Value) → Nat → World → Prop) (z : Nat) (Inv : Bool → World → Prop) (fin : List Nat)
    (hm : P.follows .mixedOrders = true) (hd : distinctB l.toArray = true) (hback : backB .any l.toArray = true) (hin : insideB l.toArray = true)
    (hInv : Inv false w.drew) (hsteps : StepsFromZ P .any l.toArray a R z Inv fin l 0)
    (hQ : ∀ (vals : Nat → Value) (c : Nat) (w' : World), (∃ b, Inv b w') → (∀ i, fin.contains i = true → i < l.length → R i (vals i) (mask .any l.toArray i vals) c w') → Q .normal (putAll l a vals 0) w') : (Code.region id l.toArray true).wp P Q a w := by
  refine wp_region_rely R z Inv fin hm hd hback hin hInv hsteps fun vals c w' _ hI hR => ?_
  have h1 : Array.replicate l.length true = upTo l.toArray.size l.toArray.size := by
    refine Array.ext (by simp [upTo]) fun i h1 h2 => ?_
    simp only [Array.getElem_replicate, upTo, Array.getElem_map, Array.getElem_range]
    simp at h1
    simp [h1]
  have h0 : puts l.toArray a (upTo l.toArray.size 0) vals = a := by
    have : upTo l.toArray.size 0 = Array.replicate l.toArray.size false := by
      refine Array.ext (by simp [upTo]) fun i h1 h2 => ?_
      simp [upTo]
    rw [this]
    exact puts_none _ _ _ _
  have h2 := puts_all hd a vals l 0 (by simp) (fun j => by simp)
  rw [h0] at h2
  rw [h1, ← h2]
  exact hQ vals c w' hI hR
/-- A region that draws its order, by what each operation hands to those that wait for it; the frame behind it written out. -/
theorem wp_region_rel {P : Program} {id : Nat} {Q : Exit → Act → World → Prop} {a : Act} {w : World} {l : List Oper} (R : Nat → Value → (Nat → Value) → Nat → World → Prop) (Inv : World → Prop) (fin : List Nat)
    (hm : P.follows .mixedOrders = true) (hd : distinctB l.toArray = true) (hback : backB .any l.toArray = true) (hin : insideB l.toArray = true)
    (hInv : Inv w.drew) (hsteps : StepsFrom P .any l.toArray a R Inv fin l 0)
    (hQ : ∀ (vals : Nat → Value) (c : Nat) (w' : World), Inv w' → (∀ i, fin.contains i = true → i < l.length → R i (vals i) (mask .any l.toArray i vals) c w') → Q .normal (putAll l a vals 0) w') : (Code.region id l.toArray true).wp P Q a w :=
  wp_region_relZ R 0 (fun _ => Inv) fin hm hd hback hin hInv (StepsFrom.z _ _ hsteps) (fun vals c w' hI hR => by obtain ⟨_, hI⟩ := hI; exact hQ vals c w' hI hR)
theorem keep_fin {md : Region.Mode} {ops : Array Oper} {fin : List Nat} {k i : Nat} (hk : keepB md ops fin k i = true) (h : ((List.range ops.size).any fun m => m != k && !needsIn md ops 9 k m && dataAt md ops m i) = false) : fin.contains i = true := by
  unfold keepB at hk
  rw [h, Bool.and_eq_true, Bool.or_false] at hk
  exact hk.2
/-- Which results an operation must leave as they are: a list, by the kernel. -/
theorem keep_in {md : Region.Mode} {ops : Array Oper} {fin : List Nat} {k : Nat} (L : List Nat) (hin : insideB ops = true) (hf : (fin.all fun i => decide (i < ops.size)) = true) (h : ((List.range ops.size).all fun i => !keepB md ops fin k i || L.contains i) = true) {i : Nat} (hk : keepB md ops fin k i = true) : i ∈ L := by
  have hlt : i < ops.size := by
    have hk' := hk
    unfold keepB at hk'
    simp only [Bool.and_eq_true, Bool.or_eq_true, List.any_eq_true, List.mem_range] at hk'
    rcases hk'.2 with h1 | ⟨m, hm, h2⟩
    · exact of_decide_eq_true (List.all_eq_true.1 hf i (by simpa using h1))
    · have h3 : dataAt md ops m i = true := h2.2
      have h4 := needsAt_of_data h3
      obtain ⟨o, ho⟩ : ∃ o, ops[m]? = some o := ⟨_, Array.getElem?_eq_getElem hm⟩
      unfold needsAt at h4
      rw [ho] at h4
      simp only [Option.map_some, Option.getD_some, needsB] at h4
      obtain ⟨e, he, hb⟩ := Array.any_eq_true'.1 h4
      simp only [Bool.and_eq_true, beq_iff_eq] at hb
      unfold insideB at hin
      simp only [List.all_eq_true, List.mem_range] at hin
      have := hin m hm
      rw [ho] at this
      simp only [Option.map_some, Option.getD_some] at this
      have := of_decide_eq_true (Array.all_eq_true'.1 this e he)
      omega
  have := List.all_eq_true.1 h i (List.mem_range.2 hlt)
  rw [hk] at this
  simpa using this
/-- A step whose value is fixed and that leaves the world alone. -/
theorem Step.fixed {P : Program} {o : Oper} {ev : Operand → Value} {w : World} {x : Value} {post : Value → World → Prop} (h : OpDoes P o ev w fun v w' => v = x ∧ w' = w) (hp : post x w) : OpDoes P o ev w post :=
  h.mono fun v w' ⟨h1, h2⟩ => by rw [h1, h2]; exact hp
end Go.Proofs.S
