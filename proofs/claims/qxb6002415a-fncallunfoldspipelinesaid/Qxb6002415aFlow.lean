/-
  A REGION THAT DRAWS ITS ORDER AND WHOSE LAST OPERATION WAITS FOR ALL OTHERS ('x.f[i] = append(x.f[i], v)': the store): the others first, in whatever order, then the last one. Over whatever program.
-/
import Derived.Orders
import Derived.Tactics
namespace Go.Proofs.Qxb6002415a

/-- the post of the region without its last operation o. -/
def tailQ (P : Program) (o : Oper) (Q : Exit → Act → World → Prop) : Exit → Act → World → Prop
  | .normal, a, w => o.wp P a w (fun a' w' => Q .normal a' w') Q
  | e, a, w => Q e a w

theorem letsOut_tail {P : Program} {o : Oper} {Q : Exit → Act → World → Prop} (h : LetsOut (tailQ P o Q)) : LetsOut Q := by
  obtain ⟨a, w, h⟩ := h
  exact ⟨a, w, h⟩
theorem wp_tail {P : Program} {o oi : Oper} {Q : Exit → Act → World → Prop} {K K' : Act → World → Prop} {a : Act} {w : World} (hK : ∀ a w, K a w → K' a w) (h : oi.wp P a w K (tailQ P o Q)) : oi.wp P a w K' Q := by
  unfold Oper.wp at *
  generalize (execOp a.eval oi).run P w = r at *
  cases r with
  | ok n w' =>
    cases n <;> simp only [Oper.upon] at h ⊢ <;>
      first
        | exact hK _ _ h
        | exact Calls.mono h (fun e w'' he => by cases e <;> first | exact hK _ _ he | exact letsOut_tail he | exact he)
        | exact Rows.mono h (fun _ _ he => hK _ _ he)
  | halt x w' => cases x <;> simp only [Oper.upon] at h ⊢ <;> exact h

section
variable {P : Program} {ops : Array Oper} {o : Oper} {Q : Exit → Act → World → Prop} {md : Region.Mode}

theorem push_get {j : Nat} {oj : Oper} (h : ops[j]? = some oj) : (ops.push o)[j]? = some oj := by
  have hj : j < ops.size := (Array.getElem?_eq_some_iff.1 h).1
  rw [Array.getElem?_push, if_neg (by omega)]; exact h
theorem push_last : (ops.push o)[ops.size]? = some o := by simp
theorem push_old {j : Nat} (hj : j < ops.size) : (ops.push o)[j]? = ops[j]? := by
  rw [Array.getElem?_push, if_neg (by omega)]

/-- the edges lead back. -/
def Back (ops : Array Oper) : Prop := ∀ (j : Nat) (oj : Oper), ops[j]? = some oj → ∀ e ∈ oj.after, e.on < j
def Plain (ops : Array Oper) : Prop := ∀ (j : Nat) (oj : Oper), ops[j]? = some oj → oj.guard = none

theorem all_listed (hb : Back ops) {listed : Array Bool} (hs : listed.size = ops.size) (hr : Region.ready md ops listed = []) : ∀ i, i < ops.size → listed.getD i false = true := by
  intro i
  induction i using Nat.strongRecOn with
  | _ i ih =>
    intro hi
    cases h : listed.getD i false
    · exfalso
      have hm : i ∈ Region.ready md ops listed := by
        rw [mem_ready]
        refine ⟨?_, ops[i], Array.getElem?_eq_getElem hi, fun e he _ => ih _ (hb i _ (Array.getElem?_eq_getElem hi) e he) (Nat.lt_trans (hb i _ (Array.getElem?_eq_getElem hi) e he) hi)⟩
        have hi' : i < listed.size := by omega
        simp [hi'] at h ⊢
        exact h
      rw [hr] at hm
      cases hm
    · rfl
theorem getD_push {listed : Array Bool} {i : Nat} (d : Bool) (hi : i < listed.size) : (listed.push false).getD i d = listed.getD i d := by
  simp [Array.getElem?_push, Nat.ne_of_lt hi]
theorem ready_push (hb : Back ops) {listed : Array Bool} (hs : listed.size = ops.size) {i : Nat} (hi : i < ops.size) : i ∈ Region.ready md (ops.push o) (listed.push false) ↔ i ∈ Region.ready md ops listed := by
  rw [mem_ready, mem_ready, getD_push true (by omega), push_old hi]
  constructor
  · rintro ⟨h1, oi, h2, h3⟩
    refine ⟨h1, oi, h2, fun e he hbd => ?_⟩
    have h4 := h3 e he hbd
    have := hb i oi h2 e he
    rwa [getD_push false (by omega)] at h4
  · rintro ⟨h1, oi, h2, h3⟩
    refine ⟨h1, oi, h2, fun e he hbd => ?_⟩
    have := hb i oi h2 e he
    rw [getD_push false (by omega)]
    exact h3 e he hbd
theorem ready_last (ho : ∀ e ∈ o.after, e.on < ops.size) {listed : Array Bool} (hs : listed.size = ops.size) (hall : ∀ i, i < ops.size → listed.getD i false = true) : ops.size ∈ Region.ready md (ops.push o) (listed.push false) := by
  rw [mem_ready]
  refine ⟨by simp [← hs], o, push_last, fun e he _ => ?_⟩
  have := ho e he
  rw [getD_push false (by omega)]
  exact hall _ this
theorem set_push {listed : Array Bool} {i : Nat} (hi : i < listed.size) : (listed.push false).setIfInBounds i true = (listed.setIfInBounds i true).push false := by
  apply Array.ext_getElem?
  intro j
  rw [Array.getElem?_setIfInBounds, Array.getElem?_push, Array.getElem?_push, Array.getElem?_setIfInBounds]
  by_cases hij : i = j
  · subst hij
    have : ¬ i = listed.size := by omega
    simp [hi, this]
    omega
  · simp [hij]
theorem set_last {listed : Array Bool} : (listed.push false).setIfInBounds listed.size true = listed.push true := by
  apply Array.ext_getElem?
  intro j
  rw [Array.getElem?_setIfInBounds, Array.getElem?_push, Array.getElem?_push]
  by_cases hij : listed.size = j
  · subst hij; simp
  · have : ¬ j = listed.size := fun e => hij e.symm
    simp [hij, this]
theorem ready_none {listed : Array Bool} (hs : listed.size = ops.size) (hall : ∀ i, i < ops.size → listed.getD i false = true) : Region.ready md (ops.push o) (listed.push true) = [] := by
  apply List.eq_nil_iff_forall_not_mem.2
  intro i hi
  obtain ⟨h1, oi, h2, _⟩ := mem_ready.1 hi
  have hlt : i < ops.size + 1 := by
    have := (Array.getElem?_eq_some_iff.1 h2).1
    simpa using this
  by_cases hl : i = ops.size
  · subst hl
    rw [← hs] at h1
    simp at h1
  · have h3 := hall i (by omega)
    have hi' : i < listed.size := by omega
    simp [Array.getElem?_push, hi', Nat.ne_of_lt hi'] at h1 h3
    rw [h1] at h3
    cases h3
theorem wpOp_of_plain {i : Nat} {oi : Oper} (hi : ops[i]? = some oi) (hg : oi.guard = none) {K : Act → World → Prop} {a : Act} {w : World} : wpOp P ops Q i K a w ↔ (oi.wp P a w K Q ∨ (oi.asks P a w ∧ LetsOut Q)) := by
  unfold wpOp
  rw [hi]
  have : Region.wanted oi (yielded ops a.tmps) = true := by simp [Region.wanted, hg]
  simp [this]

/-- op i's operation waits for j. -/
def Oper.waits (md : Region.Mode) (o : Oper) (j : Nat) : Bool := o.after.any fun e => e.on == j && Region.binds md e
theorem Oper.waits_iff {o : Oper} {j : Nat} : Oper.waits md o j = true ↔ ∃ e ∈ o.after, e.on = j ∧ Region.binds md e = true := by
  unfold Oper.waits
  rw [Array.any_eq_true']
  simp only [Bool.and_eq_true, beq_iff_eq]
theorem getD_set {listed : Array Bool} {i j : Nat} (hi : i < listed.size) : (listed.setIfInBounds i true).getD j false = if i = j then true else listed.getD j false := by
  simp only [Array.getD_eq_getD_getElem?, Array.getElem?_setIfInBounds]
  by_cases e : i = j
  · rw [if_pos e, if_pos e, if_pos hi]; rfl
  · rw [if_neg e, if_neg e]

/-- whatever is listed, what it waits for is listed. -/
def Closed (md : Region.Mode) (ops : Array Oper) (listed : Array Bool) : Prop := ∀ (i : Nat) (oi : Oper) (j : Nat), ops[i]? = some oi → listed.getD i false = true → Oper.waits md oi j = true → listed.getD j false = true
theorem Closed.set {listed : Array Bool} (h : Closed md ops listed) {i : Nat} {oi : Oper} (hi : ops[i]? = some oi) (hl : i < listed.size) (hr : ∀ e ∈ oi.after, Region.binds md e = true → listed.getD e.on false = true) : Closed md ops (listed.setIfInBounds i true) := by
  intro i' oi' j ho hll hw
  rw [getD_set hl] at hll ⊢
  by_cases e1 : i = j
  · rw [if_pos e1]
  · rw [if_neg e1]
    by_cases e2 : i = i'
    · subst e2
      rw [hi] at ho
      cases ho
      obtain ⟨e, he, rfl, hb⟩ := Oper.waits_iff.1 hw
      exact hr e he hb
    · rw [if_neg e2] at hll
      exact h i' oi' j ho hll hw
theorem Closed.none {n : Nat} : Closed md ops (Array.replicate n false) := by
  intro i oi j _ h _
  simp only [Array.getD_eq_getD_getElem?, Array.getElem?_replicate] at h
  split at h <;> cases h
/-- the operation o waits for all of ops, in the end. -/
def LastOf (md : Region.Mode) (ops : Array Oper) (o : Oper) : Prop := ∀ j, j < ops.size → Oper.waits md o j = true ∨ ∃ i oi, j < i ∧ ops[i]? = some oi ∧ Oper.waits md oi j = true
theorem LastOf.all {listed : Array Bool} (h : LastOf md ops o) (hc : Closed md ops listed) (hr : ∀ e ∈ o.after, Region.binds md e = true → listed.getD e.on false = true) : ∀ j, j < ops.size → listed.getD j false = true := by
  have key : ∀ k j, j + k = ops.size → 0 < k → listed.getD j false = true := by
    intro k
    induction k using Nat.strongRecOn with
    | _ k ih =>
      intro j hj hk
      rcases h j (by omega) with h1 | ⟨i, oi, h1, h2, h3⟩
      · obtain ⟨e, he, rfl, hb⟩ := Oper.waits_iff.1 h1
        exact hr e he hb
      · have hi := (Array.getElem?_eq_some_iff.1 h2).1
        exact hc i oi j h2 (ih (ops.size - i) (by omega) i (by omega) (by omega)) h3
  exact fun j hj => key (ops.size - j) j (by omega) (by omega)
theorem wpAny_tail (hb : Back ops) (hp : Plain ops) (hg : o.guard = none) (ho : ∀ e ∈ o.after, e.on < ops.size) (hw : LastOf md ops o) :
    ∀ (fuel : Nat) (listed : Array Bool) (a : Act) (w : World), listed.size = ops.size → Closed md ops listed → wpAny P md ops (tailQ P o Q) fuel listed a w → wpAny P md (ops.push o) Q (fuel + 1) (listed.push false) a w := by
  have last : ∀ (fuel : Nat) (listed : Array Bool) (a : Act) (w : World), listed.size = ops.size → (∀ i, i < ops.size → listed.getD i false = true) → tailQ P o Q .normal a w →
      wpOp P (ops.push o) Q ops.size (wpAny P md (ops.push o) Q fuel ((listed.push false).setIfInBounds ops.size true)) a w := by
    intro fuel listed a w hs hall h
    rw [wpOp_of_plain push_last hg]
    left
    refine Oper.wp_mono (fun a' w' h' => ?_) h
    rw [← hs, set_last]
    cases fuel with
    | zero => exact ⟨ready_none hs hall, h'⟩
    | succ f => exact ⟨fun _ => h', by rw [ready_none hs hall]; simp⟩
  have who : ∀ (listed : Array Bool) (i : Nat), listed.size = ops.size → Closed md ops listed → i ∈ Region.ready md (ops.push o) (listed.push false) → i < ops.size ∨ (i = ops.size ∧ ∀ j, j < ops.size → listed.getD j false = true) := by
    intro listed i hs hcl hi
    obtain ⟨h1, oi, h2, h3⟩ := mem_ready.1 hi
    have hlt : i < ops.size + 1 := by
      have := (Array.getElem?_eq_some_iff.1 h2).1
      simpa using this
    by_cases hl : i = ops.size
    · right
      rw [hl, push_last] at h2
      cases h2
      refine ⟨hl, hw.all hcl fun e he hbd => ?_⟩
      have := h3 e he hbd
      rw [getD_push false (by have := ho e he; omega)] at this
      exact this
    · left; omega
  intro fuel
  induction fuel with
  | zero =>
    intro listed a w hs hcl h
    obtain ⟨h1, h2⟩ := h
    have hall := all_listed (md := md) hb hs h1
    refine ⟨fun h0 => ?_, fun i hi => ?_⟩
    · have := ready_last (md := md) (o := o) ho hs hall
      rw [h0] at this
      cases this
    · rcases who listed i hs hcl hi with hl | ⟨rfl, _⟩
      · have := (ready_push (o := o) hb hs hl).1 hi
        rw [h1] at this
        cases this
      · exact last 0 listed a w hs hall h2
  | succ fuel ih =>
    intro listed a w hs hcl h
    obtain ⟨h1, h2⟩ := h
    refine ⟨fun h0 => ?_, fun i hi => ?_⟩
    · exfalso
      by_cases hr : Region.ready md ops listed = []
      · have := ready_last (md := md) (o := o) ho hs (all_listed (md := md) hb hs hr)
        rw [h0] at this
        cases this
      · obtain ⟨i, hi⟩ := List.exists_mem_of_ne_nil _ hr
        have hlt : i < ops.size := by
          obtain ⟨_, oi, h3, _⟩ := mem_ready.1 hi
          exact (Array.getElem?_eq_some_iff.1 h3).1
        have := (ready_push (o := o) hb hs hlt).2 hi
        rw [h0] at this
        cases this
    · rcases who listed i hs hcl hi with hl | ⟨rfl, hall⟩
      · have hi' := (ready_push (o := o) hb hs hl).1 hi
        have h3 := h2 i hi'
        obtain ⟨_, oi, hoi, hrd⟩ := mem_ready.1 hi'
        rw [wpOp_of_plain hoi (hp i oi hoi)] at h3
        rw [wpOp_of_plain (push_get hoi) (hp i oi hoi)]
        rcases h3 with h3 | ⟨h3, h4⟩
        · left
          refine wp_tail (fun a' w' h' => ?_) h3
          rw [set_push (by omega)]
          exact ih _ a' w' (by simpa using hs) (hcl.set hoi (by omega) hrd) h'
        · exact .inr ⟨h3, letsOut_tail h4⟩
      · have hr : Region.ready md ops listed = [] := by
          apply List.eq_nil_iff_forall_not_mem.2
          intro j hj
          obtain ⟨h3, oj, h4, _⟩ := mem_ready.1 hj
          have hlt := (Array.getElem?_eq_some_iff.1 h4).1
          have h5 := hall j hlt
          have hj' : j < listed.size := by omega
          simp [hj'] at h3 h5
          rw [h3] at h5
          cases h5
        exact last _ listed a w hs hall (h1 hr)

/-! ### an order-free rule: whatever the order, each operation's value keeps its word -/
def leftOf (listed : Array Bool) : Nat := listed.count false
theorem leftOf_set {listed : Array Bool} {i : Nat} (h : listed.getD i true = false) : leftOf (listed.setIfInBounds i true) + 1 = leftOf listed := by
  have hi : i < listed.size := by
    apply Classical.byContradiction
    intro hn
    simp [Array.getD, hn] at h
  have he : listed[i] = false := by simpa [hi] using h
  unfold leftOf Array.setIfInBounds
  rw [dif_pos hi, Array.count_set hi]
  have hpos : 0 < listed.count false := Array.count_pos_iff.2 (by rw [← he]; exact Array.getElem_mem hi)
  simp [he]
  omega
theorem leftOf_zero {listed : Array Bool} (h : leftOf listed = 0) {i : Nat} (hi : i < listed.size) : listed.getD i false = true := by
  cases hx : listed[i] with
  | true => simp [hi, hx]
  | false =>
    have hpos : 0 < listed.count false := Array.count_pos_iff.2 (by rw [← hx]; exact Array.getElem_mem hi)
    unfold leftOf at h
    omega
theorem ready_all {listed : Array Bool} (hs : listed.size = ops.size) (hall : ∀ i, i < ops.size → listed.getD i false = true) : Region.ready md ops listed = [] := by
  apply List.eq_nil_iff_forall_not_mem.2
  intro j hj
  obtain ⟨h3, oj, h4, _⟩ := mem_ready.1 hj
  have hlt := (Array.getElem?_eq_some_iff.1 h4).1
  have h5 := hall j hlt
  have hj' : j < listed.size := by omega
  simp [hj'] at h3 h5
  rw [h3] at h5
  cases h5
theorem wpAny_inv (hb : Back ops) (hp : Plain ops) {I : Array Bool → Act → World → Prop}
    (hstep : ∀ (listed : Array Bool) (a : Act) (w : World) (i : Nat) (oi : Oper), listed.size = ops.size → I listed a w → ops[i]? = some oi → listed.getD i true = false →
      (∀ e ∈ oi.after, Region.binds md e = true → listed.getD e.on false = true) → oi.wp P a w (I (listed.setIfInBounds i true)) Q)
    (hend : ∀ (listed : Array Bool) (a : Act) (w : World), I listed a w → (∀ i, i < ops.size → listed.getD i false = true) → Q .normal a w) :
    ∀ (fuel : Nat) (listed : Array Bool) (a : Act) (w : World), listed.size = ops.size → leftOf listed ≤ fuel → I listed a w → wpAny P md ops Q fuel listed a w := by
  intro fuel
  induction fuel with
  | zero =>
    intro listed a w hs hl hI
    have hall : ∀ i, i < ops.size → listed.getD i false = true := fun i hi => leftOf_zero (by omega) (by omega)
    exact ⟨ready_all hs hall, hend listed a w hI hall⟩
  | succ fuel ih =>
    intro listed a w hs hl hI
    refine ⟨fun h0 => hend listed a w hI (all_listed hb hs h0), fun i hi => ?_⟩
    obtain ⟨h1, oi, h2, h3⟩ := mem_ready.1 hi
    rw [wpOp_of_plain h2 (hp i oi h2)]
    left
    refine Oper.wp_mono (fun a' w' h' => ?_) (hstep listed a w i oi hs hI h2 h1 h3)
    exact ih _ a' w' (by simpa using hs) (by have := leftOf_set h1; omega) h'
end

section
variable {P : Program} {ops : Array Oper} {Q : Exit → Act → World → Prop} {md : Region.Mode}
theorem put_same {a : Act} {d : Nat} {v : Value} (h : d < a.tmps.size) : (a.put (some d) v).eval (.tmp d) = v := by
  simp [Act.eval, Act.put, h]
theorem put_other {a : Act} {d e : Nat} {v : Value} (h : d ≠ e) : (a.put (some d) v).eval (.tmp e) = a.eval (.tmp e) :=
  Act.eval_put fun d' hd he => by cases hd; cases he; exact h rfl
/-- what the rule asks of the region's edges: m is the operation that writes; 'anc' are those that it waits for, in the end. -/
structure Edges (md : Region.Mode) (ops : Array Oper) (m : Nat) (anc : Nat → Bool) : Prop where
  back : Back ops
  plain : Plain ops
  cov : ∀ j, anc j = true → ∃ i oi, (i = m ∨ anc i = true) ∧ j < i ∧ i < ops.size ∧ ops[i]? = some oi ∧ Oper.waits md oi j = true

theorem wpAny_flow {m d0 : Nat} {anc : Nat → Bool} (E : Edges md ops m anc) {Fr : Act → Prop} {G : World → Prop} {Φ : Nat → Value → World → Prop} {R : World → World → Prop}
    (hsz : ∀ a, Fr a → d0 + ops.size ≤ a.tmps.size) (hFr : ∀ a i v, Fr a → i < ops.size → Fr (a.put (some (d0 + i)) v))
    (hG : ∀ w w', R w w' → G w → G w') (hΦ : ∀ i, i ≠ m → ∀ v w w', R w w' → Φ i v w → Φ i v w') (hfree : ∀ i v w w', anc i = false → i ≠ m → Φ i v w → Φ i v w')
    (hs1 : ∀ i oi, ops[i]? = some oi → anc i = true → i ≠ m → ∀ a w, Fr a → G w → (∀ j, Oper.waits md oi j = true → Φ j (a.eval (.tmp (d0 + j))) w) →
      oi.wp P a w (fun a' w' => ∃ v, a' = a.put (some (d0 + i)) v ∧ R w w' ∧ Φ i v w') Q)
    (hsm : ∀ om, ops[m]? = some om → ∀ a w, Fr a → G w → (∀ j, Oper.waits md om j = true → Φ j (a.eval (.tmp (d0 + j))) w) →
      om.wp P a w (fun a' w' => ∃ v, a' = a.put (some (d0 + m)) v ∧ Φ m v w') Q)
    (hs2 : ∀ i oi, ops[i]? = some oi → anc i = false → i ≠ m → ∀ a w, Fr a → (∀ j, Oper.waits md oi j = true → anc j = false → j ≠ m → Φ j (a.eval (.tmp (d0 + j))) w) →
      oi.wp P a w (fun a' w' => ∃ v, a' = a.put (some (d0 + i)) v ∧ w' = w ∧ Φ i v w') Q)
    (hR : ∀ w, R w w) (hm : m < ops.size)
    (hend : ∀ a w, Fr a → Φ m (a.eval (.tmp (d0 + m))) w → (∀ i, i < ops.size → anc i = false → i ≠ m → Φ i (a.eval (.tmp (d0 + i))) w) → Q .normal a w)
    {a : Act} {w : World} (h1 : Fr a) (h2 : G w) : wpAny P md ops Q ops.size (Array.replicate ops.size false) a w := by
  refine wpAny_inv (I := fun listed a w => Fr a ∧ listed.size = ops.size ∧ (∀ i oi j, ops[i]? = some oi → listed.getD i false = true → Oper.waits md oi j = true → listed.getD j false = true) ∧
    (listed.getD m false = false → G w ∧ ∀ i, listed.getD i false = true → Φ i (a.eval (.tmp (d0 + i))) w) ∧
    (listed.getD m false = true → (∀ i, anc i = true → listed.getD i false = true) ∧ Φ m (a.eval (.tmp (d0 + m))) w ∧ ∀ i, anc i = false → i ≠ m → listed.getD i false = true → Φ i (a.eval (.tmp (d0 + i))) w))
    E.back E.plain ?_ ?_ ops.size _ a w (by simp) (by simp [leftOf]) ?_
  · rintro listed a w i oi hs ⟨hfr, _, hcl, hA, hB⟩ hoi hni hdep
    have hi : i < ops.size := (Array.getElem?_eq_some_iff.1 hoi).1
    have hdep' : ∀ j, Oper.waits md oi j = true → listed.getD j false = true := fun j hj => by
      obtain ⟨e, he, rfl, hb⟩ := Oper.waits_iff.1 hj
      exact hdep e he hb
    have hcl' : ∀ i' oi' j, ops[i']? = some oi' → (listed.setIfInBounds i true).getD i' false = true → Oper.waits md oi' j = true → (listed.setIfInBounds i true).getD j false = true := by
      intro i' oi' j ho hl hw
      rw [getD_set (by omega)] at hl ⊢
      by_cases e1 : i = j
      · rw [if_pos e1]
      · rw [if_neg e1]
        by_cases e2 : i = i'
        · subst e2
          rw [hoi] at ho
          cases ho
          exact hdep' j hw
        · rw [if_neg e2] at hl
          exact hcl i' oi' j ho hl hw
    have hni' : listed.getD i false = false := by
      have : i < listed.size := by omega
      simp [this] at hni ⊢
      exact hni
    cases hlm : listed.getD m false
    · obtain ⟨hg, hall⟩ := hA hlm
      by_cases him : i = m
      · subst him
        refine Oper.wp_mono ?_ (hsm oi hoi a w hfr hg (fun j hj => hall j (hdep' j hj)))
        rintro a' w' ⟨v, rfl, hv⟩
        refine ⟨hFr a i v hfr hi, by simpa using hs, hcl', fun h => ?_, fun _ => ⟨?_, ?_, ?_⟩⟩
        · rw [getD_set (by omega), if_pos rfl] at h; cases h
        · have key : ∀ k j, j + k = ops.size → anc j = true → listed.getD j false = true := by
            intro k
            induction k using Nat.strongRecOn with
            | _ k ih =>
              intro j hj hj2
              obtain ⟨i', oi', h3, h4, h5, h6, h7⟩ := E.cov j hj2
              rcases h3 with rfl | h3
              · rw [hoi] at h6
                cases h6
                exact hdep' j h7
              · exact hcl i' oi' j h6 (ih (ops.size - i') (by omega) i' (by omega) h3) h7
          intro j hj
          rw [getD_set (by omega)]
          split
          · rfl
          · have hjl : j < ops.size := by
              obtain ⟨i', oi', h3, h4, h5, h6, h7⟩ := E.cov j hj
              omega
            exact key (ops.size - j) j (by omega) hj
        · rw [put_same (by have := hsz a hfr; omega)]; exact hv
        · intro j hj hjm hl
          rw [put_other (by omega)]
          rw [getD_set (by omega), if_neg (fun e => hjm e.symm)] at hl
          exact hfree j _ w w' hj hjm (hall j hl)
      · have hstep : oi.wp P a w (fun a' w' => ∃ v, a' = a.put (some (d0 + i)) v ∧ R w w' ∧ Φ i v w') Q := by
          cases ha : anc i
          · refine Oper.wp_mono ?_ (hs2 i oi hoi ha him a w hfr (fun j hj _ _ => hall j (hdep' j hj)))
            rintro a' w' ⟨v, rfl, rfl, hv⟩
            exact ⟨v, rfl, hR _, hv⟩
          · exact hs1 i oi hoi ha him a w hfr hg (fun j hj => hall j (hdep' j hj))
        refine Oper.wp_mono ?_ hstep
        rintro a' w' ⟨v, rfl, hr, hv⟩
        have hm' : (listed.setIfInBounds i true).getD m false = false := by
          rw [getD_set (by omega), if_neg him]; exact hlm
        refine ⟨hFr a i v hfr hi, by simpa using hs, hcl', fun _ => ⟨hG w w' hr hg, fun j hj => ?_⟩, fun h => by rw [hm'] at h; cases h⟩
        rw [getD_set (by omega)] at hj
        by_cases e : i = j
        · subst e
          rw [put_same (by have := hsz a hfr; omega)]; exact hv
        · rw [if_neg e] at hj
          rw [put_other (by omega)]
          exact hΦ j (fun e => by rw [e, hlm] at hj; cases hj) _ w w' hr (hall j hj)
    · obtain ⟨hanc, hφ, hrest⟩ := hB hlm
      have him : i ≠ m := fun e => by rw [e, hlm] at hni'; cases hni'
      have ha : anc i = false := by
        cases ha : anc i
        · rfl
        · have := hanc i ha
          rw [hni'] at this
          cases this
      refine Oper.wp_mono ?_ (hs2 i oi hoi ha him a w hfr (fun j hj h3 h4 => hrest j h3 h4 (hdep' j hj)))
      rintro a' w' ⟨v, rfl, rfl, hv⟩
      refine ⟨hFr a i v hfr hi, by simpa using hs, hcl', fun h => ?_, fun _ => ⟨fun j hj => ?_, ?_, ?_⟩⟩
      · rw [getD_set (by omega), if_neg him, hlm] at h; cases h
      · rw [getD_set (by omega)]
        split
        · rfl
        · exact hanc j hj
      · rw [put_other (by omega)]; exact hφ
      · intro j h3 h4 h5
        rw [getD_set (by omega)] at h5
        by_cases e : i = j
        · subst e
          rw [put_same (by have := hsz a hfr; omega)]; exact hv
        · rw [if_neg e] at h5
          rw [put_other (by omega)]
          exact hrest j h3 h4 h5
  · rintro listed a w ⟨hfr, hs, hcl, hA, hB⟩ hall
    obtain ⟨_, hφ, hrest⟩ := hB (hall m hm)
    exact hend a w hfr hφ (fun i hi h3 h4 => hrest i h3 h4 (hall i hi))
  · refine ⟨h1, by simp, fun i oi j _ h => ?_, fun _ => ⟨h2, fun i h => ?_⟩, fun h => ?_⟩
    all_goals
      simp only [Array.getD_eq_getD_getElem?, Array.getElem?_replicate] at h
      split at h <;> cases h
end
end Go.Proofs.Qxb6002415a
