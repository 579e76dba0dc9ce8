import Derived.Test.Qxb6002415aFlow
import Derived.WalkKit
import Derived.Test.Qxb6002415aBase
namespace Go.Proofs.Qxb6002415a
open Go.RowKit
/-- the act stands on the frame 'base', but for the slots d0 .. d0 + n - 1. -/
def FrB (base : Array Value) (d0 n : Nat) (a : Act) : Prop := a.defers = [] ∧ a.tmps.size = base.size ∧ ∀ k, (k < d0 ∨ d0 + n ≤ k) → a.tmps[k]? = base[k]?
theorem FrB.put {base : Array Value} {d0 n : Nat} {a : Act} {i : Nat} {v : Value} (h : FrB base d0 n a) (hi : i < n) : FrB base d0 n (a.put (some (d0 + i)) v) := by
  refine ⟨h.1, by simpa [Act.put] using h.2.1, fun k hk => ?_⟩
  simp only [Act.put]
  rw [Array.getElem?_setIfInBounds_ne (by omega)]
  exact h.2.2 k hk
theorem FrB.eval {base : Array Value} {d0 n : Nat} {a : Act} (h : FrB base d0 n a) {k : Nat} {v : Value} (hk : k < d0 ∨ d0 + n ≤ k) (hv : base[k]? = some v) : a.eval (.tmp k) = v := by
  have := h.2.2 k hk
  rw [hv] at this
  simp [Act.eval, this]
theorem FrB.list {base : Array Value} {d0 n : Nat} {a : Act} (h : FrB base d0 n a) (hn : d0 + n ≤ base.size) :
    ∃ vs : List Value, vs.length = n ∧ a = ⟨(base.toList.take d0 ++ (vs ++ base.toList.drop (d0 + n))).toArray, []⟩ ∧ ∀ i v, vs[i]? = some v → a.eval (.tmp (d0 + i)) = v := by
  obtain ⟨h1, h2, h3⟩ := h
  obtain ⟨tm, df⟩ := a
  simp only at h1 h2 h3
  subst h1
  refine ⟨(tm.toList.drop d0).take n, by simp; omega, ?_, ?_⟩
  · congr 1
    apply Array.ext_getElem?
    intro k
    simp only [List.getElem?_toArray, List.getElem?_append, List.length_take, List.length_drop, Array.length_toList, List.getElem?_take, List.getElem?_drop, Array.getElem?_toList]
    by_cases k1 : k < d0
    · have : k < min d0 base.size := by omega
      simp only [this, k1, if_true]
      exact h3 k (.inl k1)
    · have e1 : ¬ k < min d0 base.size := by omega
      rw [if_neg e1]
      have e0 : min d0 base.size = d0 := by omega
      rw [e0]
      by_cases k2 : k - d0 < n
      · have e2 : k - d0 < min n (tm.size - d0) := by omega
        rw [if_pos e2, if_pos k2]
        congr 1; omega
      · have e2 : ¬ k - d0 < min n (tm.size - d0) := by omega
        rw [if_neg e2]
        have e3 : d0 + n + (k - d0 - min n (tm.size - d0)) = k := by omega
        rw [e3]
        exact h3 k (.inr (by omega))
  · intro i v hv
    simp only [List.getElem?_take, List.getElem?_drop, Array.getElem?_toList] at hv
    split at hv
    · simp [Act.eval, hv]
    · cases hv

def edgesOk (x : Array Oper) (m : Nat) (anc : Nat → Bool) : Bool :=
  ((List.range x.size).all fun i => match x[i]? with
    | some (oi : Oper) => oi.guard.isNone && oi.after.all (fun (e : Edge) => decide (e.on < i))
    | none => true) &&
  ((List.range (x.size - 1)).all fun j => match x.back? with
    | some o => Oper.waits .any o j || (List.range (x.size - 1)).any fun i => decide (j < i) && match x[i]? with
      | some oi => Oper.waits .any oi j
      | none => false
    | none => false) &&
  ((List.range x.size).all fun j => !anc j || (List.range (x.size - 1)).any fun i => decide (j < i) && (i == m || anc i) && match x[i]? with
    | some oi => Oper.waits .any oi j
    | none => false)
section
variable {P : Program} {Q : Exit → Act → World → Prop}
theorem edges_of {ops : Array Oper} {o : Oper} {m : Nat} {anc : Nat → Bool} (h : edgesOk (ops.push o) m anc = true) (ha : ∀ j, anc j = true → j < ops.size) :
    Edges .any ops m anc ∧ o.guard = none ∧ (∀ e ∈ o.after, e.on < ops.size) ∧ LastOf .any ops o := by
  unfold edgesOk at h
  simp only [Bool.and_eq_true, List.all_eq_true, List.mem_range, Array.size_push, Nat.add_sub_cancel] at h
  obtain ⟨⟨h1, h2⟩, h3⟩ := h
  have g1 : ∀ (i : Nat) (oi : Oper), (ops.push o)[i]? = some oi → oi.guard = none ∧ ∀ e ∈ oi.after, e.on < i := fun i (oi : Oper) hi => by
    have hl : i < ops.size + 1 := by simpa using (Array.getElem?_eq_some_iff.1 hi).1
    have := h1 i hl
    rw [hi] at this
    simp only [Bool.and_eq_true, Option.isNone_iff_eq_none, Array.all_eq_true'] at this
    exact ⟨this.1, fun e he => by simpa using this.2 e he⟩
  refine ⟨⟨fun j oj hj => (g1 j oj (push_get hj)).2, fun j oj hj => (g1 j oj (push_get hj)).1, fun j hj => ?_⟩, (g1 _ o push_last).1, (g1 _ o push_last).2, fun i hi => ?_⟩
  · have hj2 := ha j hj
    have := h3 j (by omega)
    rw [hj] at this
    simp only [Bool.not_true, Bool.false_or, List.any_eq_true, List.mem_range, Bool.and_eq_true, decide_eq_true_eq, Bool.or_eq_true, beq_iff_eq] at this
    obtain ⟨i, hi, ⟨hji, him⟩, hw⟩ := this
    rw [push_old hi, Array.getElem?_eq_getElem hi] at hw
    exact ⟨i, ops[i], him, hji, hi, Array.getElem?_eq_getElem hi, hw⟩
  · have := h2 i hi
    rw [Array.back?_push] at this
    simp only [Bool.or_eq_true, List.any_eq_true, List.mem_range, Bool.and_eq_true, decide_eq_true_eq] at this
    rcases this with h | ⟨j, hj, hij, h⟩
    · exact .inl h
    · rw [push_old hj, Array.getElem?_eq_getElem hj] at h
      exact .inr ⟨j, ops[j], hij, Array.getElem?_eq_getElem hj, h⟩

/-- A DRAWN REGION 'x', WHOSE LAST OPERATION o WAITS FOR ALL OTHERS, AND IN WHICH ONE OPERATION m ALONE TURNS MEMORY THAT LAY THERE BEFORE. -/
theorem region_flow {id m d0 : Nat} {x : Array Oper} {o : Oper} {anc : Nat → Bool} (hf : P.follows .mixedOrders = true) (hl : x.back? = some o) (hok : edgesOk x m anc = true) (ha : ∀ j, anc j = true → j < x.size - 1) (hm : m < x.size - 1)
    {base : Array Value} (hbase : d0 + (x.size - 1) ≤ base.size) {G : World → Prop} {Φ : Nat → Value → World → Prop}
    (hG : ∀ w w', Below w.heap.size w w' → G w → G w') (hΦ : ∀ i, i ≠ m → ∀ v w w', Below w.heap.size w w' → Φ i v w → Φ i v w') (hfree : ∀ i v w w', anc i = false → i ≠ m → Φ i v w → Φ i v w')
    (hs : ∀ i oi, x[i]? = some oi → i < x.size - 1 →
      (anc i = true → i ≠ m → ∀ a w, FrB base d0 (x.size - 1) a → G w → (∀ j, Oper.waits .any oi j = true → Φ j (a.eval (.tmp (d0 + j))) w) →
        oi.wp P a w (fun a' w' => ∃ v, a' = a.put (some (d0 + i)) v ∧ Below w.heap.size w w' ∧ Φ i v w') (tailQ P o Q)) ∧
      (i = m → ∀ a w, FrB base d0 (x.size - 1) a → G w → (∀ j, Oper.waits .any oi j = true → Φ j (a.eval (.tmp (d0 + j))) w) →
        oi.wp P a w (fun a' w' => ∃ v, a' = a.put (some (d0 + i)) v ∧ Φ i v w') (tailQ P o Q)) ∧
      (anc i = false → i ≠ m → ∀ a w, FrB base d0 (x.size - 1) a → (∀ j, Oper.waits .any oi j = true → anc j = false → j ≠ m → Φ j (a.eval (.tmp (d0 + j))) w) →
        oi.wp P a w (fun a' w' => ∃ v, a' = a.put (some (d0 + i)) v ∧ w' = w ∧ Φ i v w') (tailQ P o Q)))
    (hend : ∀ a w, FrB base d0 (x.size - 1) a → Φ m (a.eval (.tmp (d0 + m))) w → (∀ i, i < x.size - 1 → anc i = false → i ≠ m → Φ i (a.eval (.tmp (d0 + i))) w) →
      o.wp P a w (fun a' w' => Q .normal a' w') Q)
    {w : World} (h2 : G w.drew) : Code.wp P (.region id x true) Q ⟨base, []⟩ w := by
  obtain ⟨ops, rfl⟩ := Array.back?_eq_some_iff.1 hl
  simp only [Array.size_push, Nat.add_sub_cancel] at *
  obtain ⟨E, g1, g2, g3⟩ := edges_of hok ha
  refine wp_region_any hf ?_
  have hrep : Array.replicate (ops.push o).size false = (Array.replicate ops.size false).push false := by
    simp [Array.replicate_succ]
  rw [hrep]
  simp only [Array.size_push]
  refine wpAny_tail E.back E.plain g1 g2 g3 ops.size _ _ _ (by simp) Closed.none ?_
  refine wpAny_flow (d0 := d0) (Fr := FrB base d0 ops.size) (G := G) (Φ := Φ) (R := fun w w' => Below w.heap.size w w') E (fun a h => by rw [h.2.1]; exact hbase) (fun a i v h hi => h.put hi) hG hΦ hfree
    (fun i oi hi h3 h4 => (hs i oi (push_get hi) (Array.getElem?_eq_some_iff.1 hi).1).1 h3 h4)
    (fun om hi => (hs m om (push_get hi) hm).2.1 rfl)
    (fun i oi hi h3 h4 => (hs i oi (push_get hi) (Array.getElem?_eq_some_iff.1 hi).1).2.2 h3 h4)
    (fun w => Below.refl _ _) hm (fun a w h3 h4 h5 => hend a w h3 h4 h5) ⟨rfl, rfl, fun _ _ => rfl⟩ h2
end
end Go.Proofs.Qxb6002415a
