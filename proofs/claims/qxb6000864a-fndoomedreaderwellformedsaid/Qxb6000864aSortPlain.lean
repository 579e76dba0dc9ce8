import Derived.Test.Qxb6000864aKv
namespace Go.Proofs.Qxb6000864a
/-! ### the plain side of the merge sort -/
def kvLe (x y : Int × Int) : Bool := !kvL y x
theorem kvLe_trans (a b c : Int × Int) (h1 : kvLe a b = true) (h2 : kvLe b c = true) : kvLe a c = true := by
  obtain ⟨a1, a2⟩ := a
  obtain ⟨b1, b2⟩ := b
  obtain ⟨c1, c2⟩ := c
  unfold kvLe kvL at *
  simp only at *
  split at h1 <;> split at h2 <;> split <;> simp at h1 h2 ⊢ <;> omega
theorem kvLe_total (a b : Int × Int) : (kvLe a b || kvLe b a) = true := by
  obtain ⟨a1, a2⟩ := a
  obtain ⟨b1, b2⟩ := b
  unfold kvLe kvL
  simp only
  by_cases e1 : b1 = a1
  · subst e1; simp; omega
  · have e2 : ¬ a1 = b1 := fun e => e1 e.symm
    simp [e1, e2]; omega
/-- the elements from a on, ahead of b. -/
def seg {α : Type} (xs : List α) (a b : Nat) : List α := (xs.drop a).take (b - a)
theorem seg_nil {α : Type} (xs : List α) {a b : Nat} (h : b ≤ a) : seg xs a b = [] := by
  unfold seg
  rw [Nat.sub_eq_zero_of_le h]
  simp
theorem seg_cons {α : Type} (xs : List α) {a b : Nat} (h : a < b) (ha : a < xs.length) : seg xs a b = xs[a] :: seg xs (a + 1) b := by
  unfold seg
  rw [List.drop_eq_getElem_cons ha]
  have : b - a = (b - (a + 1)) + 1 := by omega
  rw [this, List.take_succ_cons]
theorem seg_min {α : Type} (xs : List α) (a b : Nat) : seg xs a (min b xs.length) = seg xs a b := by
  unfold seg
  by_cases h : b ≤ xs.length
  · rw [Nat.min_eq_left h]
  · rw [Nat.min_eq_right (by omega), List.take_of_length_le (by simp), List.take_of_length_le (by simp; omega)]
theorem seg_snoc {α : Type} (xs : List α) {a b : Nat} (h : a ≤ b) (hb : b < xs.length) : seg xs a (b + 1) = seg xs a b ++ [xs[b]] := by
  unfold seg
  have h1 : b + 1 - a = (b - a) + 1 := by omega
  rw [h1, List.take_succ_eq_append_getElem (by simp; omega)]
  simp only [List.getElem_drop]
  congr 2
  congr 1
  omega
theorem seg_set {α : Type} (xs : List α) {a b k : Nat} {v : α} (h : b ≤ k) : seg (xs.set k v) a b = seg xs a b := by
  unfold seg
  apply List.ext_getElem?
  intro i
  simp only [List.getElem?_take, List.getElem?_drop]
  split
  · rw [List.getElem?_set_ne (by omega)]
  · rfl
theorem take_set {α : Type} (xs : List α) {a k : Nat} {v : α} (h : a ≤ k) : (xs.set k v).take a = xs.take a := by
  apply List.ext_getElem?
  intro i
  simp only [List.getElem?_take]
  split
  · rw [List.getElem?_set_ne (by omega)]
  · rfl
theorem take_seg {α : Type} (xs : List α) {a b : Nat} (h : a ≤ b) : xs.take b = xs.take a ++ seg xs a b := by
  unfold seg
  have : b = a + (b - a) := by omega
  rw [this, List.take_add]
  congr 2
  omega
/-- while two neighbours are merged: i and j have been read, k written. -/
structure MI (xs ys0 : List (Int × Int)) (lo mid hi i j k : Nat) (ys : List (Int × Int)) : Prop where
  len : ys.length = xs.length
  pre : ys.take lo = ys0.take lo
  sum : k + mid = i + j
  h1 : lo ≤ i
  h2 : i ≤ mid
  h3 : mid ≤ j
  h4 : j ≤ hi
  h5 : hi ≤ xs.length
  all : seg ys lo k ++ (seg xs i mid).merge (seg xs j hi) kvLe = (seg xs lo mid).merge (seg xs mid hi) kvLe
theorem MI.start {xs ys0 : List (Int × Int)} {lo mid hi : Nat} (hl : ys0.length = xs.length) (h1 : lo ≤ mid) (h2 : mid ≤ hi) (h3 : hi ≤ xs.length) : MI xs ys0 lo mid hi lo mid lo ys0 :=
  ⟨hl, rfl, by omega, Nat.le_refl _, h1, Nat.le_refl _, h2, h3, by rw [seg_nil _ (Nat.le_refl _)]; rfl⟩
theorem MI.left {xs ys0 ys : List (Int × Int)} {lo mid hi i j k : Nat} (h : MI xs ys0 lo mid hi i j k ys) (hi1 : i < mid) (hx : i < xs.length) (hc : j = hi ∨ ∃ hj : j < xs.length, kvL xs[j] xs[i] = false) : MI xs ys0 lo mid hi (i + 1) j (k + 1) (ys.set k xs[i]) := by
  obtain ⟨a1, a2, a3, a4, a5, a6, a7, a8, a9⟩ := h
  have hk : k < ys.length := by omega
  refine ⟨by simpa using a1, by rw [take_set _ (by omega)]; exact a2, by omega, by omega, by omega, a6, a7, a8, ?_⟩
  rw [← a9, seg_snoc _ (by omega) (by simpa using hk), seg_set _ (Nat.le_refl _)]
  have e : (ys.set k xs[i])[k]'(by simpa using hk) = xs[i] := by simp
  rw [e, List.append_assoc, List.singleton_append, seg_cons xs hi1 hx]
  congr 1
  rcases hc with rfl | ⟨hj, hc⟩
  · rw [seg_nil xs (Nat.le_refl j)]
    simp
  · by_cases hjh : j < hi
    · rw [seg_cons xs hjh hj, List.cons_merge_cons, if_pos (by simp [kvLe, hc])]
    · rw [seg_nil xs (a := j) (b := hi) (by omega)]
      simp
theorem MI.right {xs ys0 ys : List (Int × Int)} {lo mid hi i j k : Nat} (h : MI xs ys0 lo mid hi i j k ys) (hj1 : j < hi) (hx : j < xs.length) (hc : i = mid ∨ ∃ hi : i < xs.length, kvL xs[j] xs[i] = true) : MI xs ys0 lo mid hi i (j + 1) (k + 1) (ys.set k xs[j]) := by
  obtain ⟨a1, a2, a3, a4, a5, a6, a7, a8, a9⟩ := h
  have hk : k < ys.length := by omega
  refine ⟨by simpa using a1, by rw [take_set _ (by omega)]; exact a2, by omega, by omega, by omega, by omega, by omega, a8, ?_⟩
  rw [← a9, seg_snoc _ (by omega) (by simpa using hk), seg_set _ (Nat.le_refl _)]
  have e : (ys.set k xs[j])[k]'(by simpa using hk) = xs[j] := by simp
  rw [e, List.append_assoc, List.singleton_append, seg_cons xs hj1 hx]
  congr 1
  rcases hc with rfl | ⟨hi', hc⟩
  · rw [seg_nil xs (Nat.le_refl i)]
    simp
  · by_cases him : i < mid
    · rw [seg_cons xs him hi', List.cons_merge_cons, if_neg (by simp [kvLe, hc])]
    · rw [seg_nil xs (a := i) (b := mid) (by omega)]
      simp
def Srt (l : List (Int × Int)) : Prop := l.Pairwise fun a b => kvLe a b = true
/-- while one pass runs: blocks of 2 wd ahead of lo = c (2 wd) are done. -/
structure PI (xs : List (Int × Int)) (wd c : Nat) (ys : List (Int × Int)) : Prop where
  len : ys.length = xs.length
  perm : (ys.take (c * (2 * wd))).Perm (xs.take (c * (2 * wd)))
  srt : ∀ t, t < c → Srt (seg ys (t * (2 * wd)) ((t + 1) * (2 * wd)))
theorem PI.start {xs ys : List (Int × Int)} {wd : Nat} (hl : ys.length = xs.length) : PI xs wd 0 ys := ⟨hl, by simp, fun t h => absurd h (by omega)⟩
theorem PI.step {xs ys0 ys : List (Int × Int)} {wd c mid hi j k : Nat} (h : PI xs wd c ys0) (hsrt : ∀ t, Srt (seg xs (t * wd) ((t + 1) * wd))) (hm : mid = min (c * (2 * wd) + wd) xs.length) (hh : hi = min (c * (2 * wd) + 2 * wd) xs.length)
    (hM : MI xs ys0 (c * (2 * wd)) mid hi mid j k ys) (hj : j = hi) : PI xs wd (c + 1) ys := by
  obtain ⟨a1, a2, a3, a4, a5, a6, a7, a8, a9⟩ := hM
  subst hj
  rw [seg_nil xs (Nat.le_refl mid), seg_nil xs (Nat.le_refl j)] at a9
  simp at a9
  have hk : k = j := by omega
  subst hk
  have hc1 : (c + 1) * (2 * wd) = c * (2 * wd) + 2 * wd := by rw [Nat.add_mul, Nat.one_mul]
  have e1 : seg ys (c * (2 * wd)) ((c + 1) * (2 * wd)) = (seg xs (c * (2 * wd)) mid).merge (seg xs mid k) kvLe := by
    rw [← a9, hc1, ← seg_min ys, a1, ← hh]
  have el : seg xs (c * (2 * wd)) mid = seg xs (2 * c * wd) ((2 * c + 1) * wd) := by
    have q1 : c * (2 * wd) = 2 * c * wd := by rw [← Nat.mul_assoc, Nat.mul_comm c 2]
    rw [hm, seg_min, q1, Nat.add_mul, Nat.one_mul]
  have er : seg xs mid k = seg xs ((2 * c + 1) * wd) ((2 * c + 1 + 1) * wd) := by
    have q1 : c * (2 * wd) = 2 * c * wd := by rw [← Nat.mul_assoc, Nat.mul_comm c 2]
    have q2 : (2 * c + 1) * wd = 2 * c * wd + wd := by rw [Nat.add_mul, Nat.one_mul]
    have q3 : (2 * c + 1 + 1) * wd = 2 * c * wd + 2 * wd := by rw [Nat.add_mul, q2, Nat.one_mul]; omega
    rw [hh, seg_min, q1, q2, q3]
    by_cases hlt : 2 * c * wd + wd ≤ xs.length
    · rw [hm, q1, Nat.min_eq_left hlt]
    · rw [hm, q1, Nat.min_eq_right (by omega)]
      unfold seg
      rw [List.drop_of_length_le (Nat.le_refl _), List.drop_of_length_le (by omega)]
      simp
  refine ⟨a1, ?_, fun t ht => ?_⟩
  · rw [take_seg ys (show c * (2 * wd) ≤ (c + 1) * (2 * wd) by omega), take_seg xs (show c * (2 * wd) ≤ (c + 1) * (2 * wd) by omega), e1, a2]
    refine List.Perm.append h.perm ((List.merge_perm_append kvLe).trans ?_)
    have e2 : seg xs (c * (2 * wd)) ((c + 1) * (2 * wd)) = seg xs (c * (2 * wd)) mid ++ seg xs mid k := by
      rw [hc1, ← seg_min xs, ← hh]
      unfold seg
      have : k - c * (2 * wd) = (mid - c * (2 * wd)) + (k - mid) := by omega
      rw [this, List.take_add, List.drop_drop]
      congr 3
      omega
    rw [e2]
  · by_cases htc : t < c
    · have hle : (t + 1) * (2 * wd) ≤ c * (2 * wd) := Nat.mul_le_mul_right _ (by omega)
      have e3 : seg ys (t * (2 * wd)) ((t + 1) * (2 * wd)) = seg ys0 (t * (2 * wd)) ((t + 1) * (2 * wd)) := by
        have key : ∀ l : List (Int × Int), seg l (t * (2 * wd)) ((t + 1) * (2 * wd)) = seg (l.take (c * (2 * wd))) (t * (2 * wd)) ((t + 1) * (2 * wd)) := fun l => by
          unfold seg
          apply List.ext_getElem?
          intro i
          simp only [List.getElem?_take, List.getElem?_drop]
          split
          · rw [if_pos (by omega)]
          · rfl
        rw [key ys, key ys0, a2]
      rw [e3]
      exact h.srt t htc
    · have : t = c := by omega
      subst this
      rw [e1]
      refine List.pairwise_merge kvLe_trans kvLe_total _ _ ?_ ?_
      · rw [el]; exact hsrt _
      · rw [er]; exact hsrt _
theorem PI.done {xs ys : List (Int × Int)} {wd c : Nat} (h : PI xs wd c ys) (hc : xs.length ≤ c * (2 * wd)) : ys.Perm xs ∧ ∀ t, Srt (seg ys (t * (2 * wd)) ((t + 1) * (2 * wd))) := by
  refine ⟨by have := h.perm; rwa [List.take_of_length_le (by rw [h.len]; exact hc), List.take_of_length_le hc] at this, fun t => ?_⟩
  by_cases ht : t < c
  · exact h.srt t ht
  · have hle : c * (2 * wd) ≤ t * (2 * wd) := Nat.mul_le_mul_right _ (by omega)
    unfold seg
    rw [List.drop_of_length_le (by rw [h.len]; omega)]
    simp [Srt]
end Go.Proofs.Qxb6000864a
