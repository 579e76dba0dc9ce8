import Derived.Test.Qxb6000864aSort
namespace Go.Proofs.Qxb6000864a
/-! ### what wellFormed asks for, in plain data -/
def wE (es : List Ev) : List (Int × Int) := (es.filter (·.wr)).map fun e => (e.key, e.num)
def wS (s : List Tx) : List (Int × Int) := s.flatMap fun t => wE t.evs
def wH (ss : List (List Tx)) : List (Int × Int) := ss.flatMap wS
structure WF (ss : List (List Tx)) : Prop where
  com : ∀ s ∈ ss, ∀ t ∈ s, t.com = true
  wr : ∀ s ∈ ss, ∀ t ∈ s, ∀ e ∈ t.evs, e.wr = true → e.ini = false ∧ 1 ≤ e.num
  rd : ∀ s ∈ ss, ∀ t ∈ s, ∀ e ∈ t.evs, e.wr = false → e.ini = (e.num == 0)
  nd : (wH ss).Nodup
  src : ∀ s ∈ ss, ∀ t ∈ s, ∀ e ∈ t.evs, e.wr = false → e.ini = false → (e.key, e.num) ∈ wH ss
  len : (wH ss).length ≤ 1048576
theorem wE_succ {es : List Ev} {k : Nat} (h : k < es.length) : wE (es.take (k + 1)) = wE (es.take k) ++ (if es[k].wr then [(es[k].key, es[k].num)] else []) := by
  unfold wE
  rw [List.take_succ_eq_append_getElem h, List.filter_append, List.map_append]
  congr 1
  by_cases e : es[k].wr = true
  · simp [e]
  · simp [e]
theorem wS_succ {s : List Tx} {k : Nat} (h : k < s.length) : wS (s.take (k + 1)) = wS (s.take k) ++ wE s[k].evs := by
  unfold wS
  rw [List.take_succ_eq_append_getElem h, List.flatMap_append]
  simp
theorem wH_succ {ss : List (List Tx)} {k : Nat} (h : k < ss.length) : wH (ss.take (k + 1)) = wH (ss.take k) ++ wS ss[k] := by
  unfold wH
  rw [List.take_succ_eq_append_getElem h, List.flatMap_append]
  simp
theorem wE_le (es : List Ev) (k : Nat) : (wE (es.take k)).length ≤ (wE es).length := by
  have : wE es = wE (es.take k) ++ wE (es.drop k) := by
    unfold wE
    rw [← List.map_append, ← List.filter_append, List.take_append_drop]
  rw [this, List.length_append]
  omega
theorem wS_le (s : List Tx) (k : Nat) : (wS (s.take k)).length ≤ (wS s).length := by
  have : wS s = wS (s.take k) ++ wS (s.drop k) := by
    unfold wS
    rw [← List.flatMap_append, List.take_append_drop]
  rw [this, List.length_append]
  omega
theorem wH_le (ss : List (List Tx)) (k : Nat) : (wH (ss.take k)).length ≤ (wH ss).length := by
  have : wH ss = wH (ss.take k) ++ wH (ss.drop k) := by
    unfold wH
    rw [← List.flatMap_append, List.take_append_drop]
  rw [this, List.length_append]
  omega
theorem wH_room {ss : List (List Tx)} {k : Nat} (h : k < ss.length) {N : Nat} (hN : (wH ss).length ≤ N) : (wH (ss.take k)).length + (wS ss[k]).length ≤ N := by
  have := wH_le ss (k + 1)
  rw [wH_succ h, List.length_append] at this
  omega
theorem wS_room {s : List Tx} {k : Nat} (h : k < s.length) {N P : Nat} (hN : P + (wS s).length ≤ N) : P + (wS (s.take k)).length + (wE s[k].evs).length ≤ N := by
  have := wS_le s (k + 1)
  rw [wS_succ h, List.length_append] at this
  omega
theorem wE_room {es : List Ev} {k : Nat} {N P : Nat} (hN : P + (wE es).length ≤ N) : P + (wE (es.take k)).length ≤ N := by
  have := wE_le es k
  omega
theorem kvL_of_le {x y : Int × Int} (h : kvLe x y = true) (hne : x ≠ y) : kvL x y = true := by
  obtain ⟨x1, x2⟩ := x
  obtain ⟨y1, y2⟩ := y
  unfold kvLe kvL at *
  simp only at *
  by_cases e : x1 = y1
  · subst e
    have : x2 ≠ y2 := fun e => hne (by rw [e])
    simp at h ⊢
    omega
  · have e2 : ¬ y1 = x1 := fun h => e h.symm
    simp [e, e2] at h ⊢
    omega
theorem kvL_irr (x : Int × Int) : kvL x x = false := by
  obtain ⟨x1, x2⟩ := x
  simp [kvL]
theorem srt_lt {ys : List (Int × Int)} (hs : Srt ys) (hn : ys.Nodup) {i j : Nat} (hi : i < ys.length) (hj : j < ys.length) (hij : i < j) : kvL ys[i] ys[j] = true := by
  refine kvL_of_le (List.pairwise_iff_getElem.1 hs i j hi hj hij) ?_
  exact List.pairwise_iff_getElem.1 hn i j hi hj hij
theorem srt_ge {ys : List (Int × Int)} (hs : Srt ys) {i j : Nat} (hi : i < ys.length) (hj : j < ys.length) (hij : j ≤ i) : kvL ys[i] ys[j] = false := by
  by_cases e : i = j
  · subst e; exact kvL_irr _
  · have := List.pairwise_iff_getElem.1 hs j i hj hi (by omega)
    simpa [kvLe] using this
theorem srt_find {ys : List (Int × Int)} (hs : Srt ys) (hn : ys.Nodup) {idx : Nat} (hi : idx < ys.length) : ∀ m (hm : m < ys.length), kvL ys[m] ys[idx] = decide (m < idx) := by
  intro m hm
  by_cases e : m < idx
  · rw [srt_lt hs hn hm hi e]; simp [e]
  · rw [srt_ge hs hm hi (by omega)]; simp [e]
/-! ### a row of pairs as cells -/
def kvC (l : List (Int × Int)) : List Value := l.flatMap fun x => [.int .i64 x.1, .int .i64 x.2]
theorem kvC_append (a b : List (Int × Int)) : kvC (a ++ b) = kvC a ++ kvC b := by simp [kvC]
theorem kvC_one (x y : Int) : kvC [(x, y)] = [.int .i64 x, .int .i64 y] := rfl
theorem kvC_get : ∀ (l : List (Int × Int)) (j : Nat) (h : j < l.length), (kvC l)[j * 2]? = some (.int .i64 l[j].1) ∧ (kvC l)[j * 2 + 1]? = some (.int .i64 l[j].2)
  | [], j, h => absurd h (by simp)
  | x :: l, 0, h => ⟨rfl, rfl⟩
  | x :: l, j + 1, h => by
    have := kvC_get l j (by simpa using h)
    have e1 : (j + 1) * 2 = j * 2 + 1 + 1 := by omega
    have ec : kvC (x :: l) = .int .i64 x.1 :: .int .i64 x.2 :: kvC l := rfl
    rw [e1, ec]
    simpa using this
theorem kv_of_owns {w : World} {bs g cap n : Nat} {l : List (Int × Int)} (h : w.ownsRow bs 68 2 (.slice (some ⟨g, 0, none⟩) n cap) n (kvC l)) (hn : n = l.length) : KvRow w g l ∧ bs ≤ g := by
  obtain ⟨h0, h | ⟨g', cap', cur, hv, hb, hg, hle, hm, hsz, htk⟩⟩ := h
  · cases h.1
  · injection hv with e1 e2 e3
    have eg : g = g' := by injection e1 with e1; injection e1
    subst eg
    refine ⟨⟨fun i => (cur[i]?).getD (.int .i64 0), cur.size, by rw [hsz]; omega, ⟨cur, hg, rfl, fun i hi => by simp [hi]⟩, fun j hj => ?_⟩, hb⟩
    obtain ⟨k1, k2⟩ := kvC_get l j hj
    rw [← htk, List.getElem?_take] at k1 k2
    rw [if_pos (by omega)] at k1 k2
    simp only [Array.getElem?_toList] at k1 k2
    simp [k1, k2]
end Go.Proofs.Qxb6000864a
