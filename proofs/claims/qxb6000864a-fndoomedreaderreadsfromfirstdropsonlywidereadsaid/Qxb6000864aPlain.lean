/-
  THE PLAIN LAWS ON 'what ReadsFromFirst keeps'. No Go in sight.
-/
import Derived.Test.Qxb6000864aParts
import Derived.Test.Qxb6000864aSame
namespace Go.Proofs.Qxb6000864a

theorem upto_over {α β : Type} (f : Nat → α → β → β) (l : List α) (b : β) {n : Nat} (h : ¬ n < l.length) : upto f l b (n + 1) = upto f l b n := by
  show (match l[n]? with | some a => f n a (upto f l b n) | none => upto f l b n) = _
  rw [List.getElem?_eq_none (by omega)]
/-- a transaction is kept by what it reads alone. -/
def keepT (W : Int × Int → Int × Int) (F : Int × Int → Bool) (t : Tx) : Bool :=
  (fromM W t.evs).length == 0 || ((fromM W t.evs).length == 1 && (fromM W t.evs).all (fun q => F q.1))

theorem fs1_true (W : Int × Int → Int × Int) (i : Nat) (s : List Tx) (F : Int × Int → Bool) (p : Int × Int) : ∀ j, fs1 W i s F j p = true ↔ F p = true ∨ ∃ j' , ∃ h : j' < s.length, j' < j ∧ p = ((i : Int) + 1, (j' : Int) + 1) ∧ (fromM W s[j'].evs).length = 0
  | 0 => by simp [fs1, upto]
  | j + 1 => by
    by_cases hj : j < s.length
    · have e : fs1 W i s F (j + 1) = if (fromM W s[j].evs).length = 0 then upd (fs1 W i s F j) ((i : Int) + 1, (j : Int) + 1) true else fs1 W i s F j := upto_succ _ _ _ hj
      rw [e]
      by_cases hz : (fromM W s[j].evs).length = 0
      · rw [if_pos hz]
        unfold upd
        by_cases hp : ((i : Int) + 1, (j : Int) + 1) = p
        · rw [if_pos hp]
          simp only [true_iff]
          exact .inr ⟨j, hj, by omega, hp.symm, hz⟩
        · rw [if_neg hp, fs1_true W i s F p j]
          constructor
          · rintro (h | ⟨j', h1, h2, h3⟩)
            · exact .inl h
            · exact .inr ⟨j', h1, by omega, h3⟩
          · rintro (h | ⟨j', h1, h2, h3, h4⟩)
            · exact .inl h
            · refine .inr ⟨j', h1, ?_, h3, h4⟩
              have : j' ≠ j := fun e => hp (by rw [h3, e])
              omega
      · rw [if_neg hz, fs1_true W i s F p j]
        constructor
        · rintro (h | ⟨j', h1, h2, h3⟩)
          · exact .inl h
          · exact .inr ⟨j', h1, by omega, h3⟩
        · rintro (h | ⟨j', h1, h2, h3, h4⟩)
          · exact .inl h
          · refine .inr ⟨j', h1, ?_, h3, h4⟩
            have : j' ≠ j := fun e => hz (by subst e; exact h4)
            omega
    · have e : fs1 W i s F (j + 1) = fs1 W i s F j := upto_over _ _ _ hj
      rw [e, fs1_true W i s F p j]
      constructor
      · rintro (h | ⟨j', h1, h2, h3⟩)
        · exact .inl h
        · exact .inr ⟨j', h1, by omega, h3⟩
      · rintro (h | ⟨j', h1, h2, h3⟩)
        · exact .inl h
        · exact .inr ⟨j', h1, by omega, h3⟩
theorem fs2_true (W : Int × Int → Int × Int) (ss : List (List Tx)) (p : Int × Int) : ∀ i, fs2 W ss i p = true ↔ ∃ i', ∃ h : i' < ss.length, ∃ j', ∃ h' : j' < ss[i'].length, i' < i ∧ p = ((i' : Int) + 1, (j' : Int) + 1) ∧ (fromM W ss[i'][j'].evs).length = 0
  | 0 => by simp [fs2, upto]
  | i + 1 => by
    by_cases hi : i < ss.length
    · have e : fs2 W ss (i + 1) = fs1 W i ss[i] (fs2 W ss i) ss[i].length := upto_succ _ _ _ hi
      rw [e, fs1_true, fs2_true W ss p i]
      constructor
      · rintro (⟨i', h1, j', h2, h3, h4⟩ | ⟨j', h1, _, h3, h4⟩)
        · exact ⟨i', h1, j', h2, by omega, h4⟩
        · exact ⟨i, hi, j', h1, by omega, h3, h4⟩
      · rintro ⟨i', h1, j', h2, h3, h4, h5⟩
        by_cases hii : i' = i
        · subst hii
          exact .inr ⟨j', h2, h2, h4, h5⟩
        · exact .inl ⟨i', h1, j', h2, by omega, h4, h5⟩
    · have e : fs2 W ss (i + 1) = fs2 W ss i := upto_over _ _ _ hi
      rw [e, fs2_true W ss p i]
      constructor
      · rintro ⟨i', h1, j', h2, h3, h4⟩
        exact ⟨i', h1, j', h2, by omega, h4⟩
      · rintro ⟨i', h1, j', h2, h3, h4⟩
        exact ⟨i', h1, j', h2, by omega, h4⟩
/-- at the place of a transaction 'first' says whether it reads nothing that was written. -/
theorem fs2_at (W : Int × Int → Int × Int) (ss : List (List Tx)) {i j : Nat} (hi : i < ss.length) (hj : j < ss[i].length) : fs2 W ss ss.length ((i : Int) + 1, (j : Int) + 1) = ((fromM W ss[i][j].evs).length == 0) := by
  rw [Bool.eq_iff_iff, fs2_true]
  constructor
  · rintro ⟨i', h1, j', h2, _, h4, h5⟩
    have e1 : i' = i := by have := congrArg Prod.fst h4; simp at this; omega
    subst e1
    have e2 : j' = j := by have := congrArg Prod.snd h4; simp at this; omega
    subst e2
    simp [h5]
  · intro h
    exact ⟨i, hi, j, hj, hi, rfl, by simpa using h⟩
theorem keepB_at (W : Int × Int → Int × Int) (ss : List (List Tx)) {i j : Nat} (hi : i < ss.length) (hj : j < ss[i].length) :
    keepB W (fs2 W ss ss.length) i j ss[i][j] = keepT W (fs2 W ss ss.length) ss[i][j] := by
  unfold keepB keepT
  rw [fs2_at W ss hi hj]
theorem kept1_filter (W : Int × Int → Int × Int) (ss : List (List Tx)) {i : Nat} (hi : i < ss.length) : ∀ j, j ≤ ss[i].length → kept1 W (fs2 W ss ss.length) i ss[i] j = (ss[i].take j).filter (keepT W (fs2 W ss ss.length))
  | 0, _ => by simp [kept1, upto]
  | j + 1, hj => by
    have e : kept1 W (fs2 W ss ss.length) i ss[i] (j + 1) = if keepB W (fs2 W ss ss.length) i j ss[i][j] = true then kept1 W (fs2 W ss ss.length) i ss[i] j ++ [ss[i][j]] else kept1 W (fs2 W ss ss.length) i ss[i] j := upto_succ _ _ _ (by omega)
    rw [e, kept1_filter W ss hi j (by omega), keepB_at W ss hi (by omega), List.take_succ_eq_append_getElem (by omega), List.filter_append]
    cases h : keepT W (fs2 W ss ss.length) ss[i][j] <;> simp [h]
/-- WHAT ReadsFromFirst KEEPS OF A SESSION: a filter that looks at the transaction alone. -/
def kp (ss : List (List Tx)) : Tx → Bool := keepT (wr3 ss ss.length) (fs2 (wr3 ss ss.length) ss ss.length)
theorem rff_get (ss : List (List Tx)) {i : Nat} (hi : i < ss.length) (h' : i < (rff ss).length) : (rff ss)[i] = ss[i].filter (kp ss) := by
  simp only [rff, List.getElem_map, List.getElem_range]
  unfold keptS
  rw [List.getElem?_eq_getElem hi]
  show kept1 _ _ i ss[i] ss[i].length = _
  rw [kept1_filter _ ss hi _ (Nat.le_refl _), List.take_length]
  rfl
/-- who reads nothing that was written is kept. -/
theorem rnw_kp (ss : List (List Tx)) {t : Tx} (h : kp ss t = false) : rnw t.evs = false := by
  cases hr : rnw t.evs
  · rfl
  · exfalso
    have hf : ∀ (es : List Ev) (m : List ((Int × Int) × Value)), (∀ e ∈ es, (e.wr || e.ini) = true) → es.foldl (fun m e => if e.wr = false ∧ e.ini = false then putm m (wr3 ss ss.length (e.key, e.num)) (.bool true) else m) m = m := by
      intro es
      induction es with
      | nil => intro m _; rfl
      | cons e r ih =>
        intro m he
        rw [List.foldl_cons]
        have := he e (by simp)
        rw [if_neg (by intro h; simp [h.1, h.2] at this)]
        exact ih m (fun x hx => he x (by simp [hx]))
    have h0 : fromM (wr3 ss ss.length) t.evs = [] := hf t.evs [] (by unfold rnw at hr; simpa using hr)
    simp [kp, keepT, h0] at h

/-! ### the greedy match -/
theorem filter_split {p : Tx → Bool} {s : List Tx} {j : Nat} (hj : j < s.length) : s.filter p = (s.take j).filter p ++ (s[j] :: s.drop (j + 1)).filter p := by
  rw [← List.filter_append, ← List.drop_eq_getElem_cons hj, List.take_append_drop]
theorem greedy_hit {p : Tx → Bool} {s : List Tx} {j : Nat} (hj : j < s.length) (hp : p s[j] = true) : ∃ h : ((s.take j).filter p).length < (s.filter p).length, (s.filter p)[((s.take j).filter p).length] = s[j] := by
  have e := filter_split (p := p) hj
  rw [List.filter_cons_of_pos hp] at e
  have hl : ((s.take j).filter p).length < (s.filter p).length := by rw [e]; simp
  refine ⟨hl, ?_⟩
  have : (s.filter p)[((s.take j).filter p).length]? = some s[j] := by rw [e]; simp
  rw [List.getElem?_eq_getElem hl] at this
  exact Option.some.inj this
theorem greedy_miss {p : Tx → Bool} {s : List Tx} {j k : Nat} (hj : j < s.length) (hp : p s[j] = false) (hk : k < (s.filter p).length) : (s.filter p)[k] ≠ s[j] := by
  intro e
  have := (List.mem_filter.1 (List.getElem_mem hk)).2
  rw [e, hp] at this
  cases this
theorem greedy_step {p : Tx → Bool} {s : List Tx} {j : Nat} (hj : j < s.length) : ((s.take (j + 1)).filter p).length = ((s.take j).filter p).length + if p s[j] = true then 1 else 0 := by
  rw [List.take_succ_eq_append_getElem hj, List.filter_append]
  cases h : p s[j] <;> simp [h]
theorem greedy_le {p : Tx → Bool} (s : List Tx) (j : Nat) : ((s.take j).filter p).length ≤ (s.filter p).length := by
  have : s.filter p = (s.take j).filter p ++ (s.drop j).filter p := by rw [← List.filter_append, List.take_append_drop]
  rw [this]; simp
end Go.Proofs.Qxb6000864a
