import Derived.Test.Qxb6000864aPlain
import Derived.Test.Qxb6000864aDoomInv
namespace Go.Proofs.Qxb6000864a
def hasW (es : List Ev) (p : Int × Int) : Bool := es.any fun e => e.wr && e.key == p.1 && e.num == p.2
def txW (t : Tx) (p : Int × Int) : Bool := hasW t.evs p
def seW (s : List Tx) (p : Int × Int) : Bool := s.any fun t => txW t p
theorem hasW_snoc (es : List Ev) (e : Ev) (p : Int × Int) : hasW (es ++ [e]) p = (hasW es p || (e.wr && e.key == p.1 && e.num == p.2)) := by simp [hasW]
theorem seW_snoc (s : List Tx) (t : Tx) (p : Int × Int) : seW (s ++ [t]) p = (seW s p || txW t p) := by simp [seW]
theorem any_snoc {α : Type} (f : α → Bool) (l : List α) (x : α) : (l ++ [x]).any f = (l.any f || f x) := by simp
theorem wr1_eq (i j : Nat) (es : List Ev) (f : Int × Int → Int × Int) (p : Int × Int) : ∀ k, k ≤ es.length → wr1 i j es f k p = if hasW (es.take k) p = true then ((i : Int) + 1, (j : Int) + 1) else f p
  | 0, _ => by simp [wr1, upto, hasW]
  | k + 1, hk => by
    have e : wr1 i j es f (k + 1) = if es[k].wr = true then upd (wr1 i j es f k) (es[k].key, es[k].num) ((i : Int) + 1, (j : Int) + 1) else wr1 i j es f k := upto_succ _ _ _ (by omega)
    rw [e, List.take_succ_eq_append_getElem (by omega), hasW_snoc]
    have ih := wr1_eq i j es f p k (by omega)
    obtain ⟨p1, p2⟩ := p
    by_cases hw : es[k].wr = true
    · rw [if_pos hw]
      unfold upd
      by_cases hp : (es[k].key, es[k].num) = (p1, p2)
      · rw [if_pos hp]
        simp only [Prod.mk.injEq] at hp
        simp [hw, hp.1, hp.2]
      · rw [if_neg hp, ih]
        have hf : (es[k].wr && es[k].key == p1 && es[k].num == p2) = false := by
          simp only [Prod.mk.injEq] at hp
          simp [hw]
          intro h1 h2
          exact hp ⟨h1, h2⟩
        rw [hf, Bool.or_false]
    · rw [if_neg hw, ih]
      simp [hw]
theorem wr2_eq (i j0 : Nat) (s : List Tx) (f : Int × Int → Int × Int) (p : Int × Int) (hu : ∀ (j : Nat) t, s[j]? = some t → txW t p = true → j = j0) : ∀ j, j ≤ s.length → wr2 i s f j p = if seW (s.take j) p = true then ((i : Int) + 1, (j0 : Int) + 1) else f p
  | 0, _ => by simp [wr2, upto, seW]
  | j + 1, hj => by
    have e : wr2 i s f (j + 1) = wr1 i j s[j].evs (wr2 i s f j) s[j].evs.length := upto_succ _ _ _ (by omega)
    rw [e, wr1_eq _ _ _ _ _ _ (Nat.le_refl _), List.take_length, wr2_eq i j0 s f p hu j (by omega), List.take_succ_eq_append_getElem (by omega)]
    rw [seW_snoc]
    by_cases hw : txW s[j] p = true
    · have := hu j s[j] (List.getElem?_eq_getElem (by omega)) hw
      subst this
      have hw' : hasW s[j].evs p = true := hw
      simp [hw, hw']
    · have hw' : ¬ hasW s[j].evs p = true := hw
      rw [if_neg hw']
      simp [hw]
theorem wr3_eq (i0 j0 : Nat) (ss : List (List Tx)) (p : Int × Int) (hu : ∀ (i : Nat) s, ss[i]? = some s → seW s p = true → i = i0) (hu2 : ∀ (i : Nat) s, ss[i]? = some s → ∀ (j : Nat) t, s[j]? = some t → txW t p = true → j = j0) :
    ∀ n, n ≤ ss.length → wr3 ss n p = if ((ss.take n).any fun s => seW s p) = true then ((i0 : Int) + 1, (j0 : Int) + 1) else (0, 0)
  | 0, _ => by simp [wr3, upto]
  | n + 1, hn => by
    have e : wr3 ss (n + 1) = wr2 n ss[n] (wr3 ss n) ss[n].length := upto_succ _ _ _ (by omega)
    have hg : ss[n]? = some ss[n] := List.getElem?_eq_getElem (by omega)
    rw [e, wr2_eq n j0 ss[n] _ p (hu2 n _ hg) _ (Nat.le_refl _), List.take_length, wr3_eq i0 j0 ss p hu hu2 n (by omega), List.take_succ_eq_append_getElem (by omega), any_snoc]
    by_cases hw : seW ss[n] p = true
    · have := hu n _ hg hw
      subst this
      simp [hw]
    · rw [if_neg hw, (by simpa using hw : seW ss[n] p = false), Bool.or_false]
theorem wr3_at (i0 j0 : Nat) (ss : List (List Tx)) (p : Int × Int) (s0 : List Tx) (h0 : ss[i0]? = some s0) (hw : seW s0 p = true) (hu : ∀ (i : Nat) s, ss[i]? = some s → seW s p = true → i = i0) (hu2 : ∀ (i : Nat) s, ss[i]? = some s → ∀ (j : Nat) t, s[j]? = some t → txW t p = true → j = j0) :
    wr3 ss ss.length p = ((i0 : Int) + 1, (j0 : Int) + 1) := by
  rw [wr3_eq i0 j0 ss p hu hu2 _ (Nat.le_refl _), List.take_length, if_pos]
  exact List.any_eq_true.2 ⟨s0, List.mem_of_getElem? h0, hw⟩
/-- the sessions of drSS, one by one. -/
theorem dr_cases {b i : Nat} {s : List Tx} (h : (drSS b)[i]? = some s) :
    (i = 0 ∧ s = [⟨[evWr 2 1, evWr 3 1], true⟩]) ∨ (i = 1 ∧ s = [⟨[evWr 1 2, evWr 2 3], true⟩]) ∨ (i = 2 ∧ s = [⟨[evWr 1 4], true⟩]) ∨ (∃ m, m < b ∧ i = 3 + m ∧ s = blS m) ∨ (i = 3 + b ∧ s = rdS b) ∨
    (i = 4 + b ∧ s = [⟨[evWr 5 1], true⟩]) ∨ (i = 5 + b ∧ s = [⟨[evWr 6 1], true⟩]) ∨ (i = 6 + b ∧ s = [⟨[evRd 5 1, evRd 6 0], true⟩]) ∨ (i = 7 + b ∧ s = [⟨[evRd 6 1, evRd 5 0], true⟩]) := by
  unfold drSS at h
  by_cases h1 : i < 3 + b
  · rw [List.getElem?_append_left (by rw [drPre_len]; exact h1)] at h
    unfold drPre at h
    by_cases h2 : i < 3
    · rw [List.getElem?_append_left (by simpa [cS] using h2)] at h
      match i, h2 with
      | 0, _ => cases h; exact .inl ⟨rfl, rfl⟩
      | 1, _ => cases h; exact .inr (.inl ⟨rfl, rfl⟩)
      | 2, _ => cases h; exact .inr (.inr (.inl ⟨rfl, rfl⟩))
    · rw [List.getElem?_append_right (by simp [cS]; omega)] at h
      have hl : cS.length = 3 := rfl
      rw [hl, List.getElem?_map, List.getElem?_range (by omega)] at h
      simp at h
      exact .inr (.inr (.inr (.inl ⟨i - 3, by omega, by omega, h.symm⟩)))
  · rw [List.getElem?_append_right (by rw [drPre_len]; omega), drPre_len] at h
    have hlt : i - (3 + b) < 5 := by simpa [drPost] using (List.getElem?_eq_some_iff.1 h).1
    obtain ⟨j, hj⟩ : ∃ j, j = i - (3 + b) := ⟨_, rfl⟩
    rw [← hj] at h hlt
    match j, hlt, h, hj with
    | 0, _, h, hj => cases h; exact .inr (.inr (.inr (.inr (.inl ⟨by omega, rfl⟩))))
    | 1, _, h, hj => cases h; exact .inr (.inr (.inr (.inr (.inr (.inl ⟨by omega, rfl⟩)))))
    | 2, _, h, hj => cases h; exact .inr (.inr (.inr (.inr (.inr (.inr (.inl ⟨by omega, rfl⟩))))))
    | 3, _, h, hj => cases h; exact .inr (.inr (.inr (.inr (.inr (.inr (.inr (.inl ⟨by omega, rfl⟩)))))))
    | 4, _, h, hj => cases h; exact .inr (.inr (.inr (.inr (.inr (.inr (.inr (.inr ⟨by omega, rfl⟩)))))))
theorem fst_noW (b : Nat) (p : Int × Int) : hasW (fst b) p = false := by
  simp [hasW, fst, evRd]

theorem dr_get0 (b : Nat) : (drSS b)[2]? = some [⟨[evWr 1 4], true⟩] := by simp [drSS, drPre, cS]
theorem dr_getB {b m : Nat} (h : m < b) : (drSS b)[3 + m]? = some (blS m) := by
  unfold drSS
  rw [List.getElem?_append_left (by rw [drPre_len]; omega)]
  unfold drPre
  rw [List.getElem?_append_right (by simp [cS])]
  have hl : cS.length = 3 := rfl
  rw [hl, Nat.add_sub_cancel_left, List.getElem?_map, List.getElem?_range h]
  rfl
theorem dr_getP {b j : Nat} : (drSS b)[3 + b + j]? = (rdS b :: drPost)[j]? := by
  unfold drSS
  rw [List.getElem?_append_right (by rw [drPre_len]; omega), drPre_len, Nat.add_sub_cancel_left]
/-- who writes p in drSS. -/
theorem dr_who {b i : Nat} {s : List Tx} (h : (drSS b)[i]? = some s) {p : Int × Int} (hw : seW s p = true) :
    (i = 0 ∧ (p = (2, 1) ∨ p = (3, 1))) ∨ (i = 1 ∧ (p = (1, 2) ∨ p = (2, 3))) ∨ (i = 2 ∧ p = (1, 4)) ∨ (∃ m : Nat, m < b ∧ i = 3 + m ∧ (p = (4, (m : Int) + 1) ∨ p = (10 + (m : Int), 1))) ∨ (i = 4 + b ∧ p = (5, 1)) ∨ (i = 5 + b ∧ p = (6, 1)) := by
  obtain ⟨p1, p2⟩ := p
  rcases dr_cases h with ⟨rfl, rfl⟩ | ⟨rfl, rfl⟩ | ⟨rfl, rfl⟩ | ⟨m, hm, rfl, rfl⟩ | ⟨rfl, rfl⟩ | ⟨rfl, rfl⟩ | ⟨rfl, rfl⟩ | ⟨rfl, rfl⟩ | ⟨rfl, rfl⟩
  · simp [seW, txW, hasW, evWr] at hw
    exact .inl ⟨rfl, by simpa [eq_comm] using hw⟩
  · simp [seW, txW, hasW, evWr] at hw
    exact .inr (.inl ⟨rfl, by simpa [eq_comm] using hw⟩)
  · simp [seW, txW, hasW, evWr] at hw
    exact .inr (.inr (.inl ⟨rfl, by simpa [eq_comm] using hw⟩))
  · simp [seW, txW, hasW, evWr, blS] at hw
    exact .inr (.inr (.inr (.inl ⟨m, hm, rfl, by simpa [eq_comm] using hw⟩)))
  · have := fst_noW b (p1, p2)
    simp [seW, txW, rdS, this] at hw
    simp [hasW, evRd] at hw
  · simp [seW, txW, hasW, evWr] at hw
    exact .inr (.inr (.inr (.inr (.inl ⟨rfl, by simpa [eq_comm] using hw⟩))))
  · simp [seW, txW, hasW, evWr] at hw
    exact .inr (.inr (.inr (.inr (.inr ⟨rfl, by simpa [eq_comm] using hw⟩))))
  · simp [seW, txW, hasW, evRd] at hw
  · simp [seW, txW, hasW, evRd] at hw
/-- every writing transaction is its session's first. -/
theorem dr_j0 {b i : Nat} {s : List Tx} (h : (drSS b)[i]? = some s) {p : Int × Int} {j : Nat} {t : Tx} (ht : s[j]? = some t) (hw : txW t p = true) : j = 0 := by
  have one : ∀ x : Tx, s = [x] → j = 0 := fun x e => by
    subst e
    have := (List.getElem?_eq_some_iff.1 ht).1
    simpa using this
  rcases dr_cases h with ⟨_, e⟩ | ⟨_, e⟩ | ⟨_, e⟩ | ⟨m, _, _, e⟩ | ⟨_, e⟩ | ⟨_, e⟩ | ⟨_, e⟩ | ⟨_, e⟩ | ⟨_, e⟩
  · exact one _ e
  · exact one _ e
  · exact one _ e
  · exact one _ e
  · exfalso
    subst e
    have hj : j < 2 := by simpa [rdS] using (List.getElem?_eq_some_iff.1 ht).1
    match j, hj with
    | 0, _ =>
      simp [rdS] at ht
      subst ht
      simp [txW, fst_noW] at hw
    | 1, _ =>
      simp [rdS] at ht
      subst ht
      simp [txW, hasW, evRd] at hw
  · exact one _ e
  · exact one _ e
  · exact one _ e
  · exact one _ e
theorem dr_W {b i0 : Nat} {p : Int × Int} {s0 : List Tx} (h0 : (drSS b)[i0]? = some s0) (hw : seW s0 p = true) (hu : ∀ (i : Nat) s, (drSS b)[i]? = some s → seW s p = true → i = i0) : wr3 (drSS b) (drSS b).length p = ((i0 : Int) + 1, 1) :=
  wr3_at i0 0 (drSS b) p s0 h0 hw hu (fun _ _ h _ _ ht hw => dr_j0 h ht hw)
theorem dr_W14 (b : Nat) : wr3 (drSS b) (drSS b).length (1, 4) = (((2 : Nat) : Int) + 1, 1) :=
  dr_W (dr_get0 b) (by decide) fun i s h hw => by
    rcases dr_who h hw with ⟨_, h | h⟩ | ⟨_, h | h⟩ | ⟨h, _⟩ | ⟨m, _, _, h | h⟩ | ⟨_, h⟩ | ⟨_, h⟩ <;> first | exact h | (simp at h; try omega)
theorem dr_W51 (b : Nat) : wr3 (drSS b) (drSS b).length (5, 1) = (((3 + b + 1 : Nat) : Int) + 1, 1) :=
  dr_W (dr_getP (j := 1)) (by decide) fun i s h hw => by
    rcases dr_who h hw with ⟨_, h | h⟩ | ⟨_, h | h⟩ | ⟨_, h⟩ | ⟨m, _, _, h | h⟩ | ⟨h, _⟩ | ⟨_, h⟩ <;> first | (simp at h; try omega) | omega
theorem dr_W61 (b : Nat) : wr3 (drSS b) (drSS b).length (6, 1) = (((3 + b + 2 : Nat) : Int) + 1, 1) :=
  dr_W (dr_getP (j := 2)) (by decide) fun i s h hw => by
    rcases dr_who h hw with ⟨_, h | h⟩ | ⟨_, h | h⟩ | ⟨_, h⟩ | ⟨m, _, _, h | h⟩ | ⟨_, h⟩ | ⟨h, _⟩ <;> first | (simp at h; try omega) | omega
theorem dr_Wb {b m : Nat} (hm : m < b) : wr3 (drSS b) (drSS b).length (10 + (m : Int), 1) = (((3 + m : Nat) : Int) + 1, 1) :=
  dr_W (dr_getB hm) (by simp [seW, txW, hasW, evWr, blS]) fun i s h hw => by
    rcases dr_who h hw with ⟨_, h | h⟩ | ⟨_, h | h⟩ | ⟨_, h⟩ | ⟨m', _, e, h | h⟩ | ⟨_, h⟩ | ⟨_, h⟩ <;> (simp at h; try omega)

theorem fs2_first {W : Int × Int → Int × Int} {ss : List (List Tx)} {i : Nat} {t : Tx} {r : List Tx} (h : ss[i]? = some (t :: r)) (hz : (fromM W t.evs).length = 0) : fs2 W ss ss.length ((i : Int) + 1, 1) = true := by
  obtain ⟨hi, e⟩ := List.getElem?_eq_some_iff.1 h
  have hj : 0 < ss[i].length := by rw [e]; simp
  have := fs2_at W ss hi hj
  simp only [e, List.getElem_cons_zero] at this
  have e1 : ((0 : Nat) : Int) + 1 = 1 := rfl
  rw [e1] at this
  rw [this, hz]
  rfl
theorem keepT_none {W : Int × Int → Int × Int} {F : Int × Int → Bool} {t : Tx} (h : fromM W t.evs = []) : keepT W F t = true := by
  unfold keepT
  rw [h]
  rfl
theorem keepT_one {W : Int × Int → Int × Int} {F : Int × Int → Bool} {t : Tx} {p : Int × Int} {v : Value} (h : fromM W t.evs = [(p, v)]) (hF : F p = true) : keepT W F t = true := by
  unfold keepT
  rw [h]
  simp [hF]
theorem fst_keys (b : Nat) : ∀ k, k ≤ b → (fromM (wr3 (drSS b) (drSS b).length) (fst k)).map (·.1) = (List.range k).map fun (m : Nat) => (((3 + m : Nat) : Int) + 1, (1 : Int))
  | 0, _ => rfl
  | k + 1, hk => by
    have e : fromM (wr3 (drSS b) (drSS b).length) (fst (k + 1)) = putm (fromM (wr3 (drSS b) (drSS b).length) (fst k)) (wr3 (drSS b) (drSS b).length (10 + (k : Int), 1)) (.bool true) := by
      rw [fst_succ]
      unfold fromM
      rw [List.foldl_append]
      rfl
    rw [e, putm_keys, dr_Wb (by omega), fst_keys b k (by omega), if_neg, List.range_succ, List.map_append]
    · rfl
    · intro hm
      obtain ⟨m, h1, h2⟩ := List.mem_map.1 hm
      have := List.mem_range.1 h1
      simp at h2
      omega
theorem fst_from_len (b : Nat) : (fromM (wr3 (drSS b) (drSS b).length) (fst b)).length = b := by
  have := congrArg List.length (fst_keys b b (Nat.le_refl _))
  simpa using this
theorem dr_keep {b i : Nat} {s : List Tx} (h : (drSS b)[i]? = some s) : s.filter (kp (drSS b)) = if i = 3 + b ∧ 2 ≤ b then [⟨[evRd 1 4, evRd 3 0], true⟩] else s := by
  have F0 : ∀ {i : Nat} {t : Tx} {r : List Tx}, (drSS b)[i]? = some (t :: r) → (fromM (wr3 (drSS b) (drSS b).length) t.evs).length = 0 → fs2 (wr3 (drSS b) (drSS b).length) (drSS b) (drSS b).length ((i : Int) + 1, 1) = true := fun h hz => fs2_first h hz
  have k14 : kp (drSS b) ⟨[evRd 1 4, evRd 3 0], true⟩ = true := by
    refine keepT_one (p := wr3 (drSS b) (drSS b).length (1, 4)) (v := .bool true) rfl ?_
    rw [dr_W14]
    exact F0 (dr_get0 b) rfl
  have k51 : kp (drSS b) ⟨[evRd 5 1, evRd 6 0], true⟩ = true := by
    refine keepT_one (p := wr3 (drSS b) (drSS b).length (5, 1)) (v := .bool true) rfl ?_
    rw [dr_W51]
    exact F0 (dr_getP (j := 1)) rfl
  have k61 : kp (drSS b) ⟨[evRd 6 1, evRd 5 0], true⟩ = true := by
    refine keepT_one (p := wr3 (drSS b) (drSS b).length (6, 1)) (v := .bool true) rfl ?_
    rw [dr_W61]
    exact F0 (dr_getP (j := 2)) rfl
  have all : ∀ t : Tx, s = [t] → kp (drSS b) t = true → s.filter (kp (drSS b)) = s := fun t e hk => by subst e; simp [hk]
  rcases dr_cases h with ⟨e, rfl⟩ | ⟨e, rfl⟩ | ⟨e, rfl⟩ | ⟨m, hm, e, rfl⟩ | ⟨e, rfl⟩ | ⟨e, rfl⟩ | ⟨e, rfl⟩ | ⟨e, rfl⟩ | ⟨e, rfl⟩
  · rw [if_neg (by omega)]; exact all _ rfl (keepT_none rfl)
  · rw [if_neg (by omega)]; exact all _ rfl (keepT_none rfl)
  · rw [if_neg (by omega)]; exact all _ rfl (keepT_none rfl)
  · rw [if_neg (by omega)]; exact all _ rfl (keepT_none rfl)
  · have hl := fst_from_len b
    by_cases hb : 2 ≤ b
    · rw [if_pos ⟨e, hb⟩]
      have kf : kp (drSS b) ⟨fst b, true⟩ = false := by
        show keepT _ _ _ = false
        unfold keepT
        simp only [hl]
        have h1 : (b == 0) = false := by simp; omega
        have h2 : (b == 1) = false := by simp; omega
        rw [h1, h2]
        rfl
      unfold rdS
      simp [kf, k14]
    · rw [if_neg (by omega)]
      have kf : kp (drSS b) ⟨fst b, true⟩ = true := by
        match b, hb with
        | 0, _ => exact keepT_none rfl
        | 1, _ =>
          refine keepT_one (p := wr3 (drSS 1) (drSS 1).length (10 + ((0 : Nat) : Int), 1)) (v := .bool true) rfl ?_
          rw [dr_Wb (by omega)]
          exact F0 (dr_getB (by omega)) rfl
        | n + 2, hb => omega
      unfold rdS
      simp [kf, k14]
  · rw [if_neg (by omega)]; exact all _ rfl (keepT_none rfl)
  · rw [if_neg (by omega)]; exact all _ rfl (keepT_none rfl)
  · rw [if_neg (by omega)]; exact all _ rfl k51
  · rw [if_neg (by omega)]; exact all _ rfl k61
end Go.Proofs.Qxb6000864a
