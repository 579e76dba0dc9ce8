import Derived.Test.Qxb6000864aBase
namespace Go.Proofs.Qxb6000864a
open Go.RowKit
theorem sl_ret {r : Bool} (h : r = true) : Ending.returned (.bool true) = .returned (.bool r) := by rw [h]
set_option maxHeartbeats 400000 in
theorem sameEvents_len (va vb : Value) (ea eb : List Ev) (w : World) (ha : EvsAt w va ea) (hb : EvsAt w vb eb) (hne : ea.length ≠ eb.length) :
    Calls Try.prog 19 #[va, vb] w fun e w' => e = .returned (.bool false) ∧ Below w.heap.size w w' := by
  obtain ⟨ha0, aa, ca, rfl, ha⟩ := ha
  obtain ⟨hb0, ab, cb, rfl, hb⟩ := hb
  have h1 : ((ea.length : Int) != (eb.length : Int)) = true := by simp; omega
  clear ha hb
  unfold small at ha0 hb0
  go_enter Try.func19, Try.ntmps19
  go_wp2
  go_ret
  exact ⟨rfl, Below.refl _ _⟩
set_option maxHeartbeats 1000000 in
theorem sameEvents_eq (va vb : Value) (ea eb : List Ev) (w : World) (ha : EvsAt w va ea) (hb : EvsAt w vb eb) (hne : ea.length = eb.length) :
    Calls Try.prog 19 #[va, vb] w fun e w' => e = .returned (.bool (evsEq ea eb)) ∧ Below w.heap.size w w' := by
  obtain ⟨ha0, aa, ca, rfl, ha⟩ := ha
  obtain ⟨hb0, ab, cb, rfl, hb⟩ := hb
  rw [← hne]
  have HA : Hid (∀ i (h : i < ea.length), ∃ b off, aa = some ⟨b, off, none⟩ ∧ EvAt w b (off + i * 4) ea[i]) := ha
  obtain ⟨n, hn⟩ : ∃ n, n = ea.length := ⟨_, rfl⟩
  rw [← hn]
  rw [← hn] at ha0
  have HB : Hid (∀ i (h : i < eb.length), ∃ b off, ab = some ⟨b, off, none⟩ ∧ EvAt w b (off + i * 4) eb[i]) := hb
  have HN : Hid (n = ea.length ∧ n = eb.length) := ⟨hn, hn.trans hne⟩
  clear ha hb hn hne hb0
  unfold small at ha0
  go_enter Try.func19, Try.ntmps19
  go_wp2
  go_loopw [15] (fun i wr => ∃ k : Nat, k ≤ n ∧ i = .int .i64 k ∧ (∀ i (h : i < k) (h1 : i < ea.length) (h2 : i < eb.length), ea[i] = eb[i]) ∧ Below w.heap.size w wr) (fun i _ => n - (intOf i).toNat)
  case atStart => exact ⟨0, by omega, rfl, by omega, Below.refl _ _⟩
  case round =>
    obtain ⟨k, hk, rfl, heq, hbw⟩ := hrel
    have HE : Hid (∀ i (h : i < k) (h1 : i < ea.length) (h2 : i < eb.length), ea[i] = eb[i]) := heq
    clear heq
    by_cases hlt : k < n
    · obtain ⟨b1, o1, rfl, h1⟩ := HA.out k (by have := HN.out; omega)
      obtain ⟨b2, o2, rfl, h2⟩ := HB.out k (by have := HN.out; omega)
      have h1' := h1.stay hbw
      have h2' := h2.stay hbw
      obtain ⟨e1, he1⟩ : ∃ e, e = ea[k]'(by have := HN.out; omega) := ⟨_, rfl⟩
      obtain ⟨e2, he2⟩ : ∃ e, e = eb[k]'(by have := HN.out; omega) := ⟨_, rfl⟩
      rw [← he1] at h1 h1'
      rw [← he2] at h2 h2'
      have H1 : Hid (e1 = ea[k]'(by have := HN.out; omega)) := he1
      have H2 : Hid (e2 = eb[k]'(by have := HN.out; omega)) := he2
      clear he1 he2
      obtain ⟨a0, a1, a2, a3, _, _⟩ := h1'
      obtain ⟨b0, b1', b2', b3, _, _⟩ := h2'
      have hsz := hbw.size
      have l1 := cell_lt a0
      have l2 := cell_lt b0
      go_wp2
      all_goals first
        | (go_ret
           have hF : evsEq ea eb = false := evsEq_false (fun hEq => by
             have h12 : e1 = e2 := by rw [H1.out, H2.out]; simp [hEq]
             simp_all)
           exact ⟨by rw [hF]; rfl, (hbw.alloc (by omega) _).alloc (by simp; omega) _⟩)
        | (go_roundw
           case rel => exact ⟨k + 1, by omega, by go_num, fun i hi h1 h2 => by
             by_cases hik : i = k
             · subst hik
               rw [← H1.out, ← H2.out]
               exact Ev.ext' (by assumption) (by assumption) (by assumption) (by simp_all)
             · exact HE.out i (by omega) h1 h2, (hbw.alloc (by omega) _).alloc (by simp; omega) _⟩
           case measure => simp [intOf]; omega)
    · go_wp2
      go_ret
      have hT : evsEq ea eb = true := evsEq_true (List.ext_getElem (by have := HN.out; omega) (fun i h1 h2 => HE.out i (by have := HN.out; omega) h1 h2))
      exact ⟨by rw [hT]; rfl, hbw⟩
theorem sameEvents_any (va vb : Value) (ea eb : List Ev) (w : World) (ha : EvsAt w va ea) (hb : EvsAt w vb eb) :
    Calls Try.prog 19 #[va, vb] w fun e w' => e = .returned (.bool (evsEq ea eb)) ∧ Below w.heap.size w w' := by
  by_cases h : ea.length = eb.length
  · exact sameEvents_eq va vb ea eb w ha hb h
  · rw [evsEq_false (fun e => h (by rw [e]))]
    exact sameEvents_len va vb ea eb w ha hb h
set_option maxHeartbeats 400000 in
theorem sameTxn_any (va vb : Value) (ta tb : Tx) (w : World) (ha : EvsAt w va ta.evs) (hb : EvsAt w vb tb.evs) :
    Calls Try.prog 14 #[.agg #[va, .bool ta.com], .agg #[vb, .bool tb.com]] w fun e w' => e = .returned (.bool (txEq ta tb)) ∧ Below w.heap.size w w' := by
  have hbl := fun o1 o2 => ((Below.refl w.heap.size w).alloc (Nat.le_refl _) o1).alloc (by simp) o2
  obtain ⟨na, aa, ca, rfl⟩ : ∃ n a c, va = .slice a n c := by obtain ⟨_, a, c, rfl, _⟩ := ha; exact ⟨_, _, _, rfl⟩
  obtain ⟨nb, ab, cb, rfl⟩ : ∃ n a c, vb = .slice a n c := by obtain ⟨_, a, c, rfl, _⟩ := hb; exact ⟨_, _, _, rfl⟩
  by_cases hc : ta.com = tb.com
  · have HT : Hid (txEq ta tb = evsEq ta.evs tb.evs) := by show _ = _; simp [txEq, hc]
    have hc' : (ta.com == tb.com) = true := by simp [hc]
    have HC : Hid (ta.com = tb.com) := hc
    clear hc
    go_enter Try.func14, Try.ntmps14
    go_wp2_with fail
    refine (sameEvents_any _ _ ta.evs tb.evs _ (ha.stay (hbl _ _)) (hb.stay (hbl _ _))).mono ?_
    rintro e w' ⟨rfl, hb1⟩
    go_wp2
    go_ret
    exact ⟨by rw [HT.out]; rfl, (hbl _ _).trans (hb1.mono (by simp; omega))⟩
  · have HT : Hid (txEq ta tb = false) := by show _ = _; simp [txEq, hc]
    have hc' : (ta.com == tb.com) = false := by simp [hc]
    clear hc
    go_enter Try.func14, Try.ntmps14
    go_wp2_with fail
    go_ret
    exact ⟨by rw [HT.out]; rfl, hbl _ _⟩
def rnw (es : List Ev) : Bool := es.all fun e => e.wr || e.ini
theorem rnw_take {es : List Ev} {k : Nat} (h : k < es.length) : rnw (es.take (k + 1)) = (rnw (es.take k) && (es[k].wr || es[k].ini)) := by
  unfold rnw
  rw [List.take_succ_eq_append_getElem h, List.all_append]
  simp
theorem rnw_false {es : List Ev} {k : Nat} (h : rnw (es.take k) = false) : rnw es = false := by
  rw [← List.take_append_drop k es]
  unfold rnw at *
  rw [List.all_append, h]
  rfl
set_option maxHeartbeats 400000 in
theorem readsNothing_any (va : Value) (ta : Tx) (w : World) (ha : EvsAt w va ta.evs) :
    Calls Try.prog 15 #[.agg #[va, .bool ta.com]] w fun e w' => e = .returned (.bool (rnw ta.evs)) ∧ Below w.heap.size w w' := by
  obtain ⟨ea, cm⟩ := ta
  simp only at ha
  obtain ⟨ha0, aa, ca, rfl, ha⟩ := ha
  have HA : Hid (∀ i (h : i < ea.length), ∃ b off, aa = some ⟨b, off, none⟩ ∧ EvAt w b (off + i * 4) ea[i]) := ha
  obtain ⟨n, hn⟩ : ∃ n, n = ea.length := ⟨_, rfl⟩
  rw [← hn]
  rw [← hn] at ha0
  have HN : Hid (n = ea.length) := hn
  clear ha hn
  unfold small at ha0
  have hb0 := fun o1 => ((Below.refl w.heap.size w).alloc (Nat.le_refl _) o1)
  go_enter Try.func15, Try.ntmps15
  go_wp2
  go_loopw [8] (fun i wr => ∃ k : Nat, k ≤ n ∧ i = .int .i64 k ∧ rnw (ea.take k) = true ∧ wr.cell? ⟨w.heap.size, 0, none⟩ = some (.slice aa n ca) ∧ Below w.heap.size w wr) (fun i _ => n - (intOf i).toNat)
  case atStart => exact ⟨0, by omega, rfl, rfl, by simp, hb0 _⟩
  case round =>
    obtain ⟨k, hk, rfl, heq, hce, hbw⟩ := hrel
    have HE : Hid (rnw (ea.take k) = true) := heq
    clear heq
    by_cases hlt : k < n
    · have hk1 : k < ea.length := by have := HN.out; omega
      obtain ⟨b1, o1, rfl, h1⟩ := HA.out k hk1
      have h1' := h1.stay hbw
      have HR : Hid (rnw (ea.take (k + 1)) = (ea[k].wr || ea[k].ini)) := by show _ = _; rw [rnw_take hk1, HE.out]; simp
      obtain ⟨e1, he1⟩ : ∃ e, e = ea[k] := ⟨_, rfl⟩
      rw [← he1] at h1 h1' HR
      clear he1
      obtain ⟨a0, a1, a2, a3, _, _⟩ := h1'
      have hsz := hbw.size
      have l1 := cell_lt a0
      have l2 := cell_lt hce
      go_wp2
      all_goals first
        | (go_ret
           have hF : rnw ea = false := rnw_false (k := k + 1) (by rw [HR.out]; simp_all)
           exact ⟨by rw [hF]; rfl, hbw.alloc (by omega) _⟩)
        | (go_roundw
           case rel => exact ⟨k + 1, by omega, by go_num, by rw [HR.out]; simp_all, cell_alloc hce _, hbw.alloc (by omega) _⟩
           case measure => simp [intOf]; omega)
    · go_wp2
      go_ret
      have hT : rnw ea = true := by have := HE.out; rwa [List.take_of_length_le (by have := HN.out; omega)] at this
      exact ⟨by rw [hT]; rfl, hbw⟩
end Go.Proofs.Qxb6000864a
