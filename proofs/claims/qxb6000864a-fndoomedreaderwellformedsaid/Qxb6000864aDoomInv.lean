import Derived.Test.Qxb6000864aDoomThirteen
namespace Go.Proofs.Qxb6000864a
open Go.RowKit
/-! ### what holds whatever is turned in the blocks X -/
structure Off (X : Nat → Prop) (w w' : World) : Prop where
  os : w'.os = w.os
  tape : w'.tape = w.tape
  output : w'.output = w.output
  size : w.heap.size ≤ w'.heap.size
  block : ∀ b, b < w.heap.size → ¬ X b → w'.heap[b]? = w.heap[b]?
theorem Off.refl (X : Nat → Prop) (w : World) : Off X w w := ⟨rfl, rfl, rfl, Nat.le_refl _, fun _ _ _ => rfl⟩
theorem Off.of_below {X : Nat → Prop} {w w' : World} (h : Below w.heap.size w w') : Off X w w' := ⟨h.os, h.tape, h.output, h.size, fun b hb _ => h.block b hb⟩
theorem Off.step {X X' : Nat → Prop} {w w1 w2 : World} (h : Off X w w1) (h' : Off X' w1 w2) (hX : ∀ b, X' b → X b ∨ w.heap.size ≤ b) : Off X w w2 :=
  ⟨h'.os.trans h.os, h'.tape.trans h.tape, h'.output.trans h.output, Nat.le_trans h.size h'.size, fun b hb hx => by
    rw [h'.block b (Nat.lt_of_lt_of_le hb h.size) (fun hx' => by rcases hX b hx' with h1 | h1
                                                                 · exact hx h1
                                                                 · omega)]
    exact h.block b hb hx⟩
def Safe (X : Nat → Prop) (p : World → Prop) (w : World) : Prop := ∀ w', Off X w w' → p w'
theorem Safe.out {X : Nat → Prop} {p : World → Prop} {w : World} (h : Safe X p w) : p w := h w (Off.refl _ _)
theorem Safe.move {X X' : Nat → Prop} {p : World → Prop} {w w1 : World} (h : Safe X p w) (ho : Off X w w1) (hX : ∀ b, X' b → X b ∨ w.heap.size ≤ b) : Safe X' p w1 := fun _ h' => h _ (ho.step h' hX)
theorem Off.below {X : Nat → Prop} {w w' : World} {B : Nat} (h : Off X w w') (hB : B ≤ w.heap.size) (hX : ∀ b, X b → B ≤ b) : Below B w w' :=
  ⟨h.os, h.tape, h.output, h.size, fun b hb => h.block b (by omega) (fun hx => by have := hX b hx; omega)⟩
theorem Safe.txs {X : Nat → Prop} {w w1 : World} {u : Value} {s : List Tx} (h : TxsAt w u s) (hb : Below w.heap.size w w1) (hX : ∀ b, X b → w.heap.size ≤ b) : Safe X (fun w => TxsAt w u s) w1 := fun _ h' =>
  h.stay (hb.trans (h'.below hb.size hX))
theorem Safe.evsFr {X : Nat → Prop} {lo : Nat} {w : World} {u : Value} {s : List Ev} (h : EvsFr lo w u s) (hX : ∀ b, X b → b < lo) : Safe X (fun w => EvsAt w u s) w := fun w' h' =>
  (h.keep (fun b h1 h2 => h'.block b h2 (fun hx => by have := hX b hx; omega))).at
theorem safe_txs2 {X : Nat → Prop} {w : World} {B : Nat} {u1 u2 : Value} {t1 t2 : Tx} (hB : w.heap[B]? = some (.cells #[u1, .bool t1.com, u2, .bool t2.com] 36 (0, 0))) (hX : ¬ X B)
    (h1 : Safe X (fun w => EvsAt w u1 t1.evs) w) (h2 : Safe X (fun w => EvsAt w u2 t2.evs) w) : Safe X (fun w => TxsAt w (.slice (some ⟨B, 0, none⟩) 2 2) [t1, t2]) w := by
  intro w' ho
  have hlt : B < w.heap.size := (Array.getElem?_eq_some_iff.1 hB).1
  have hB' := (ho.block B hlt hX).trans hB
  refine ⟨by simp [small], _, 2, rfl, fun i hi => ?_⟩
  have hi2 : i < 2 := by simpa using hi
  match i, hi2 with
  | 0, _ => exact ⟨B, 0, u1, rfl, by rw [cell_of_row w' B _ _ _ _ hB']; rfl, by rw [cell_of_row w' B _ _ _ _ hB']; rfl, h1 w' ho⟩
  | 1, _ => exact ⟨B, 0, u2, rfl, by rw [cell_of_row w' B _ _ _ _ hB']; rfl, by rw [cell_of_row w' B _ _ _ _ hB']; rfl, h2 w' ho⟩
theorem own_off {X : Nat → Prop} {w w' : World} {bs n sz : Nat} {e : TypeId} {z : Value} {xs : List Value} (h : w.ownsRow bs e sz z n xs) (ho : Off X w w') (hX : ∀ b, z.ownBlock = some b → ¬ X b) : w'.ownsRow bs e sz z n xs := by
  refine ⟨h.1, ?_⟩
  rcases h.2 with hn | ⟨g, cap, cur, rfl, hb, hgg, rest⟩
  · exact .inl hn
  · refine .inr ⟨g, cap, cur, rfl, hb, ?_, rest⟩
    rw [ho.block g (Array.getElem?_eq_some_iff.1 hgg).1 (hX g rfl)]
    exact hgg
/-! ### rows of events -/
def evC (es : List Ev) : List Value := es.flatMap fun e => [.bool e.wr, .int .i64 e.key, .int .i64 e.num, .bool e.ini]
theorem evC_get : ∀ (es : List Ev) (i : Nat) (h : i < es.length), (evC es)[i * 4]? = some (.bool es[i].wr) ∧ (evC es)[i * 4 + 1]? = some (.int .i64 es[i].key) ∧ (evC es)[i * 4 + 2]? = some (.int .i64 es[i].num) ∧ (evC es)[i * 4 + 3]? = some (.bool es[i].ini)
  | [], i, h => absurd h (by simp)
  | e :: r, 0, _ => by simp [evC]
  | e :: r, i + 1, h => by
    have ih := evC_get r i (by simpa using h)
    have e1 : (i + 1) * 4 = i * 4 + 4 := by omega
    have e2 : evC (e :: r) = .bool e.wr :: .int .i64 e.key :: .int .i64 e.num :: .bool e.ini :: evC r := by simp [evC]
    rw [e1, e2]
    simpa using ih
theorem evC_snoc (es : List Ev) (e : Ev) : evC (es ++ [e]) = evC es ++ [.bool e.wr, .int .i64 e.key, .int .i64 e.num, .bool e.ini] := by simp [evC]
theorem own_evs {w : World} {bs n : Nat} {z : Value} {es : List Ev} (h : w.ownsRow bs 56 4 z n (evC es)) (hn : n = es.length) (hs : n ≤ small) (hok : ∀ e ∈ es, okEv e = true) : EvsAt w z es := by
  subst hn
  rcases h.2 with ⟨rfl, h0⟩ | ⟨g, cap, cur, rfl, hb, hgg, hc1, hc2, hc3, hc4⟩
  · have : es = [] := List.length_eq_zero_iff.1 h0
    subst this
    exact ⟨hs, none, 0, rfl, fun i hi => absurd hi (by simp)⟩
  · refine ⟨hs, _, cap, rfl, fun i hi => ⟨g, 0, rfl, ?_⟩⟩
    obtain ⟨c0, c1, c2, c3⟩ := evC_get es i hi
    have hk := hok es[i] (List.getElem_mem hi)
    unfold okEv at hk
    simp only [Bool.and_eq_true] at hk
    rw [Nat.zero_add]
    exact ⟨by rw [h.cellAt _ (by omega)]; exact c0, by rw [h.cellAt _ (by omega)]; exact c1, by rw [h.cellAt _ (by omega)]; exact c2, by rw [h.cellAt _ (by omega)]; exact c3, hk.1, hk.2⟩
/-! ### the history that DoomedReader lays -/
def cS : List (List Tx) := [[⟨[evWr 2 1, evWr 3 1], true⟩], [⟨[evWr 1 2, evWr 2 3], true⟩], [⟨[evWr 1 4], true⟩]]
def blS (i : Nat) : List Tx := [⟨[evWr 4 ((i : Int) + 1), evWr (10 + (i : Int)) 1], true⟩]
def fst (k : Nat) : List Ev := (List.range k).map fun (i : Nat) => evRd (10 + (i : Int)) 1
def drPre (k : Nat) : List (List Tx) := cS ++ (List.range k).map blS
def rdS (k : Nat) : List Tx := [⟨fst k, true⟩, ⟨[evRd 1 4, evRd 3 0], true⟩]
def drPost : List (List Tx) := [[⟨[evWr 5 1], true⟩], [⟨[evWr 6 1], true⟩], [⟨[evRd 5 1, evRd 6 0], true⟩], [⟨[evRd 6 1, evRd 5 0], true⟩]]
def drSS (k : Nat) : List (List Tx) := drPre k ++ (rdS k :: drPost)
theorem drPre_len (k : Nat) : (drPre k).length = 3 + k := by simp [drPre, cS]; omega
theorem drPre_succ (k : Nat) : drPre (k + 1) = drPre k ++ [blS k] := by simp [drPre, List.range_succ]
theorem fst_succ (k : Nat) : fst (k + 1) = fst k ++ [evRd (10 + (k : Int)) 1] := by simp [fst, List.range_succ]
theorem fst_len (k : Nat) : (fst k).length = k := by simp [fst]
theorem fst_ok {k : Nat} (hk : k ≤ 65536) : ∀ e ∈ fst k, okEv e = true := by
  intro e he
  obtain ⟨i, hi, rfl⟩ := List.mem_map.1 he
  have := List.mem_range.1 hi
  unfold okEv evRd
  simp only [Bool.and_eq_true]
  exact ⟨WalkArith.wf_i64 (by omega), WalkArith.wf_i64 (by omega)⟩
/-- while the loop runs: ks sessions behind the first three, kf events in 'first' (z). -/
def DInv (w0 : World) (hb ks kf : Nat) (z : Value) (w : World) : Prop :=
  ∃ gb cap vs, w.cell? ⟨hb, 0, none⟩ = some (.slice (some ⟨gb, 0, none⟩) (3 + ks) cap) ∧ w.frozen? ⟨hb, 0, none⟩ = false ∧ w.ownsRow w0.heap.size 32 1 (.slice (some ⟨gb, 0, none⟩) (3 + ks) cap) (3 + ks) vs ∧
    w.ownsRow w0.heap.size 56 4 z kf (evC (fst kf)) ∧ hb ≠ gb ∧ z.ownBlock ≠ some hb ∧ z.ownBlock ≠ some gb ∧ w0.heap.size ≤ hb ∧ Below w0.heap.size w0 w ∧
    ∀ (j : Nat) v s, vs[j]? = some v → (drPre ks)[j]? = some s → Safe (fun b => b = hb ∨ b = gb ∨ z.ownBlock = some b) (fun w => TxsAt w v s) w
theorem DInv.stay {w0 w w' : World} {hb ks kf : Nat} {z : Value} (h : DInv w0 hb ks kf z w) (hbw : Below w.heap.size w w') : DInv w0 hb ks kf z w' := by
  obtain ⟨gb, cap, vs, h1, h2, h3, h4, h5, h6, h7, h8, h9, h10⟩ := h
  have hlt := cell_lt h1
  simp only at hlt
  refine ⟨gb, cap, vs, cell_stay hbw h1, by rw [World.frozen?_of_block (hbw.block hb hlt)]; exact h2, own_off h3 (Off.of_below (X := fun _ => False) hbw) (fun _ _ h => h), own_off h4 (Off.of_below (X := fun _ => False) hbw) (fun _ _ h => h), h5, h6, h7, h8, h9.trans (hbw.mono h9.size), fun j v s hv hs => (h10 j v s hv hs).move (Off.of_below hbw) (fun b hb => .inl hb)⟩
theorem grew_dinv {w0 w w1 : World} {hb gb k kf cap : Nat} {z u : Value} {vs : List Value} (h1 : w.cell? ⟨hb, 0, none⟩ = some (.slice (some ⟨gb, 0, none⟩) (3 + k) cap)) (h3 : w.ownsRow w0.heap.size 32 1 (.slice (some ⟨gb, 0, none⟩) (3 + k) cap) (3 + k) vs)
    (h4 : w.ownsRow w0.heap.size 56 4 z kf (evC (fst kf))) (h5 : hb ≠ gb) (h6 : z.ownBlock ≠ some hb) (h7 : z.ownBlock ≠ some gb) (h8 : w0.heap.size ≤ hb) (h9 : Below w0.heap.size w0 w)
    (h10 : ∀ (j : Nat) v s, vs[j]? = some v → (drPre k)[j]? = some s → Safe (fun b => b = hb ∨ b = gb ∨ z.ownBlock = some b) (fun w => TxsAt w v s) w)
    (hG : Grew w hb gb w0.heap.size (3 + k) 1 vs [u] (fun w1 => TxsFr w.heap.size w1 u (blS k)) w1) : DInv w0 hb (k + 1) kf z w1 := by
  obtain ⟨g, cap', H, c1, f1, o1, hg, hH, hH', os, tape, output, size, blk, hp⟩ := hG
  have hlt := cell_lt h1
  simp only at hlt
  have hgb := h3.lt gb rfl
  have ho : Off (fun b => b = hb ∨ b = gb ∨ z.ownBlock = some b) w w1 := ⟨os, tape, output, size, fun b hb1 hx => blk b hb1 (fun e => hx (.inl e)) (fun e => hx (.inr (.inl e)))⟩
  have ho2 : Off (fun b => b = hb ∨ b = gb) w w1 := ⟨os, tape, output, size, fun b hb1 hx => blk b hb1 (fun e => hx (.inl e)) (fun e => hx (.inr e))⟩
  have hzl : ∀ b, z.ownBlock = some b → b < w.heap.size := fun b hb => (h4.lt b hb).2
  have hgh : hb ≠ g := by
    rcases hg with rfl | hg
    · exact h5
    · omega
  have hzg : z.ownBlock ≠ some g := by
    rcases hg with rfl | hg
    · exact h7
    · intro e
      have := hzl g e
      omega
  refine ⟨g, cap', vs ++ [u], c1, f1, o1, own_off h4 ho2 (fun b hb1 hx => ?_), hgh, h6, hzg, h8, h9.trans (ho2.below h9.size (fun b hx => ?_)), fun j v s hv hs => ?_⟩
  · rcases hx with rfl | rfl
    · exact h6 hb1
    · exact h7 hb1
  · rcases hx with rfl | rfl
    · exact h8
    · exact hgb.1
  · have hl : vs.length = 3 + k := by have := h3.1; omega
    by_cases hj : j < vs.length
    · rw [List.getElem?_append_left hj] at hv
      rw [drPre_succ, List.getElem?_append_left (by rw [drPre_len]; omega)] at hs
      refine (h10 j v s hv hs).move ho fun b hx => ?_
      rcases hx with rfl | rfl | hx
      · exact .inl (.inl rfl)
      · rcases hg with rfl | hg
        · exact .inl (.inr (.inl rfl))
        · exact .inr (by omega)
      · exact .inl (.inr (.inr hx))
    · have hje : j = vs.length := by
        have := (List.getElem?_eq_some_iff.1 hv).1
        simp at this
        omega
      subst hje
      rw [List.getElem?_append_right (Nat.le_refl _)] at hv
      rw [drPre_succ, List.getElem?_append_right (by rw [drPre_len]; omega), drPre_len, hl, Nat.sub_self] at hs
      simp at hv hs
      subst hv hs
      intro w' hw'
      refine (hp w' fun b hb1 hb2 => hw'.block b (by omega) fun hx => ?_).at
      rcases hx with rfl | rfl | hx
      · omega
      · rcases hg with rfl | hg <;> omega
      · have := hzl b hx
        omega
/-- 'first' grows by an event. -/
theorem app_dinv {w0 w w1 : World} {hb k g c : Nat} {z : Value} (h : DInv w0 hb (k + 1) k z w) (hown : w1.ownsRow w0.heap.size 56 4 (.slice (some ⟨g, 0, none⟩) (k + 1) c) (k + 1) (evC (fst (k + 1)))) (hg : w.grownBy w1 z.ownBlock) (hat : z.ownBlock = some g ∨ g = w.heap.size) :
    DInv w0 hb (k + 1) (k + 1) (.slice (some ⟨g, 0, none⟩) (k + 1) c) w1 := by
  obtain ⟨gb, cap, vs, h1, h2, h3, h4, h5, h6, h7, h8, h9, h10⟩ := h
  have hlt := cell_lt h1
  simp only at hlt
  have hgb := h3.lt gb rfl
  have n1 : some hb ≠ z.ownBlock := fun e => h6 e.symm
  have e1 : hb ≠ g := by
    rintro rfl
    rcases hat with hat | hat
    · exact h6 hat
    · omega
  have e2 : gb ≠ g := by
    rintro rfl
    rcases hat with hat | hat
    · exact h7 hat
    · omega
  have ho : Off (fun b => b = hb ∨ b = gb ∨ z.ownBlock = some b) w w1 := ⟨hg.os, hg.tape, hg.output, hg.size, fun b hb1 hx => hg.block b hb1 (fun e => hx (.inr (.inr e.symm)))⟩
  have ho2 : Off (fun b => z.ownBlock = some b) w w1 := ⟨hg.os, hg.tape, hg.output, hg.size, fun b hb1 hx => hg.block b hb1 (fun e => hx e.symm)⟩
  refine ⟨gb, cap, vs, by rw [hg.cell_far _ hlt n1]; exact h1, by rw [hg.frozen_far _ hlt n1]; exact h2, own_off h3 ho2 (fun b hb1 hx => ?_), hown, h5, fun e => e1 (by simpa [Value.ownBlock] using e.symm), fun e => e2 (by simpa [Value.ownBlock] using e.symm), h8, h9.trans (ho2.below h9.size (fun b hx => (h4.lt b hx).1)), fun j v s hv hs => (h10 j v s hv hs).move ho fun b hx => ?_⟩
  · simp [Value.ownBlock] at hb1
    subst hb1
    exact h7 hx
  · rcases hx with rfl | rfl | hx
    · exact .inl (.inl rfl)
    · exact .inl (.inr (.inl rfl))
    · simp [Value.ownBlock] at hx
      subst hx
      rcases hat with hat | hat
      · exact .inl (.inr (.inr hat))
      · exact .inr (by omega)
/-- the end: the whole history lies there. -/
theorem done_dinv {w0 w w1 : World} {hb gb k cap rn rc : Nat} {ra : Option Addr} {u1 u2 u3 u4 : Value} {vs : List Value} (hk : k ≤ 65536) (h3 : w.ownsRow w0.heap.size 32 1 (.slice (some ⟨gb, 0, none⟩) (3 + k) cap) (3 + k) vs)
    (h8 : w0.heap.size ≤ hb) (h9 : Below w0.heap.size w0 w)
    (h10 : ∀ (j : Nat) v s, vs[j]? = some v → (drPre k)[j]? = some s → Safe (fun b => b = hb ∨ b = gb) (fun w => TxsAt w v s) w) (hr : Safe (fun b => b = hb ∨ b = gb) (fun w => TxsAt w (.slice ra rn rc) (rdS k)) w)
    (hG : Grew w hb gb w0.heap.size (3 + k) 5 vs [.slice ra rn rc, u1, u2, u3, u4] (fun w1 => TxsFr w.heap.size w1 u1 [⟨[evWr 5 1], true⟩] ∧ TxsFr w.heap.size w1 u2 [⟨[evWr 6 1], true⟩] ∧ TxsFr w.heap.size w1 u3 [⟨[evRd 5 1, evRd 6 0], true⟩] ∧ TxsFr w.heap.size w1 u4 [⟨[evRd 6 1, evRd 5 0], true⟩]) w1) :
    HistAt w1 (.pointer (some ⟨hb, 0, none⟩)) (drSS k) ∧ Below w0.heap.size w0 w1 := by
  obtain ⟨g, cap', H, c1, f1, o1, hg, hH, hH', os, tape, output, size, blk, hp⟩ := hG
  have hgb := h3.lt gb rfl
  have ho2 : Off (fun b => b = hb ∨ b = gb) w w1 := ⟨os, tape, output, size, fun b hb1 hx => blk b hb1 (fun e => hx (.inl e)) (fun e => hx (.inr e))⟩
  have hl : vs.length = 3 + k := by have := h3.1; omega
  obtain ⟨p1, p2, p3, p4⟩ := hp w1 (fun _ _ _ => rfl)
  have hlen : (drSS k).length = 3 + k + 5 := by simp [drSS, drPre_len, drPost]
  refine ⟨⟨hb, 0, _, rfl, c1, by rw [hlen]; unfold small; omega, _, cap', by rw [hlen], fun i hi => ?_⟩, h9.trans (ho2.below h9.size (fun b hx => ?_))⟩
  · have hi' : i < 3 + k + 5 := by omega
    have hcell := o1.cellAt i (by omega)
    have key : ∃ u, (vs ++ [.slice ra rn rc, u1, u2, u3, u4])[i]? = some u ∧ TxsAt w1 u (drSS k)[i] := by
      have hgs : (drSS k)[i]? = some (drSS k)[i] := List.getElem?_eq_getElem hi
      generalize (drSS k)[i] = s at hgs ⊢
      by_cases hj : i < vs.length
      · refine ⟨vs[i], by rw [List.getElem?_append_left hj, List.getElem?_eq_getElem hj], ?_⟩
        unfold drSS at hgs
        rw [List.getElem?_append_left (by rw [drPre_len]; omega)] at hgs
        exact h10 i _ _ (List.getElem?_eq_getElem hj) hgs w1 ho2
      · unfold drSS at hgs
        rw [List.getElem?_append_right (by rw [drPre_len]; omega), drPre_len, ← hl] at hgs
        rw [List.getElem?_append_right (by omega)]
        have hi5 : i - vs.length < 5 := by omega
        generalize i - vs.length = j at hgs hi5
        match j, hi5 with
        | 0, _ => cases hgs; exact ⟨_, rfl, hr w1 ho2⟩
        | 1, _ => cases hgs; exact ⟨_, rfl, p1.at⟩
        | 2, _ => cases hgs; exact ⟨_, rfl, p2.at⟩
        | 3, _ => cases hgs; exact ⟨_, rfl, p3.at⟩
        | 4, _ => cases hgs; exact ⟨_, rfl, p4.at⟩
    obtain ⟨u, hu, ht⟩ := key
    exact ⟨g, 0, u, rfl, by rw [Nat.zero_add, hcell]; exact hu, ht⟩
  · rcases hx with rfl | rfl
    · exact h8
    · exact hgb.1
end Go.Proofs.Qxb6000864a
