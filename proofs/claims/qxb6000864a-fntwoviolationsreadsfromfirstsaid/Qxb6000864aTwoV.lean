import Derived.Test.Qxb6000864aRaw
namespace Go.Proofs.Qxb6000864a
open Go.RowKit
/-- what has been laid so far: the slice values vs hold the sessions ss. -/
def Acc (w0 w : World) (vs : List Value) (ss : List (List Tx)) : Prop :=
  Below w0.heap.size w0 w ∧ vs.length = ss.length ∧ ∀ i (h : i < vs.length) (h' : i < ss.length), TxsAt w vs[i] ss[i]
theorem Acc.start (w : World) : Acc w w [] [] := ⟨Below.refl _ _, rfl, fun i h => absurd h (by simp)⟩
theorem Acc.stay {w0 w w' : World} {vs : List Value} {ss : List (List Tx)} (h : Acc w0 w vs ss) (hb : Below w.heap.size w w') : Acc w0 w' vs ss :=
  ⟨h.1.trans (hb.mono h.1.size), h.2.1, fun i h1 h2 => (h.2.2 i h1 h2).stay hb⟩
theorem Acc.snoc {w0 w : World} {vs : List Value} {ss : List (List Tx)} (h : Acc w0 w vs ss) {v : Value} {s : List Tx} (hs : TxsAt w v s) : Acc w0 w (vs ++ [v]) (ss ++ [s]) := by
  refine ⟨h.1, by simp [h.2.1], fun i h1 h2 => ?_⟩
  by_cases hi : i < vs.length
  · rw [List.getElem_append_left hi, List.getElem_append_left (by have := h.2.1; omega)]
    exact h.2.2 i hi _
  · have : i = vs.length := by simp at h1; omega
    subst this
    have e2 := h.2.1
    rw [List.getElem_concat_length rfl, List.getElem_append_right (by omega)]
    simp only [e2, Nat.sub_self, List.getElem_cons_zero]
    exact hs
def evCells (es : List Ev) : List Value := es.flatMap fun e => [.bool e.wr, .int .i64 e.key, .int .i64 e.num, .bool e.ini]
theorem evCells_get : ∀ (es : List Ev) (i : Nat) (h : i < es.length), (evCells es)[i * 4]? = some (.bool es[i].wr) ∧ (evCells es)[i * 4 + 1]? = some (.int .i64 es[i].key) ∧ (evCells es)[i * 4 + 2]? = some (.int .i64 es[i].num) ∧ (evCells es)[i * 4 + 3]? = some (.bool es[i].ini)
  | [], i, h => absurd h (by simp)
  | e :: r, 0, _ => by simp [evCells]
  | e :: r, i + 1, h => by
    have ih := evCells_get r i (by simpa using h)
    have e1 : (i + 1) * 4 = i * 4 + 4 := by omega
    have e2 : evCells (e :: r) = .bool e.wr :: .int .i64 e.key :: .int .i64 e.num :: .bool e.ini :: evCells r := by simp [evCells]
    rw [e1, e2]
    simpa using ih
theorem evs_alloc (w : World) (es : List Ev) (h1 : es.length ≤ small) (h2 : (es.all fun e => (Lit.int .i64 e.key).wf && (Lit.int .i64 e.num).wf) = true) :
    EvsAt (w.alloc (.cells (evCells es).toArray 56)) (.slice (some ⟨w.heap.size, 0, none⟩) es.length es.length) es := by
  refine ⟨h1, _, es.length, rfl, fun i hi => ⟨w.heap.size, 0, rfl, ?_⟩⟩
  obtain ⟨c0, c1, c2, c3⟩ := evCells_get es i hi
  rw [Nat.zero_add]
  have hok := List.all_eq_true.1 h2 es[i] (List.getElem_mem hi)
  simp only [Bool.and_eq_true] at hok
  exact ⟨by simpa using c0, by simpa using c1, by simpa using c2, by simpa using c3, hok.1, hok.2⟩
theorem txs_alloc1 (w : World) (t : Tx) {u : Value} (h : EvsAt w u t.evs) : TxsAt (w.alloc (.cells #[u, .bool t.com] 36)) (.slice (some ⟨w.heap.size, 0, none⟩) 1 1) [t] := by
  refine ⟨by simp [small], _, 1, rfl, fun i hi => ⟨w.heap.size, 0, u, rfl, ?_⟩⟩
  have : i = 0 := by simpa using hi
  subst this
  exact ⟨by simp, by simp, h.stay ((Below.refl _ _).alloc (Nat.le_refl _) _)⟩
theorem txs_alloc2 (w : World) (t1 t2 : Tx) {u1 u2 : Value} (h1 : EvsAt w u1 t1.evs) (h2 : EvsAt w u2 t2.evs) : TxsAt (w.alloc (.cells #[u1, .bool t1.com, u2, .bool t2.com] 36)) (.slice (some ⟨w.heap.size, 0, none⟩) 2 2) [t1, t2] := by
  refine ⟨by simp [small], _, 2, rfl, fun i hi => ?_⟩
  have hi2 : i < 2 := by simpa using hi
  match i, hi2 with
  | 0, _ => exact ⟨w.heap.size, 0, u1, rfl, by simp, by simp, h1.stay ((Below.refl _ _).alloc (Nat.le_refl _) _)⟩
  | 1, _ => exact ⟨w.heap.size, 0, u2, rfl, by simp, by simp, h2.stay ((Below.refl _ _).alloc (Nat.le_refl _) _)⟩
theorem hist_alloc {w0 w : World} {vs : List Value} {ss : List (List Tx)} (n : Nat) (hn : vs.length = n) (hs : n ≤ small) (h : Acc w0 w vs ss) :
    HistAt ((w.alloc (.cells vs.toArray 32)).alloc (.cells #[.slice (some ⟨w.heap.size, 0, none⟩) n n] 30)) (.pointer (some ⟨w.heap.size + 1, 0, none⟩)) ss ∧ Below w0.heap.size w0 ((w.alloc (.cells vs.toArray 32)).alloc (.cells #[.slice (some ⟨w.heap.size, 0, none⟩) n n] 30)) := by
  have hb : ∀ o1 o2, Below w.heap.size w ((w.alloc o1).alloc o2) := fun o1 o2 => ((Below.refl _ _).alloc (Nat.le_refl _) o1).alloc (by simp) o2
  refine ⟨⟨w.heap.size + 1, 0, .slice (some ⟨w.heap.size, 0, none⟩) n n, rfl, ?_, by have := h.2.1; omega, _, n, by rw [← h.2.1, hn], fun i hi => ⟨w.heap.size, 0, vs[i]'(by have := h.2.1; omega), rfl, ?_, ?_⟩⟩, h.1.trans ((hb _ _).mono h.1.size)⟩
  · simp
  · rw [Nat.zero_add]
    have hi' : i < vs.length := by have := h.2.1; omega
    simp [hi']
  · exact (h.2.2 i _ hi).stay (hb _ _)
theorem hist_alloc' {w0 w : World} {vs : List Value} {ss : List (List Tx)} (n : Nat) (hn : vs.length = n) (hs : n ≤ small) {B : Nat} (hB : w.heap.size = B) (h : Acc w0 w vs ss) :
    HistAt ((w.alloc (.cells vs.toArray 32)).alloc (.cells #[.slice (some ⟨B, 0, none⟩) n n] 30)) (.pointer (some ⟨B + 1, 0, none⟩)) ss ∧ Below w0.heap.size w0 ((w.alloc (.cells vs.toArray 32)).alloc (.cells #[.slice (some ⟨B, 0, none⟩) n n] 30)) := by
  subst hB
  exact hist_alloc n hn hs h
set_option maxHeartbeats 400000 in
theorem tvWrite (k n : Int) (w : World) :
    Calls Try.prog 33 #[.int .i64 k, .int .i64 n] w fun e w' => e = .returned (.agg #[.bool true, .int .i64 k, .int .i64 n, .bool false]) ∧ Below w.heap.size w w' := by
  go_enter Try.func33, Try.ntmps33
  go_wp2
  exact bodyPost_ret (v := .agg #[.bool true, .int .i64 k, .int .i64 n, .bool false]) (by simp [results, Try.results33, go_sem]) rfl ⟨rfl, (Below.refl _ _).alloc (Nat.le_refl _) _⟩
set_option maxHeartbeats 400000 in
theorem tvRead (k n : Int) (w : World) :
    Calls Try.prog 34 #[.int .i64 k, .int .i64 n] w fun e w' => e = .returned (.agg #[.bool false, .int .i64 k, .int .i64 n, .bool (n == 0)]) ∧ Below w.heap.size w w' := by
  go_enter Try.func34, Try.ntmps34
  go_wp2
  exact bodyPost_ret (v := .agg #[.bool false, .int .i64 k, .int .i64 n, .bool (n == 0)]) (by simp [results, Try.results34, go_sem]) rfl ⟨rfl, (Below.refl _ _).alloc (Nat.le_refl _) _⟩
set_option maxHeartbeats 400000 in
theorem tvTxn (a : Option Addr) (n c : Nat) (w : World) :
    Calls Try.prog 32 #[.slice a n c] w fun e w' => e = .returned (.agg #[.slice a n c, .bool true]) ∧ Below w.heap.size w w' := by
  go_enter Try.func32, Try.ntmps32
  go_wp2
  exact bodyPost_ret (v := .agg #[.slice a n c, .bool true]) (by simp [results, Try.results32, go_sem]) rfl ⟨rfl, (Below.refl _ _).alloc (Nat.le_refl _) _⟩

def tvSS : List (List Tx) := [[⟨[⟨false, 2, 39, false⟩], true⟩],
  [⟨[⟨true, 8, 1, false⟩, ⟨true, 6, 2, false⟩], true⟩],
  [⟨[⟨true, 4, 68, false⟩, ⟨true, 3, 69, false⟩], true⟩],
  [⟨[⟨true, 5, 4, false⟩, ⟨true, 4, 5, false⟩], true⟩, ⟨[⟨false, 3, 12, false⟩, ⟨true, 2, 19, false⟩], true⟩],
  [⟨[⟨true, 7, 97, false⟩], true⟩],
  [⟨[⟨true, 3, 29, false⟩, ⟨false, 5, 4, false⟩, ⟨true, 5, 30, false⟩], true⟩, ⟨[⟨false, 2, 33, false⟩, ⟨true, 2, 67, false⟩], true⟩],
  [⟨[⟨false, 3, 69, false⟩, ⟨true, 5, 74, false⟩], true⟩],
  [⟨[⟨true, 3, 26, false⟩], true⟩],
  [⟨[⟨true, 4, 92, false⟩], true⟩],
  [⟨[⟨false, 8, 1, false⟩, ⟨true, 3, 12, false⟩], true⟩],
  [⟨[⟨true, 5, 42, false⟩, ⟨false, 1, 34, false⟩, ⟨true, 8, 43, false⟩], true⟩],
  [⟨[⟨true, 3, 53, false⟩], true⟩],
  [⟨[⟨true, 2, 38, false⟩], true⟩],
  [⟨[⟨true, 6, 15, false⟩], true⟩, ⟨[⟨false, 5, 74, false⟩, ⟨false, 4, 5, false⟩, ⟨true, 4, 77, false⟩], true⟩],
  [⟨[⟨false, 5, 101, false⟩], true⟩],
  [⟨[⟨true, 5, 125, false⟩], true⟩],
  [⟨[⟨true, 1, 13, false⟩], true⟩, ⟨[⟨true, 2, 39, false⟩, ⟨false, 5, 30, false⟩, ⟨true, 5, 40, false⟩], true⟩],
  [⟨[⟨true, 1, 63, false⟩], true⟩],
  [⟨[⟨true, 5, 101, false⟩], true⟩],
  [⟨[⟨false, 8, 1, false⟩], true⟩, ⟨[⟨true, 2, 33, false⟩, ⟨false, 1, 0, true⟩, ⟨true, 1, 34, false⟩], true⟩]]

set_option maxRecDepth 100000 in
set_option maxHeartbeats 0 in
theorem tv_any (w : World) : Calls Try.prog 23 #[] w fun e w' =>
    ∃ p, e = .returned p ∧ HistAt w' p tvSS ∧ Below w.heap.size w w' := by
  have A : Hid (Acc w w [] []) := Acc.start w
  go_enter Try.func23, Try.ntmps23
  go_wp2_with fail
  refine (tvRead _ _ _).mono ?_
  rintro e w1 ⟨rfl, hb⟩
  have A2 : Hid (Acc w w1 _ _) := A.out.stay hb
  clear A; have A := A2; clear A2
  clear hb
  go_wp2_with fail
  refine (tvTxn _ _ _ _).mono ?_
  rintro e w2 ⟨rfl, hb⟩
  have hb2 : Below w1.heap.size w1 w2 := ((Below.refl _ _).alloc (Nat.le_refl _) _).trans (hb.mono (by simp))
  have A2 : Hid (Acc w w2 _ _) := A.out.stay hb2
  clear A; have A := A2; clear A2
  have E0 : Hid (EvsAt w2 (.slice (some ⟨w1.heap.size, 0, none⟩) 1 1) [⟨false, 2, 39, false⟩]) := (evs_alloc w1 [⟨false, 2, 39, false⟩] (by decide) (by decide)).stay hb
  clear hb hb2
  go_wp2_with fail
  refine (tvWrite _ _ _).mono ?_
  rintro e w3 ⟨rfl, hb⟩
  have hb2 : Below w2.heap.size w2 w3 := ((Below.refl _ _).alloc (Nat.le_refl _) _).trans (hb.mono (by simp))
  have S : TxsAt w3 (.slice (some ⟨w2.heap.size, 0, none⟩) 1 1) [⟨[⟨false, 2, 39, false⟩], true⟩] := (txs_alloc1 w2 (⟨[⟨false, 2, 39, false⟩], true⟩) E0.out).stay hb
  have A2 : Hid (Acc w w3 _ _) := (A.out.stay hb2).snoc S
  clear A S hb2 E0
  have A := A2; clear A2
  clear hb
  go_wp2_with fail
  refine (tvWrite _ _ _).mono ?_
  rintro e w4 ⟨rfl, hb⟩
  have A2 : Hid (Acc w w4 _ _) := A.out.stay hb
  clear A; have A := A2; clear A2
  clear hb
  go_wp2_with fail
  refine (tvTxn _ _ _ _).mono ?_
  rintro e w5 ⟨rfl, hb⟩
  have hb2 : Below w4.heap.size w4 w5 := ((Below.refl _ _).alloc (Nat.le_refl _) _).trans (hb.mono (by simp))
  have A2 : Hid (Acc w w5 _ _) := A.out.stay hb2
  clear A; have A := A2; clear A2
  have E0 : Hid (EvsAt w5 (.slice (some ⟨w4.heap.size, 0, none⟩) 2 2) [⟨true, 8, 1, false⟩, ⟨true, 6, 2, false⟩]) := (evs_alloc w4 [⟨true, 8, 1, false⟩, ⟨true, 6, 2, false⟩] (by decide) (by decide)).stay hb
  clear hb hb2
  go_wp2_with fail
  refine (tvWrite _ _ _).mono ?_
  rintro e w6 ⟨rfl, hb⟩
  have hb2 : Below w5.heap.size w5 w6 := ((Below.refl _ _).alloc (Nat.le_refl _) _).trans (hb.mono (by simp))
  have S : TxsAt w6 (.slice (some ⟨w5.heap.size, 0, none⟩) 1 1) [⟨[⟨true, 8, 1, false⟩, ⟨true, 6, 2, false⟩], true⟩] := (txs_alloc1 w5 (⟨[⟨true, 8, 1, false⟩, ⟨true, 6, 2, false⟩], true⟩) E0.out).stay hb
  have A2 : Hid (Acc w w6 _ _) := (A.out.stay hb2).snoc S
  clear A S hb2 E0
  have A := A2; clear A2
  clear hb
  go_wp2_with fail
  refine (tvWrite _ _ _).mono ?_
  rintro e w7 ⟨rfl, hb⟩
  have A2 : Hid (Acc w w7 _ _) := A.out.stay hb
  clear A; have A := A2; clear A2
  clear hb
  go_wp2_with fail
  refine (tvTxn _ _ _ _).mono ?_
  rintro e w8 ⟨rfl, hb⟩
  have hb2 : Below w7.heap.size w7 w8 := ((Below.refl _ _).alloc (Nat.le_refl _) _).trans (hb.mono (by simp))
  have A2 : Hid (Acc w w8 _ _) := A.out.stay hb2
  clear A; have A := A2; clear A2
  have E0 : Hid (EvsAt w8 (.slice (some ⟨w7.heap.size, 0, none⟩) 2 2) [⟨true, 4, 68, false⟩, ⟨true, 3, 69, false⟩]) := (evs_alloc w7 [⟨true, 4, 68, false⟩, ⟨true, 3, 69, false⟩] (by decide) (by decide)).stay hb
  clear hb hb2
  go_wp2_with fail
  refine (tvWrite _ _ _).mono ?_
  rintro e w9 ⟨rfl, hb⟩
  have hb2 : Below w8.heap.size w8 w9 := ((Below.refl _ _).alloc (Nat.le_refl _) _).trans (hb.mono (by simp))
  have S : TxsAt w9 (.slice (some ⟨w8.heap.size, 0, none⟩) 1 1) [⟨[⟨true, 4, 68, false⟩, ⟨true, 3, 69, false⟩], true⟩] := (txs_alloc1 w8 (⟨[⟨true, 4, 68, false⟩, ⟨true, 3, 69, false⟩], true⟩) E0.out).stay hb
  have A2 : Hid (Acc w w9 _ _) := (A.out.stay hb2).snoc S
  clear A S hb2 E0
  have A := A2; clear A2
  clear hb
  go_wp2_with fail
  refine (tvWrite _ _ _).mono ?_
  rintro e w10 ⟨rfl, hb⟩
  have A2 : Hid (Acc w w10 _ _) := A.out.stay hb
  clear A; have A := A2; clear A2
  clear hb
  go_wp2_with fail
  refine (tvTxn _ _ _ _).mono ?_
  rintro e w11 ⟨rfl, hb⟩
  have hb2 : Below w10.heap.size w10 w11 := ((Below.refl _ _).alloc (Nat.le_refl _) _).trans (hb.mono (by simp))
  have A2 : Hid (Acc w w11 _ _) := A.out.stay hb2
  clear A; have A := A2; clear A2
  have E0 : Hid (EvsAt w11 (.slice (some ⟨w10.heap.size, 0, none⟩) 2 2) [⟨true, 5, 4, false⟩, ⟨true, 4, 5, false⟩]) := (evs_alloc w10 [⟨true, 5, 4, false⟩, ⟨true, 4, 5, false⟩] (by decide) (by decide)).stay hb
  clear hb hb2
  go_wp2_with fail
  refine (tvRead _ _ _).mono ?_
  rintro e w12 ⟨rfl, hb⟩
  have A2 : Hid (Acc w w12 _ _) := A.out.stay hb
  clear A; have A := A2; clear A2
  have E02 : Hid (EvsAt w12 _ _) := E0.out.stay hb
  clear E0; have E0 := E02; clear E02
  clear hb
  go_wp2_with fail
  refine (tvWrite _ _ _).mono ?_
  rintro e w13 ⟨rfl, hb⟩
  have A2 : Hid (Acc w w13 _ _) := A.out.stay hb
  clear A; have A := A2; clear A2
  have E02 : Hid (EvsAt w13 _ _) := E0.out.stay hb
  clear E0; have E0 := E02; clear E02
  clear hb
  go_wp2_with fail
  refine (tvTxn _ _ _ _).mono ?_
  rintro e w14 ⟨rfl, hb⟩
  have hb2 : Below w13.heap.size w13 w14 := ((Below.refl _ _).alloc (Nat.le_refl _) _).trans (hb.mono (by simp))
  have A2 : Hid (Acc w w14 _ _) := A.out.stay hb2
  clear A; have A := A2; clear A2
  have E02 : Hid (EvsAt w14 _ _) := E0.out.stay hb2
  clear E0; have E0 := E02; clear E02
  have E1 : Hid (EvsAt w14 (.slice (some ⟨w13.heap.size, 0, none⟩) 2 2) [⟨false, 3, 12, false⟩, ⟨true, 2, 19, false⟩]) := (evs_alloc w13 [⟨false, 3, 12, false⟩, ⟨true, 2, 19, false⟩] (by decide) (by decide)).stay hb
  clear hb hb2
  go_wp2_with fail
  refine (tvWrite _ _ _).mono ?_
  rintro e w15 ⟨rfl, hb⟩
  have hb2 : Below w14.heap.size w14 w15 := ((Below.refl _ _).alloc (Nat.le_refl _) _).trans (hb.mono (by simp))
  have S : TxsAt w15 (.slice (some ⟨w14.heap.size, 0, none⟩) 2 2) [⟨[⟨true, 5, 4, false⟩, ⟨true, 4, 5, false⟩], true⟩, ⟨[⟨false, 3, 12, false⟩, ⟨true, 2, 19, false⟩], true⟩] := (txs_alloc2 w14 (⟨[⟨true, 5, 4, false⟩, ⟨true, 4, 5, false⟩], true⟩) (⟨[⟨false, 3, 12, false⟩, ⟨true, 2, 19, false⟩], true⟩) E0.out E1.out).stay hb
  have A2 : Hid (Acc w w15 _ _) := (A.out.stay hb2).snoc S
  clear A S hb2 E0 E1
  have A := A2; clear A2
  clear hb
  go_wp2_with fail
  refine (tvTxn _ _ _ _).mono ?_
  rintro e w16 ⟨rfl, hb⟩
  have hb2 : Below w15.heap.size w15 w16 := ((Below.refl _ _).alloc (Nat.le_refl _) _).trans (hb.mono (by simp))
  have A2 : Hid (Acc w w16 _ _) := A.out.stay hb2
  clear A; have A := A2; clear A2
  have E0 : Hid (EvsAt w16 (.slice (some ⟨w15.heap.size, 0, none⟩) 1 1) [⟨true, 7, 97, false⟩]) := (evs_alloc w15 [⟨true, 7, 97, false⟩] (by decide) (by decide)).stay hb
  clear hb hb2
  go_wp2_with fail
  refine (tvWrite _ _ _).mono ?_
  rintro e w17 ⟨rfl, hb⟩
  have hb2 : Below w16.heap.size w16 w17 := ((Below.refl _ _).alloc (Nat.le_refl _) _).trans (hb.mono (by simp))
  have S : TxsAt w17 (.slice (some ⟨w16.heap.size, 0, none⟩) 1 1) [⟨[⟨true, 7, 97, false⟩], true⟩] := (txs_alloc1 w16 (⟨[⟨true, 7, 97, false⟩], true⟩) E0.out).stay hb
  have A2 : Hid (Acc w w17 _ _) := (A.out.stay hb2).snoc S
  clear A S hb2 E0
  have A := A2; clear A2
  clear hb
  go_wp2_with fail
  refine (tvRead _ _ _).mono ?_
  rintro e w18 ⟨rfl, hb⟩
  have A2 : Hid (Acc w w18 _ _) := A.out.stay hb
  clear A; have A := A2; clear A2
  clear hb
  go_wp2_with fail
  refine (tvWrite _ _ _).mono ?_
  rintro e w19 ⟨rfl, hb⟩
  have A2 : Hid (Acc w w19 _ _) := A.out.stay hb
  clear A; have A := A2; clear A2
  clear hb
  go_wp2_with fail
  refine (tvTxn _ _ _ _).mono ?_
  rintro e w20 ⟨rfl, hb⟩
  have hb2 : Below w19.heap.size w19 w20 := ((Below.refl _ _).alloc (Nat.le_refl _) _).trans (hb.mono (by simp))
  have A2 : Hid (Acc w w20 _ _) := A.out.stay hb2
  clear A; have A := A2; clear A2
  have E0 : Hid (EvsAt w20 (.slice (some ⟨w19.heap.size, 0, none⟩) 3 3) [⟨true, 3, 29, false⟩, ⟨false, 5, 4, false⟩, ⟨true, 5, 30, false⟩]) := (evs_alloc w19 [⟨true, 3, 29, false⟩, ⟨false, 5, 4, false⟩, ⟨true, 5, 30, false⟩] (by decide) (by decide)).stay hb
  clear hb hb2
  go_wp2_with fail
  refine (tvRead _ _ _).mono ?_
  rintro e w21 ⟨rfl, hb⟩
  have A2 : Hid (Acc w w21 _ _) := A.out.stay hb
  clear A; have A := A2; clear A2
  have E02 : Hid (EvsAt w21 _ _) := E0.out.stay hb
  clear E0; have E0 := E02; clear E02
  clear hb
  go_wp2_with fail
  refine (tvWrite _ _ _).mono ?_
  rintro e w22 ⟨rfl, hb⟩
  have A2 : Hid (Acc w w22 _ _) := A.out.stay hb
  clear A; have A := A2; clear A2
  have E02 : Hid (EvsAt w22 _ _) := E0.out.stay hb
  clear E0; have E0 := E02; clear E02
  clear hb
  go_wp2_with fail
  refine (tvTxn _ _ _ _).mono ?_
  rintro e w23 ⟨rfl, hb⟩
  have hb2 : Below w22.heap.size w22 w23 := ((Below.refl _ _).alloc (Nat.le_refl _) _).trans (hb.mono (by simp))
  have A2 : Hid (Acc w w23 _ _) := A.out.stay hb2
  clear A; have A := A2; clear A2
  have E02 : Hid (EvsAt w23 _ _) := E0.out.stay hb2
  clear E0; have E0 := E02; clear E02
  have E1 : Hid (EvsAt w23 (.slice (some ⟨w22.heap.size, 0, none⟩) 2 2) [⟨false, 2, 33, false⟩, ⟨true, 2, 67, false⟩]) := (evs_alloc w22 [⟨false, 2, 33, false⟩, ⟨true, 2, 67, false⟩] (by decide) (by decide)).stay hb
  clear hb hb2
  go_wp2_with fail
  refine (tvRead _ _ _).mono ?_
  rintro e w24 ⟨rfl, hb⟩
  have hb2 : Below w23.heap.size w23 w24 := ((Below.refl _ _).alloc (Nat.le_refl _) _).trans (hb.mono (by simp))
  have S : TxsAt w24 (.slice (some ⟨w23.heap.size, 0, none⟩) 2 2) [⟨[⟨true, 3, 29, false⟩, ⟨false, 5, 4, false⟩, ⟨true, 5, 30, false⟩], true⟩, ⟨[⟨false, 2, 33, false⟩, ⟨true, 2, 67, false⟩], true⟩] := (txs_alloc2 w23 (⟨[⟨true, 3, 29, false⟩, ⟨false, 5, 4, false⟩, ⟨true, 5, 30, false⟩], true⟩) (⟨[⟨false, 2, 33, false⟩, ⟨true, 2, 67, false⟩], true⟩) E0.out E1.out).stay hb
  have A2 : Hid (Acc w w24 _ _) := (A.out.stay hb2).snoc S
  clear A S hb2 E0 E1
  have A := A2; clear A2
  clear hb
  go_wp2_with fail
  refine (tvWrite _ _ _).mono ?_
  rintro e w25 ⟨rfl, hb⟩
  have A2 : Hid (Acc w w25 _ _) := A.out.stay hb
  clear A; have A := A2; clear A2
  clear hb
  go_wp2_with fail
  refine (tvTxn _ _ _ _).mono ?_
  rintro e w26 ⟨rfl, hb⟩
  have hb2 : Below w25.heap.size w25 w26 := ((Below.refl _ _).alloc (Nat.le_refl _) _).trans (hb.mono (by simp))
  have A2 : Hid (Acc w w26 _ _) := A.out.stay hb2
  clear A; have A := A2; clear A2
  have E0 : Hid (EvsAt w26 (.slice (some ⟨w25.heap.size, 0, none⟩) 2 2) [⟨false, 3, 69, false⟩, ⟨true, 5, 74, false⟩]) := (evs_alloc w25 [⟨false, 3, 69, false⟩, ⟨true, 5, 74, false⟩] (by decide) (by decide)).stay hb
  clear hb hb2
  go_wp2_with fail
  refine (tvWrite _ _ _).mono ?_
  rintro e w27 ⟨rfl, hb⟩
  have hb2 : Below w26.heap.size w26 w27 := ((Below.refl _ _).alloc (Nat.le_refl _) _).trans (hb.mono (by simp))
  have S : TxsAt w27 (.slice (some ⟨w26.heap.size, 0, none⟩) 1 1) [⟨[⟨false, 3, 69, false⟩, ⟨true, 5, 74, false⟩], true⟩] := (txs_alloc1 w26 (⟨[⟨false, 3, 69, false⟩, ⟨true, 5, 74, false⟩], true⟩) E0.out).stay hb
  have A2 : Hid (Acc w w27 _ _) := (A.out.stay hb2).snoc S
  clear A S hb2 E0
  have A := A2; clear A2
  clear hb
  go_wp2_with fail
  refine (tvTxn _ _ _ _).mono ?_
  rintro e w28 ⟨rfl, hb⟩
  have hb2 : Below w27.heap.size w27 w28 := ((Below.refl _ _).alloc (Nat.le_refl _) _).trans (hb.mono (by simp))
  have A2 : Hid (Acc w w28 _ _) := A.out.stay hb2
  clear A; have A := A2; clear A2
  have E0 : Hid (EvsAt w28 (.slice (some ⟨w27.heap.size, 0, none⟩) 1 1) [⟨true, 3, 26, false⟩]) := (evs_alloc w27 [⟨true, 3, 26, false⟩] (by decide) (by decide)).stay hb
  clear hb hb2
  go_wp2_with fail
  refine (tvWrite _ _ _).mono ?_
  rintro e w29 ⟨rfl, hb⟩
  have hb2 : Below w28.heap.size w28 w29 := ((Below.refl _ _).alloc (Nat.le_refl _) _).trans (hb.mono (by simp))
  have S : TxsAt w29 (.slice (some ⟨w28.heap.size, 0, none⟩) 1 1) [⟨[⟨true, 3, 26, false⟩], true⟩] := (txs_alloc1 w28 (⟨[⟨true, 3, 26, false⟩], true⟩) E0.out).stay hb
  have A2 : Hid (Acc w w29 _ _) := (A.out.stay hb2).snoc S
  clear A S hb2 E0
  have A := A2; clear A2
  clear hb
  go_wp2_with fail
  refine (tvTxn _ _ _ _).mono ?_
  rintro e w30 ⟨rfl, hb⟩
  have hb2 : Below w29.heap.size w29 w30 := ((Below.refl _ _).alloc (Nat.le_refl _) _).trans (hb.mono (by simp))
  have A2 : Hid (Acc w w30 _ _) := A.out.stay hb2
  clear A; have A := A2; clear A2
  have E0 : Hid (EvsAt w30 (.slice (some ⟨w29.heap.size, 0, none⟩) 1 1) [⟨true, 4, 92, false⟩]) := (evs_alloc w29 [⟨true, 4, 92, false⟩] (by decide) (by decide)).stay hb
  clear hb hb2
  go_wp2_with fail
  refine (tvRead _ _ _).mono ?_
  rintro e w31 ⟨rfl, hb⟩
  have hb2 : Below w30.heap.size w30 w31 := ((Below.refl _ _).alloc (Nat.le_refl _) _).trans (hb.mono (by simp))
  have S : TxsAt w31 (.slice (some ⟨w30.heap.size, 0, none⟩) 1 1) [⟨[⟨true, 4, 92, false⟩], true⟩] := (txs_alloc1 w30 (⟨[⟨true, 4, 92, false⟩], true⟩) E0.out).stay hb
  have A2 : Hid (Acc w w31 _ _) := (A.out.stay hb2).snoc S
  clear A S hb2 E0
  have A := A2; clear A2
  clear hb
  go_wp2_with fail
  refine (tvWrite _ _ _).mono ?_
  rintro e w32 ⟨rfl, hb⟩
  have A2 : Hid (Acc w w32 _ _) := A.out.stay hb
  clear A; have A := A2; clear A2
  clear hb
  go_wp2_with fail
  refine (tvTxn _ _ _ _).mono ?_
  rintro e w33 ⟨rfl, hb⟩
  have hb2 : Below w32.heap.size w32 w33 := ((Below.refl _ _).alloc (Nat.le_refl _) _).trans (hb.mono (by simp))
  have A2 : Hid (Acc w w33 _ _) := A.out.stay hb2
  clear A; have A := A2; clear A2
  have E0 : Hid (EvsAt w33 (.slice (some ⟨w32.heap.size, 0, none⟩) 2 2) [⟨false, 8, 1, false⟩, ⟨true, 3, 12, false⟩]) := (evs_alloc w32 [⟨false, 8, 1, false⟩, ⟨true, 3, 12, false⟩] (by decide) (by decide)).stay hb
  clear hb hb2
  go_wp2_with fail
  refine (tvWrite _ _ _).mono ?_
  rintro e w34 ⟨rfl, hb⟩
  have hb2 : Below w33.heap.size w33 w34 := ((Below.refl _ _).alloc (Nat.le_refl _) _).trans (hb.mono (by simp))
  have S : TxsAt w34 (.slice (some ⟨w33.heap.size, 0, none⟩) 1 1) [⟨[⟨false, 8, 1, false⟩, ⟨true, 3, 12, false⟩], true⟩] := (txs_alloc1 w33 (⟨[⟨false, 8, 1, false⟩, ⟨true, 3, 12, false⟩], true⟩) E0.out).stay hb
  have A2 : Hid (Acc w w34 _ _) := (A.out.stay hb2).snoc S
  clear A S hb2 E0
  have A := A2; clear A2
  clear hb
  go_wp2_with fail
  refine (tvRead _ _ _).mono ?_
  rintro e w35 ⟨rfl, hb⟩
  have A2 : Hid (Acc w w35 _ _) := A.out.stay hb
  clear A; have A := A2; clear A2
  clear hb
  go_wp2_with fail
  refine (tvWrite _ _ _).mono ?_
  rintro e w36 ⟨rfl, hb⟩
  have A2 : Hid (Acc w w36 _ _) := A.out.stay hb
  clear A; have A := A2; clear A2
  clear hb
  go_wp2_with fail
  refine (tvTxn _ _ _ _).mono ?_
  rintro e w37 ⟨rfl, hb⟩
  have hb2 : Below w36.heap.size w36 w37 := ((Below.refl _ _).alloc (Nat.le_refl _) _).trans (hb.mono (by simp))
  have A2 : Hid (Acc w w37 _ _) := A.out.stay hb2
  clear A; have A := A2; clear A2
  have E0 : Hid (EvsAt w37 (.slice (some ⟨w36.heap.size, 0, none⟩) 3 3) [⟨true, 5, 42, false⟩, ⟨false, 1, 34, false⟩, ⟨true, 8, 43, false⟩]) := (evs_alloc w36 [⟨true, 5, 42, false⟩, ⟨false, 1, 34, false⟩, ⟨true, 8, 43, false⟩] (by decide) (by decide)).stay hb
  clear hb hb2
  go_wp2_with fail
  refine (tvWrite _ _ _).mono ?_
  rintro e w38 ⟨rfl, hb⟩
  have hb2 : Below w37.heap.size w37 w38 := ((Below.refl _ _).alloc (Nat.le_refl _) _).trans (hb.mono (by simp))
  have S : TxsAt w38 (.slice (some ⟨w37.heap.size, 0, none⟩) 1 1) [⟨[⟨true, 5, 42, false⟩, ⟨false, 1, 34, false⟩, ⟨true, 8, 43, false⟩], true⟩] := (txs_alloc1 w37 (⟨[⟨true, 5, 42, false⟩, ⟨false, 1, 34, false⟩, ⟨true, 8, 43, false⟩], true⟩) E0.out).stay hb
  have A2 : Hid (Acc w w38 _ _) := (A.out.stay hb2).snoc S
  clear A S hb2 E0
  have A := A2; clear A2
  clear hb
  go_wp2_with fail
  refine (tvTxn _ _ _ _).mono ?_
  rintro e w39 ⟨rfl, hb⟩
  have hb2 : Below w38.heap.size w38 w39 := ((Below.refl _ _).alloc (Nat.le_refl _) _).trans (hb.mono (by simp))
  have A2 : Hid (Acc w w39 _ _) := A.out.stay hb2
  clear A; have A := A2; clear A2
  have E0 : Hid (EvsAt w39 (.slice (some ⟨w38.heap.size, 0, none⟩) 1 1) [⟨true, 3, 53, false⟩]) := (evs_alloc w38 [⟨true, 3, 53, false⟩] (by decide) (by decide)).stay hb
  clear hb hb2
  go_wp2_with fail
  refine (tvWrite _ _ _).mono ?_
  rintro e w40 ⟨rfl, hb⟩
  have hb2 : Below w39.heap.size w39 w40 := ((Below.refl _ _).alloc (Nat.le_refl _) _).trans (hb.mono (by simp))
  have S : TxsAt w40 (.slice (some ⟨w39.heap.size, 0, none⟩) 1 1) [⟨[⟨true, 3, 53, false⟩], true⟩] := (txs_alloc1 w39 (⟨[⟨true, 3, 53, false⟩], true⟩) E0.out).stay hb
  have A2 : Hid (Acc w w40 _ _) := (A.out.stay hb2).snoc S
  clear A S hb2 E0
  have A := A2; clear A2
  clear hb
  go_wp2_with fail
  refine (tvTxn _ _ _ _).mono ?_
  rintro e w41 ⟨rfl, hb⟩
  have hb2 : Below w40.heap.size w40 w41 := ((Below.refl _ _).alloc (Nat.le_refl _) _).trans (hb.mono (by simp))
  have A2 : Hid (Acc w w41 _ _) := A.out.stay hb2
  clear A; have A := A2; clear A2
  have E0 : Hid (EvsAt w41 (.slice (some ⟨w40.heap.size, 0, none⟩) 1 1) [⟨true, 2, 38, false⟩]) := (evs_alloc w40 [⟨true, 2, 38, false⟩] (by decide) (by decide)).stay hb
  clear hb hb2
  go_wp2_with fail
  refine (tvWrite _ _ _).mono ?_
  rintro e w42 ⟨rfl, hb⟩
  have hb2 : Below w41.heap.size w41 w42 := ((Below.refl _ _).alloc (Nat.le_refl _) _).trans (hb.mono (by simp))
  have S : TxsAt w42 (.slice (some ⟨w41.heap.size, 0, none⟩) 1 1) [⟨[⟨true, 2, 38, false⟩], true⟩] := (txs_alloc1 w41 (⟨[⟨true, 2, 38, false⟩], true⟩) E0.out).stay hb
  have A2 : Hid (Acc w w42 _ _) := (A.out.stay hb2).snoc S
  clear A S hb2 E0
  have A := A2; clear A2
  clear hb
  go_wp2_with fail
  refine (tvTxn _ _ _ _).mono ?_
  rintro e w43 ⟨rfl, hb⟩
  have hb2 : Below w42.heap.size w42 w43 := ((Below.refl _ _).alloc (Nat.le_refl _) _).trans (hb.mono (by simp))
  have A2 : Hid (Acc w w43 _ _) := A.out.stay hb2
  clear A; have A := A2; clear A2
  have E0 : Hid (EvsAt w43 (.slice (some ⟨w42.heap.size, 0, none⟩) 1 1) [⟨true, 6, 15, false⟩]) := (evs_alloc w42 [⟨true, 6, 15, false⟩] (by decide) (by decide)).stay hb
  clear hb hb2
  go_wp2_with fail
  refine (tvRead _ _ _).mono ?_
  rintro e w44 ⟨rfl, hb⟩
  have A2 : Hid (Acc w w44 _ _) := A.out.stay hb
  clear A; have A := A2; clear A2
  have E02 : Hid (EvsAt w44 _ _) := E0.out.stay hb
  clear E0; have E0 := E02; clear E02
  clear hb
  go_wp2_with fail
  refine (tvRead _ _ _).mono ?_
  rintro e w45 ⟨rfl, hb⟩
  have A2 : Hid (Acc w w45 _ _) := A.out.stay hb
  clear A; have A := A2; clear A2
  have E02 : Hid (EvsAt w45 _ _) := E0.out.stay hb
  clear E0; have E0 := E02; clear E02
  clear hb
  go_wp2_with fail
  refine (tvWrite _ _ _).mono ?_
  rintro e w46 ⟨rfl, hb⟩
  have A2 : Hid (Acc w w46 _ _) := A.out.stay hb
  clear A; have A := A2; clear A2
  have E02 : Hid (EvsAt w46 _ _) := E0.out.stay hb
  clear E0; have E0 := E02; clear E02
  clear hb
  go_wp2_with fail
  refine (tvTxn _ _ _ _).mono ?_
  rintro e w47 ⟨rfl, hb⟩
  have hb2 : Below w46.heap.size w46 w47 := ((Below.refl _ _).alloc (Nat.le_refl _) _).trans (hb.mono (by simp))
  have A2 : Hid (Acc w w47 _ _) := A.out.stay hb2
  clear A; have A := A2; clear A2
  have E02 : Hid (EvsAt w47 _ _) := E0.out.stay hb2
  clear E0; have E0 := E02; clear E02
  have E1 : Hid (EvsAt w47 (.slice (some ⟨w46.heap.size, 0, none⟩) 3 3) [⟨false, 5, 74, false⟩, ⟨false, 4, 5, false⟩, ⟨true, 4, 77, false⟩]) := (evs_alloc w46 [⟨false, 5, 74, false⟩, ⟨false, 4, 5, false⟩, ⟨true, 4, 77, false⟩] (by decide) (by decide)).stay hb
  clear hb hb2
  go_wp2_with fail
  refine (tvRead _ _ _).mono ?_
  rintro e w48 ⟨rfl, hb⟩
  have hb2 : Below w47.heap.size w47 w48 := ((Below.refl _ _).alloc (Nat.le_refl _) _).trans (hb.mono (by simp))
  have S : TxsAt w48 (.slice (some ⟨w47.heap.size, 0, none⟩) 2 2) [⟨[⟨true, 6, 15, false⟩], true⟩, ⟨[⟨false, 5, 74, false⟩, ⟨false, 4, 5, false⟩, ⟨true, 4, 77, false⟩], true⟩] := (txs_alloc2 w47 (⟨[⟨true, 6, 15, false⟩], true⟩) (⟨[⟨false, 5, 74, false⟩, ⟨false, 4, 5, false⟩, ⟨true, 4, 77, false⟩], true⟩) E0.out E1.out).stay hb
  have A2 : Hid (Acc w w48 _ _) := (A.out.stay hb2).snoc S
  clear A S hb2 E0 E1
  have A := A2; clear A2
  clear hb
  go_wp2_with fail
  refine (tvTxn _ _ _ _).mono ?_
  rintro e w49 ⟨rfl, hb⟩
  have hb2 : Below w48.heap.size w48 w49 := ((Below.refl _ _).alloc (Nat.le_refl _) _).trans (hb.mono (by simp))
  have A2 : Hid (Acc w w49 _ _) := A.out.stay hb2
  clear A; have A := A2; clear A2
  have E0 : Hid (EvsAt w49 (.slice (some ⟨w48.heap.size, 0, none⟩) 1 1) [⟨false, 5, 101, false⟩]) := (evs_alloc w48 [⟨false, 5, 101, false⟩] (by decide) (by decide)).stay hb
  clear hb hb2
  go_wp2_with fail
  refine (tvWrite _ _ _).mono ?_
  rintro e w50 ⟨rfl, hb⟩
  have hb2 : Below w49.heap.size w49 w50 := ((Below.refl _ _).alloc (Nat.le_refl _) _).trans (hb.mono (by simp))
  have S : TxsAt w50 (.slice (some ⟨w49.heap.size, 0, none⟩) 1 1) [⟨[⟨false, 5, 101, false⟩], true⟩] := (txs_alloc1 w49 (⟨[⟨false, 5, 101, false⟩], true⟩) E0.out).stay hb
  have A2 : Hid (Acc w w50 _ _) := (A.out.stay hb2).snoc S
  clear A S hb2 E0
  have A := A2; clear A2
  clear hb
  go_wp2_with fail
  refine (tvTxn _ _ _ _).mono ?_
  rintro e w51 ⟨rfl, hb⟩
  have hb2 : Below w50.heap.size w50 w51 := ((Below.refl _ _).alloc (Nat.le_refl _) _).trans (hb.mono (by simp))
  have A2 : Hid (Acc w w51 _ _) := A.out.stay hb2
  clear A; have A := A2; clear A2
  have E0 : Hid (EvsAt w51 (.slice (some ⟨w50.heap.size, 0, none⟩) 1 1) [⟨true, 5, 125, false⟩]) := (evs_alloc w50 [⟨true, 5, 125, false⟩] (by decide) (by decide)).stay hb
  clear hb hb2
  go_wp2_with fail
  refine (tvWrite _ _ _).mono ?_
  rintro e w52 ⟨rfl, hb⟩
  have hb2 : Below w51.heap.size w51 w52 := ((Below.refl _ _).alloc (Nat.le_refl _) _).trans (hb.mono (by simp))
  have S : TxsAt w52 (.slice (some ⟨w51.heap.size, 0, none⟩) 1 1) [⟨[⟨true, 5, 125, false⟩], true⟩] := (txs_alloc1 w51 (⟨[⟨true, 5, 125, false⟩], true⟩) E0.out).stay hb
  have A2 : Hid (Acc w w52 _ _) := (A.out.stay hb2).snoc S
  clear A S hb2 E0
  have A := A2; clear A2
  clear hb
  go_wp2_with fail
  refine (tvTxn _ _ _ _).mono ?_
  rintro e w53 ⟨rfl, hb⟩
  have hb2 : Below w52.heap.size w52 w53 := ((Below.refl _ _).alloc (Nat.le_refl _) _).trans (hb.mono (by simp))
  have A2 : Hid (Acc w w53 _ _) := A.out.stay hb2
  clear A; have A := A2; clear A2
  have E0 : Hid (EvsAt w53 (.slice (some ⟨w52.heap.size, 0, none⟩) 1 1) [⟨true, 1, 13, false⟩]) := (evs_alloc w52 [⟨true, 1, 13, false⟩] (by decide) (by decide)).stay hb
  clear hb hb2
  go_wp2_with fail
  refine (tvWrite _ _ _).mono ?_
  rintro e w54 ⟨rfl, hb⟩
  have A2 : Hid (Acc w w54 _ _) := A.out.stay hb
  clear A; have A := A2; clear A2
  have E02 : Hid (EvsAt w54 _ _) := E0.out.stay hb
  clear E0; have E0 := E02; clear E02
  clear hb
  go_wp2_with fail
  refine (tvRead _ _ _).mono ?_
  rintro e w55 ⟨rfl, hb⟩
  have A2 : Hid (Acc w w55 _ _) := A.out.stay hb
  clear A; have A := A2; clear A2
  have E02 : Hid (EvsAt w55 _ _) := E0.out.stay hb
  clear E0; have E0 := E02; clear E02
  clear hb
  go_wp2_with fail
  refine (tvWrite _ _ _).mono ?_
  rintro e w56 ⟨rfl, hb⟩
  have A2 : Hid (Acc w w56 _ _) := A.out.stay hb
  clear A; have A := A2; clear A2
  have E02 : Hid (EvsAt w56 _ _) := E0.out.stay hb
  clear E0; have E0 := E02; clear E02
  clear hb
  go_wp2_with fail
  refine (tvTxn _ _ _ _).mono ?_
  rintro e w57 ⟨rfl, hb⟩
  have hb2 : Below w56.heap.size w56 w57 := ((Below.refl _ _).alloc (Nat.le_refl _) _).trans (hb.mono (by simp))
  have A2 : Hid (Acc w w57 _ _) := A.out.stay hb2
  clear A; have A := A2; clear A2
  have E02 : Hid (EvsAt w57 _ _) := E0.out.stay hb2
  clear E0; have E0 := E02; clear E02
  have E1 : Hid (EvsAt w57 (.slice (some ⟨w56.heap.size, 0, none⟩) 3 3) [⟨true, 2, 39, false⟩, ⟨false, 5, 30, false⟩, ⟨true, 5, 40, false⟩]) := (evs_alloc w56 [⟨true, 2, 39, false⟩, ⟨false, 5, 30, false⟩, ⟨true, 5, 40, false⟩] (by decide) (by decide)).stay hb
  clear hb hb2
  go_wp2_with fail
  refine (tvWrite _ _ _).mono ?_
  rintro e w58 ⟨rfl, hb⟩
  have hb2 : Below w57.heap.size w57 w58 := ((Below.refl _ _).alloc (Nat.le_refl _) _).trans (hb.mono (by simp))
  have S : TxsAt w58 (.slice (some ⟨w57.heap.size, 0, none⟩) 2 2) [⟨[⟨true, 1, 13, false⟩], true⟩, ⟨[⟨true, 2, 39, false⟩, ⟨false, 5, 30, false⟩, ⟨true, 5, 40, false⟩], true⟩] := (txs_alloc2 w57 (⟨[⟨true, 1, 13, false⟩], true⟩) (⟨[⟨true, 2, 39, false⟩, ⟨false, 5, 30, false⟩, ⟨true, 5, 40, false⟩], true⟩) E0.out E1.out).stay hb
  have A2 : Hid (Acc w w58 _ _) := (A.out.stay hb2).snoc S
  clear A S hb2 E0 E1
  have A := A2; clear A2
  clear hb
  go_wp2_with fail
  refine (tvTxn _ _ _ _).mono ?_
  rintro e w59 ⟨rfl, hb⟩
  have hb2 : Below w58.heap.size w58 w59 := ((Below.refl _ _).alloc (Nat.le_refl _) _).trans (hb.mono (by simp))
  have A2 : Hid (Acc w w59 _ _) := A.out.stay hb2
  clear A; have A := A2; clear A2
  have E0 : Hid (EvsAt w59 (.slice (some ⟨w58.heap.size, 0, none⟩) 1 1) [⟨true, 1, 63, false⟩]) := (evs_alloc w58 [⟨true, 1, 63, false⟩] (by decide) (by decide)).stay hb
  clear hb hb2
  go_wp2_with fail
  refine (tvWrite _ _ _).mono ?_
  rintro e w60 ⟨rfl, hb⟩
  have hb2 : Below w59.heap.size w59 w60 := ((Below.refl _ _).alloc (Nat.le_refl _) _).trans (hb.mono (by simp))
  have S : TxsAt w60 (.slice (some ⟨w59.heap.size, 0, none⟩) 1 1) [⟨[⟨true, 1, 63, false⟩], true⟩] := (txs_alloc1 w59 (⟨[⟨true, 1, 63, false⟩], true⟩) E0.out).stay hb
  have A2 : Hid (Acc w w60 _ _) := (A.out.stay hb2).snoc S
  clear A S hb2 E0
  have A := A2; clear A2
  clear hb
  go_wp2_with fail
  refine (tvTxn _ _ _ _).mono ?_
  rintro e w61 ⟨rfl, hb⟩
  have hb2 : Below w60.heap.size w60 w61 := ((Below.refl _ _).alloc (Nat.le_refl _) _).trans (hb.mono (by simp))
  have A2 : Hid (Acc w w61 _ _) := A.out.stay hb2
  clear A; have A := A2; clear A2
  have E0 : Hid (EvsAt w61 (.slice (some ⟨w60.heap.size, 0, none⟩) 1 1) [⟨true, 5, 101, false⟩]) := (evs_alloc w60 [⟨true, 5, 101, false⟩] (by decide) (by decide)).stay hb
  clear hb hb2
  go_wp2_with fail
  refine (tvRead _ _ _).mono ?_
  rintro e w62 ⟨rfl, hb⟩
  have hb2 : Below w61.heap.size w61 w62 := ((Below.refl _ _).alloc (Nat.le_refl _) _).trans (hb.mono (by simp))
  have S : TxsAt w62 (.slice (some ⟨w61.heap.size, 0, none⟩) 1 1) [⟨[⟨true, 5, 101, false⟩], true⟩] := (txs_alloc1 w61 (⟨[⟨true, 5, 101, false⟩], true⟩) E0.out).stay hb
  have A2 : Hid (Acc w w62 _ _) := (A.out.stay hb2).snoc S
  clear A S hb2 E0
  have A := A2; clear A2
  clear hb
  go_wp2_with fail
  refine (tvTxn _ _ _ _).mono ?_
  rintro e w63 ⟨rfl, hb⟩
  have hb2 : Below w62.heap.size w62 w63 := ((Below.refl _ _).alloc (Nat.le_refl _) _).trans (hb.mono (by simp))
  have A2 : Hid (Acc w w63 _ _) := A.out.stay hb2
  clear A; have A := A2; clear A2
  have E0 : Hid (EvsAt w63 (.slice (some ⟨w62.heap.size, 0, none⟩) 1 1) [⟨false, 8, 1, false⟩]) := (evs_alloc w62 [⟨false, 8, 1, false⟩] (by decide) (by decide)).stay hb
  clear hb hb2
  go_wp2_with fail
  refine (tvWrite _ _ _).mono ?_
  rintro e w64 ⟨rfl, hb⟩
  have A2 : Hid (Acc w w64 _ _) := A.out.stay hb
  clear A; have A := A2; clear A2
  have E02 : Hid (EvsAt w64 _ _) := E0.out.stay hb
  clear E0; have E0 := E02; clear E02
  clear hb
  go_wp2_with fail
  refine (tvRead _ _ _).mono ?_
  rintro e w65 ⟨rfl, hb⟩
  have A2 : Hid (Acc w w65 _ _) := A.out.stay hb
  clear A; have A := A2; clear A2
  have E02 : Hid (EvsAt w65 _ _) := E0.out.stay hb
  clear E0; have E0 := E02; clear E02
  clear hb
  go_wp2_with fail
  refine (tvWrite _ _ _).mono ?_
  rintro e w66 ⟨rfl, hb⟩
  have A2 : Hid (Acc w w66 _ _) := A.out.stay hb
  clear A; have A := A2; clear A2
  have E02 : Hid (EvsAt w66 _ _) := E0.out.stay hb
  clear E0; have E0 := E02; clear E02
  clear hb
  go_wp2_with fail
  refine (tvTxn _ _ _ _).mono ?_
  rintro e w67 ⟨rfl, hb⟩
  have hb2 : Below w66.heap.size w66 w67 := ((Below.refl _ _).alloc (Nat.le_refl _) _).trans (hb.mono (by simp))
  have A2 : Hid (Acc w w67 _ _) := A.out.stay hb2
  clear A; have A := A2; clear A2
  have E02 : Hid (EvsAt w67 _ _) := E0.out.stay hb2
  clear E0; have E0 := E02; clear E02
  have E1 : Hid (EvsAt w67 (.slice (some ⟨w66.heap.size, 0, none⟩) 3 3) [⟨true, 2, 33, false⟩, ⟨false, 1, 0, true⟩, ⟨true, 1, 34, false⟩]) := (evs_alloc w66 [⟨true, 2, 33, false⟩, ⟨false, 1, 0, true⟩, ⟨true, 1, 34, false⟩] (by decide) (by decide)).stay hb
  clear hb hb2
  go_wp2_with fail
  go_ret
  have S := txs_alloc2 w67 (⟨[⟨false, 8, 1, false⟩], true⟩) (⟨[⟨true, 2, 33, false⟩, ⟨false, 1, 0, true⟩, ⟨true, 1, 34, false⟩], true⟩) E0.out E1.out
  have A2 : Acc w _ _ tvSS := (A.out.stay ((Below.refl _ _).alloc (Nat.le_refl _) _)).snoc S
  obtain ⟨h1, h2⟩ := hist_alloc' (B := w67.heap.size + 1) 20 rfl (by decide) (by simp) A2
  exact ⟨.pointer (some ⟨w67.heap.size + 1 + 1, 0, none⟩), rfl, h1, h2⟩

end Go.Proofs.Qxb6000864a
