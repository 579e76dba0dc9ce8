import Derived.Test.Qxb6000864aFrom
import Derived.Deep.LoopGhost
import Derived.Deep.OwnRows
import Derived.Deep.AppendLies
namespace Go.Proofs.Qxb6000864a
open Go.RowKit
/-- a fold over the first n elements, the index at hand. -/
def upto {α β : Type} (f : Nat → α → β → β) (l : List α) (b : β) : Nat → β
  | 0 => b
  | n + 1 => match l[n]? with
    | some a => f n a (upto f l b n)
    | none => upto f l b n
theorem upto_succ {α β : Type} (f : Nat → α → β → β) (l : List α) (b : β) {n : Nat} (h : n < l.length) : upto f l b (n + 1) = f n l[n] (upto f l b n) := by
  show (match l[n]? with | some a => f n a (upto f l b n) | none => upto f l b n) = _
  rw [List.getElem?_eq_getElem h]
def upd {β : Type} (f : Int × Int → β) (p : Int × Int) (v : β) : Int × Int → β := fun q => if p = q then v else f q
def wr1 (i j : Nat) (es : List Ev) (f : Int × Int → Int × Int) (k : Nat) : Int × Int → Int × Int :=
  upto (fun _ e f => if e.wr = true then upd f (e.key, e.num) ((i : Int) + 1, (j : Int) + 1) else f) es f k
def wr2 (i : Nat) (s : List Tx) (f : Int × Int → Int × Int) (j : Nat) : Int × Int → Int × Int :=
  upto (fun j t f => wr1 i j t.evs f t.evs.length) s f j
def wr3 (ss : List (List Tx)) (i : Nat) : Int × Int → Int × Int :=
  upto (fun i s f => wr2 i s f s.length) ss (fun _ => (0, 0)) i
theorem ok_small {i j : Nat} (hi : i ≤ 1048576) (hj : j ≤ 1048576) : okP ((i : Int) + 1, (j : Int) + 1) :=
  ⟨WalkArith.wf_i64 (by simp only; omega), WalkArith.wf_i64 (by simp only; omega)⟩
/-- what holds of the map 'writer' while it is filled: it lies in block b, says f, and every answer is a pair of int64. -/
def MapF (w : World) (b : Nat) (f : Int × Int → Int × Int) : Prop :=
  (∃ m, MapIs w b m ∧ ∀ p, getm m p (.agg #[.int .i64 0, .int .i64 0]) = .agg #[.int .i64 (f p).1, .int .i64 (f p).2]) ∧ ∀ p, okP (f p)
theorem MapF.alloc {w : World} {b : Nat} {f : Int × Int → Int × Int} (h : MapF w b f) (o : Obj) : MapF (w.alloc o) b f := by
  obtain ⟨⟨m, h1, h2⟩, h3⟩ := h
  exact ⟨⟨m, h1.alloc o, h2⟩, h3⟩
theorem MapF.lt {w : World} {b : Nat} {f : Int × Int → Int × Int} (h : MapF w b f) : b < w.heap.size := by
  obtain ⟨⟨m, h1, h2⟩, h3⟩ := h
  exact h1.lt
theorem MapF.put_step {w2 : World} {b : Nat} {f : Int × Int → Int × Int} {m : List ((Int × Int) × Value)} {p v : Int × Int} (hm : MapIs w2 b (putm m p (.agg #[.int .i64 v.1, .int .i64 v.2])))
    (hg : ∀ p, getm m p (.agg #[.int .i64 0, .int .i64 0]) = .agg #[.int .i64 (f p).1, .int .i64 (f p).2]) (hok : ∀ p, okP (f p)) (hv : okP v) : MapF w2 b (upd f p v) := by
  refine ⟨⟨_, hm, fun q => ?_⟩, fun q => ?_⟩
  · rw [getm_put]
    unfold upd
    split
    · rfl
    · exact hg q
  · unfold upd
    split
    · exact hv
    · exact hok q
theorem MapF.made (w : World) (o : Obj) : MapF ((w.alloc (.map #[] 0)).alloc o) w.heap.size (fun _ => (0, 0)) :=
  ⟨⟨[], (MapIs.made w).alloc o, fun _ => rfl⟩, fun _ => show okP (0, 0) from ⟨by decide, by decide⟩⟩

theorem MapF.wr {w : World} {b bw : Nat} {f : Int × Int → Int × Int} (h : MapF w b f) (hc : w.cell? ⟨bw, 0, none⟩ = some (.map (some b))) : WrIs w bw b f := by
  obtain ⟨⟨m, h1, h2⟩, h3⟩ := h
  exact ⟨hc, ⟨m, h1, fun p _ => h2 p⟩, h3⟩
theorem cell_grown {w w' : World} {row : Option Nat} {a : Addr} {v : Value} (hg : w.grownBy w' row) (hne : some a.block ≠ row) (h : w.cell? a = some v) : w'.cell? a = some v := by
  rw [World.cell?_of_block (hg.block a.block (cell_lt h) hne)]; exact h

theorem _root_.Go.World.grownBy.andBelow {a b c : World} {row : Option Nat} (h : World.grownBy a b row) (k : Below b.heap.size b c) : World.grownBy a c row :=
  ⟨k.os.trans h.os, k.tape.trans h.tape, k.output.trans h.output, Nat.le_trans h.size k.size, fun i hi hr => (k.block i (Nat.lt_of_lt_of_le hi h.size)).trans (h.block i hi hr)⟩
/-- a map that is a set: block b says F. -/
def MapB (w : World) (b : Nat) (F : Int × Int → Bool) : Prop := ∃ m, MapIs w b m ∧ ∀ p, getm m p (.bool false) = .bool (F p)
theorem MapB.made (w : World) : MapB (w.alloc (.map #[] 0)) w.heap.size (fun _ => false) := ⟨[], MapIs.made w, fun _ => rfl⟩
theorem MapB.lt {w : World} {b : Nat} {F : Int × Int → Bool} (h : MapB w b F) : b < w.heap.size := by
  obtain ⟨m, h1, h2⟩ := h
  exact h1.lt
theorem MapB.alloc {w : World} {b : Nat} {F : Int × Int → Bool} (h : MapB w b F) (o : Obj) : MapB (w.alloc o) b F := by
  obtain ⟨m, h1, h2⟩ := h
  exact ⟨m, h1.alloc o, h2⟩
theorem MapB.below {w w' : World} {B b : Nat} {F : Int × Int → Bool} (h : MapB w b F) (hw : Below B w w') (hb : b < B) : MapB w' b F := by
  obtain ⟨m, h1, h2⟩ := h
  exact ⟨m, h1.below hw hb, h2⟩
theorem MapB.kept {w w' : World} {row : Option Nat} {b : Nat} {F : Int × Int → Bool} (h : MapB w b F) (hg : w.grownBy w' row) (hne : some b ≠ row) : MapB w' b F := by
  obtain ⟨m, h1, h2⟩ := h
  exact ⟨m, h1.kept hg hne, h2⟩
theorem MapIs.ok {w : World} {b : Nat} {m : List ((Int × Int) × Value)} (h : MapIs w b m) {p : Int × Int} (hp : p ∈ m.map (·.1)) : okP p := by
  obtain ⟨_, _, _, _, _, hok, _⟩ := h
  obtain ⟨q, hq, rfl⟩ := List.mem_map.1 hp
  exact hok q hq
theorem MapB.look {w : World} {b : Nat} {F : Int × Int → Bool} (h : MapB w b F) {x y : Int} (hp : okP (x, y)) :
    (Instr.lookup 62 (.map (some b)) (.agg #[.int .i64 x, .int .i64 y]) false).run Try.prog w = .ok (.bool (F (x, y))) w := by
  obtain ⟨m, h1, h2⟩ := h
  have := h1.look law59 keys59 Try.underlying62 (zero4 w) hp
  rw [h2] at this
  exact this
theorem MapB.put_step {w2 : World} {b : Nat} {F : Int × Int → Bool} {m : List ((Int × Int) × Value)} {p : Int × Int} (hm : MapIs w2 b (putm m p (.bool true))) (hg : ∀ p, getm m p (.bool false) = .bool (F p)) : MapB w2 b (upd F p true) := by
  refine ⟨_, hm, fun q => ?_⟩
  rw [getm_put]
  unfold upd
  split
  · rfl
  · exact hg q
def fs1 (W : Int × Int → Int × Int) (i : Nat) (s : List Tx) (F : Int × Int → Bool) (j : Nat) : Int × Int → Bool :=
  upto (fun j t F => if (fromM W t.evs).length = 0 then upd F ((i : Int) + 1, (j : Int) + 1) true else F) s F j
def fs2 (W : Int × Int → Int × Int) (ss : List (List Tx)) (i : Nat) : Int × Int → Bool :=
  upto (fun i s F => fs1 W i s F s.length) ss (fun _ => false) i

/-! ### the third loop: what is kept -/
def keepB (W : Int × Int → Int × Int) (F : Int × Int → Bool) (i j : Nat) (t : Tx) : Bool :=
  F ((i : Int) + 1, (j : Int) + 1) || ((fromM W t.evs).length == 1 && (fromM W t.evs).all (fun q => F q.1))
def kept1 (W : Int × Int → Int × Int) (F : Int × Int → Bool) (i : Nat) (s : List Tx) (j : Nat) : List Tx :=
  upto (fun j t acc => if keepB W F i j t = true then acc ++ [t] else acc) s [] j
def keptS (W : Int × Int → Int × Int) (F : Int × Int → Bool) (ss : List (List Tx)) (i : Nat) : List Tx :=
  match ss[i]? with
  | some s => kept1 W F i s s.length
  | none => []
theorem kept1_le (W : Int × Int → Int × Int) (F : Int × Int → Bool) (i : Nat) (s : List Tx) (j : Nat) : (kept1 W F i s j).length ≤ j := by
  unfold kept1
  induction j with
  | zero => simp [upto]
  | succ j ih =>
    unfold upto
    split
    · split
      · simp; omega
      · omega
    · omega

def cellsTx (us : List Value) (ts : List Tx) : List Value := (us.zip ts).flatMap (fun p => [p.1, .bool p.2.com])
theorem cellsTx_snoc {us : List Value} {ts : List Tx} (h : us.length = ts.length) (u : Value) (t : Tx) : cellsTx (us ++ [u]) (ts ++ [t]) = cellsTx us ts ++ [u, .bool t.com] := by
  unfold cellsTx
  rw [List.zip_append h]
  simp
theorem cellsTx_get : ∀ {us : List Value} {ts : List Tx}, us.length = ts.length → ∀ i (h : i < us.length) (h' : i < ts.length), (cellsTx us ts)[i * 2]? = some us[i] ∧ (cellsTx us ts)[i * 2 + 1]? = some (.bool ts[i].com)
  | [], _, _, i, h, _ => absurd h (by simp)
  | _ :: _, [], hl, _, _, _ => by simp at hl
  | u :: us, t :: ts, hl, 0, _, _ => by simp [cellsTx]
  | u :: us, t :: ts, hl, i + 1, h, h' => by
    have ih := cellsTx_get (us := us) (ts := ts) (by simpa using hl) i (by simpa using h) (by simpa using h')
    have e1 : (i + 1) * 2 = i * 2 + 2 := by omega
    have e2 : cellsTx (u :: us) (t :: ts) = u :: .bool t.com :: cellsTx us ts := by simp [cellsTx]
    rw [e1, e2]
    simpa using ih
/-- the slice value v owns, among the blocks from 'base' on, the transactions ts; their events lie in w0. -/
def OwnTx (w0 wr : World) (base : Nat) (v : Value) (ts : List Tx) : Prop :=
  ∃ us : List Value, us.length = ts.length ∧ wr.ownsRow base 36 2 v ts.length (cellsTx us ts) ∧ ∀ i (h : i < us.length) (h' : i < ts.length), EvsAt w0 us[i] ts[i].evs
theorem OwnTx.nil (w0 wr : World) (base : Nat) : OwnTx w0 wr base (.slice none 0 0) [] := ⟨[], rfl, World.ownsRow_nil _ _ _ _, fun i h => absurd h (by simp)⟩
theorem OwnTx.snoc {w0 wr : World} {base : Nat} {v' : Value} {ts : List Tx} {us : List Value} {u : Value} {t : Tx} (hl : us.length = ts.length) (he : ∀ i (h : i < us.length) (h' : i < ts.length), EvsAt w0 us[i] ts[i].evs) (hu : EvsAt w0 u t.evs)
    (h : wr.ownsRow base 36 2 v' (ts.length + 1) (cellsTx us ts ++ [u, .bool t.com])) : OwnTx w0 wr base v' (ts ++ [t]) := by
  refine ⟨us ++ [u], by simp [hl], ?_, ?_⟩
  · rw [cellsTx_snoc hl]
    simpa using h
  · intro i h h'
    by_cases hi : i < us.length
    · rw [List.getElem_append_left hi, List.getElem_append_left (by omega)]
      exact he i hi (by omega)
    · have h1 : i = us.length := by simp at h; omega
      subst h1
      have h2 : us.length = ts.length := hl
      simp only [List.getElem_concat_length]
      rw [List.getElem_append_right (by omega)]
      simp only [h2, Nat.sub_self, List.getElem_cons_zero]
      exact hu
theorem ownsRow_block {w w' : World} {base : Nat} {e : TypeId} {size : Nat} {v : Value} {n : Nat} {xs : List Value} (h : w.ownsRow base e size v n xs) (hg : ∀ g, base ≤ g → g < w.heap.size → v.ownBlock = some g → w'.heap[g]? = w.heap[g]?) : w'.ownsRow base e size v n xs := by
  obtain ⟨h1, h2⟩ := h
  refine ⟨h1, ?_⟩
  rcases h2 with h2 | ⟨g, cap, cur, hv, hb, hh, r⟩
  · exact .inl h2
  · exact .inr ⟨g, cap, cur, hv, hb, by rw [hg g hb (Array.getElem?_eq_some_iff.1 hh).1 (by rw [hv]; rfl)]; exact hh, r⟩
theorem ownsRow_base {w : World} {base base' : Nat} {e : TypeId} {size : Nat} {v : Value} {n : Nat} {xs : List Value} (h : w.ownsRow base e size v n xs) (hb : base' ≤ base) : w.ownsRow base' e size v n xs := by
  obtain ⟨h1, h2⟩ := h
  refine ⟨h1, ?_⟩
  rcases h2 with h2 | ⟨g, cap, cur, hv, hb', r⟩
  · exact .inl h2
  · exact .inr ⟨g, cap, cur, hv, by omega, r⟩
theorem OwnTx.keep {w0 wr wr' : World} {base : Nat} {v : Value} {ts : List Tx} (h : OwnTx w0 wr base v ts) (hg : ∀ g, base ≤ g → g < wr.heap.size → v.ownBlock = some g → wr'.heap[g]? = wr.heap[g]?) : OwnTx w0 wr' base v ts := by
  obtain ⟨us, h1, h2, h3⟩ := h
  exact ⟨us, h1, ownsRow_block h2 hg, h3⟩
theorem OwnTx.base {w0 wr : World} {base base' : Nat} {v : Value} {ts : List Tx} (h : OwnTx w0 wr base v ts) (hb : base' ≤ base) : OwnTx w0 wr base' v ts := by
  obtain ⟨us, h1, h2, h3⟩ := h
  exact ⟨us, h1, ownsRow_base h2 hb, h3⟩
theorem OwnTx.at {w0 wr : World} {base : Nat} {v : Value} {ts : List Tx} (h : OwnTx w0 wr base v ts) (hb : Below w0.heap.size w0 wr) (hs : ts.length ≤ small) : TxsAt wr v ts := by
  obtain ⟨us, h1, ⟨h2, h3⟩, h4⟩ := h
  refine ⟨hs, ?_⟩
  rcases h3 with ⟨rfl, h0⟩ | ⟨g, cap, cur, rfl, hg, hh, hc, hm, hcs, hx⟩
  · refine ⟨none, 0, by rw [h0], fun i hi => absurd hi (by omega)⟩
  · refine ⟨_, cap, rfl, fun i hi => ⟨g, 0, us[i], rfl, ?_, ?_, (h4 i (by omega) hi).stay hb⟩⟩
    · obtain ⟨c1, c2⟩ := cellsTx_get h1 i (by omega) hi
      rw [← hx] at c1
      rw [List.getElem?_take] at c1
      split at c1
      · rw [World.cell?, hh]
        simpa using c1
      · cases c1
    · obtain ⟨c1, c2⟩ := cellsTx_get h1 i (by omega) hi
      rw [← hx] at c2
      rw [List.getElem?_take] at c2
      split at c2
      · rw [World.cell?, hh]
        simpa using c2
      · cases c2

theorem step42 {w wl wq wr wf : World} {B2 k n gg cap len vc : Nat} {va : Option Addr} {f : Nat → Value} {ts : List Tx} {us : List Value} {u : Value} {t : Tx} {X : Obj}
    (hgl : wl.grownBy wq (some B2)) (hbq : Below wq.heap.size wq wr) (hrv : wq.rowIs B2 32 n (fun j => if j = k then .slice va len vc else f j))
    (hva : va = none ∨ ∃ g, va = some ⟨g, 0, none⟩ ∧ wl.heap.size ≤ g ∧ g < wq.heap.size) (hne : (Value.slice va len vc).ownBlock ≠ some B2) (hB : B2 < wl.heap.size)
    (hown : wf.ownsRow wl.heap.size 36 2 (.slice (some ⟨gg, 0, none⟩) (ts.length + 1) cap) (ts.length + 1) (cellsTx us ts ++ [u, .bool t.com])) (hgrow : (wr.alloc X).grownBy wf (Value.slice va len vc).ownBlock)
    (hul : us.length = ts.length) (hue : ∀ i (h : i < us.length) (h' : i < ts.length), EvsAt w us[i] ts[i].evs) (hev : EvsAt w u t.evs) :
    (∃ v, (wf.setCell ⟨B2, k, none⟩ (.slice (some ⟨gg, 0, none⟩) (ts.length + 1) cap)).rowIs B2 32 n (fun j => if j = k then v else f j) ∧ OwnTx w (wf.setCell ⟨B2, k, none⟩ (.slice (some ⟨gg, 0, none⟩) (ts.length + 1) cap)) wl.heap.size v (ts ++ [t])) ∧
      wl.grownBy (wf.setCell ⟨B2, k, none⟩ (.slice (some ⟨gg, 0, none⟩) (ts.length + 1) cap)) (some B2) := by
  have s1 := hgl.size
  have s2 := hbq.size
  have s3 := hgrow.size
  have e1 : ∀ i, i < wl.heap.size → some i ≠ (Value.slice va len vc).ownBlock → wf.heap[i]? = wq.heap[i]? := fun i hi hn => by
    rw [hgrow.block i (by simp; omega) hn, Below.heap_alloc wr X i (by omega), hbq.block i (by omega)]
  have e2 : ∀ i, i < wl.heap.size → some i ≠ (Value.slice va len vc).ownBlock := fun i hi h => by
    rcases hva with rfl | ⟨g, rfl, hg, _⟩
    · simp [Value.ownBlock] at h
    · simp [Value.ownBlock] at h; omega
  refine ⟨⟨.slice (some ⟨gg, 0, none⟩) (ts.length + 1) cap, ?_, ?_⟩, ⟨?_, ?_, ?_, ?_, ?_⟩⟩
  · refine ((hrv.of_block (e1 B2 hB (Ne.symm hne))).set k (.slice (some ⟨gg, 0, none⟩) (ts.length + 1) cap)).congr fun i _ => ?_
    by_cases hik : i = k <;> simp [hik]
  · refine (OwnTx.snoc hul hue hev hown).keep fun g hg _ _ => ?_
    exact Below.heap_setCell wf _ _ g (by simp; omega)
  · show wf.os = _; rw [hgrow.os]; show wr.os = _; rw [hbq.os, hgl.os]
  · show wf.tape = _; rw [hgrow.tape]; show wr.tape = _; rw [hbq.tape, hgl.tape]
  · show wf.output = _; rw [hgrow.output]; show wr.output = _; rw [hbq.output, hgl.output]
  · have : (wf.setCell ⟨B2, k, none⟩ (.slice (some ⟨gg, 0, none⟩) (ts.length + 1) cap)).heap.size = wf.heap.size := by simp [World.setCell]
    rw [this]
    simp at s3
    omega
  · intro i hi hn
    rw [Below.heap_setCell wf _ _ i (by simp; intro e; exact hn (by rw [e])), e1 i hi (e2 i hi), hgl.block i hi hn]
/-- the sessions at the end. -/
theorem SessAt_of {w wr : World} {B2 n : Nat} {f : Nat → Value} {ss' : List (List Tx)} (hn : ss'.length = n) (hs : n ≤ small) (hrow : wr.rowIs B2 32 n f) (hb : Below w.heap.size w wr) (base : Nat)
    (h : ∀ j (hj : j < ss'.length), OwnTx w wr base (f j) ss'[j]) (hl : ∀ j (hj : j < ss'.length), ss'[j].length ≤ small) : SessAt wr (.slice (some ⟨B2, 0, none⟩) n n) ss' := by
  subst hn
  refine ⟨hs, _, ss'.length, rfl, fun i hi => ⟨B2, 0, f i, rfl, ?_, (h i hi).at hb (hl i hi)⟩⟩
  rw [Nat.zero_add]
  exact hrow.cell hi
/-- what ReadsFromFirst keeps. -/
def rff (ss : List (List Tx)) : List (List Tx) :=
  (List.range ss.length).map (keptS (wr3 ss ss.length) (fs2 (wr3 ss ss.length) ss ss.length) ss)
theorem rff_length (ss : List (List Tx)) : (rff ss).length = ss.length := by simp [rff]
theorem keptS_le (W : Int × Int → Int × Int) (F : Int × Int → Bool) (ss : List (List Tx)) (i : Nat) (hi : i < ss.length) : (keptS W F ss i).length ≤ ss[i].length := by
  unfold keptS
  rw [List.getElem?_eq_getElem hi]
  exact kept1_le _ _ _ _ _
theorem beq_one (n : Nat) : ((n : Int) == 1) = (n == 1) := by
  rw [Bool.eq_iff_iff]; simp; omega
/-- the flag 'single' while the set m is ranged over: 'left' are still to come. -/
def sing (m : List ((Int × Int) × Value)) (F : Int × Int → Bool) (left : List (Int × Int)) : Bool := m.length == 1 && m.all (fun q => decide (q.1 ∈ left) || F q.1)
theorem sing_start (m : List ((Int × Int) × Value)) (F : Int × Int → Bool) : sing m F (m.map (·.1)) = (m.length == 1) := by
  unfold sing
  have : (m.all fun q => decide (q.1 ∈ m.map (·.1)) || F q.1) = true := by
    rw [List.all_eq_true]
    intro q hq
    have : q.1 ∈ m.map (·.1) := List.mem_map.2 ⟨q, hq, rfl⟩
    simp only [this, decide_true, Bool.true_or]
  rw [this, Bool.and_true]
theorem sing_end (m : List ((Int × Int) × Value)) (F : Int × Int → Bool) : sing m F [] = (m.length == 1 && m.all (fun q => F q.1)) := by
  simp [sing]
theorem sing_step {m : List ((Int × Int) × Value)} {F : Int × Int → Bool} {left : List (Int × Int)} {p : Int × Int} (hp : p ∈ left) (hl : ∀ q ∈ left, q ∈ m.map (·.1)) :
    sing m F (left.filter (fun q => !decide (q = p))) = (sing m F left && F p) := by
  unfold sing
  cases hF : F p
  · rw [Bool.and_false]
    obtain ⟨q, hq, hqp⟩ := List.mem_map.1 (hl p hp)
    have : (m.all fun q => decide (q.1 ∈ left.filter (fun q => !decide (q = p))) || F q.1) = false := by
      rw [List.all_eq_false]
      refine ⟨q, hq, ?_⟩
      rw [hqp]
      simp [hF]
    rw [this, Bool.and_false]
  · rw [Bool.and_true]
    congr 1
    apply List.all_congr rfl
    intro q
    by_cases hq : q.1 = p
    · simp [hq, hF]
    · simp [List.mem_filter, hq]
theorem left_lt {left : List (Int × Int)} {p : Int × Int} (hp : p ∈ left) : (left.filter (fun q => !decide (q = p))).length < left.length := by
  induction left with
  | nil => simp at hp
  | cons x r ih =>
    by_cases hx : x = p
    · subst hx
      rw [List.filter_cons_of_neg (by simp)]
      exact Nat.lt_succ_of_le (List.length_filter_le _ _)
    · rw [List.filter_cons_of_pos (by simp [hx])]
      have := ih (by simp at hp; rcases hp with h | h; exact absurd h.symm hx; exact h)
      simp only [List.length_cons]; omega

end Go.Proofs.Qxb6000864a
