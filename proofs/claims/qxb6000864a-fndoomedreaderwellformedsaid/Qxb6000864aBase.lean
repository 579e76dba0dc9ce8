/-
  WHAT A HISTORY IS IN PLAIN DATA, AND WHERE IT LIES IN A WORLD. No walk here.
-/
import Derived.Test.Qxb6000864aRows
import Derived.WalkKit
import Derived.WalkSpells
import Derived.WalkLawsBesides
namespace Go.Proofs.Qxb6000864a
open Go.RowKit

/-- An event: a write or a read of 'key' at version 'num'; 'ini' marks the initial version. -/
structure Ev where
  wr : Bool
  key : Int
  num : Int
  ini : Bool
/-- A transaction. -/
structure Tx where
  evs : List Ev
  com : Bool

theorem Ev.ext' {a b : Ev} (h1 : a.wr = b.wr) (h2 : a.key = b.key) (h3 : a.num = b.num) (h4 : a.ini = b.ini) : a = b := by
  cases a; cases b; simp_all
theorem Tx.ext' {a b : Tx} (h1 : a.evs = b.evs) (h2 : a.com = b.com) : a = b := by
  cases a; cases b; simp_all

/-! ### equality, as bools -/
def evEq (a b : Ev) : Bool := a.wr == b.wr && a.key == b.key && a.num == b.num && a.ini == b.ini
def evsEq : List Ev → List Ev → Bool
  | [], [] => true
  | a :: l, b :: r => evEq a b && evsEq l r
  | _, _ => false
def txEq (a b : Tx) : Bool := a.com == b.com && evsEq a.evs b.evs
theorem evEq_iff (a b : Ev) : evEq a b = true ↔ a = b := by
  cases a; cases b; simp [evEq, and_assoc]
theorem evsEq_iff : ∀ a b : List Ev, evsEq a b = true ↔ a = b
  | [], [] => by simp [evsEq]
  | [], _ :: _ => by simp [evsEq]
  | _ :: _, [] => by simp [evsEq]
  | a :: l, b :: r => by simp [evsEq, evEq_iff, evsEq_iff l r]
theorem txEq_iff (a b : Tx) : txEq a b = true ↔ a = b := by
  cases a; cases b; simp [txEq, evsEq_iff, and_comm]
theorem evsEq_false {a b : List Ev} (h : a ≠ b) : evsEq a b = false := by
  cases hx : evsEq a b
  · rfl
  · exact absurd ((evsEq_iff a b).1 hx) h
theorem evsEq_true {a b : List Ev} (h : a = b) : evsEq a b = true := (evsEq_iff a b).2 h

/-- The bound that every length keeps. -/
def small : Nat := 1048576

/-- The event e lies in block b from offset o on. -/
structure EvAt (w : World) (b o : Nat) (e : Ev) : Prop where
  c0 : w.cell? ⟨b, o, none⟩ = some (.bool e.wr)
  c1 : w.cell? ⟨b, o + 1, none⟩ = some (.int .i64 e.key)
  c2 : w.cell? ⟨b, o + 2, none⟩ = some (.int .i64 e.num)
  c3 : w.cell? ⟨b, o + 3, none⟩ = some (.bool e.ini)
  k1 : (Lit.int .i64 e.key).wf = true
  k2 : (Lit.int .i64 e.num).wf = true

/-- The slice value v holds the events es. -/
def EvsAt (w : World) (v : Value) (es : List Ev) : Prop :=
  es.length ≤ small ∧ ∃ a cap, v = .slice a es.length cap ∧ ∀ i (h : i < es.length), ∃ b off, a = some ⟨b, off, none⟩ ∧ EvAt w b (off + i * 4) es[i]

/-- The transaction t lies in block b from offset o on. -/
structure TxAt (w : World) (b o : Nat) (v : Value) (t : Tx) : Prop where
  c0 : w.cell? ⟨b, o, none⟩ = some v
  c1 : w.cell? ⟨b, o + 1, none⟩ = some (.bool t.com)
  evs : EvsAt w v t.evs

/-- The slice value v holds the transactions ts. -/
def TxsAt (w : World) (v : Value) (ts : List Tx) : Prop :=
  ts.length ≤ small ∧ ∃ a cap, v = .slice a ts.length cap ∧ ∀ i (h : i < ts.length), ∃ b off u, a = some ⟨b, off, none⟩ ∧ TxAt w b (off + i * 2) u ts[i]

/-- The slice value v holds the sessions ss. -/
def SessAt (w : World) (v : Value) (ss : List (List Tx)) : Prop :=
  ss.length ≤ small ∧ ∃ a cap, v = .slice a ss.length cap ∧ ∀ i (h : i < ss.length), ∃ b off u, a = some ⟨b, off, none⟩ ∧ w.cell? ⟨b, off + i, none⟩ = some u ∧ TxsAt w u ss[i]

/-- The pointer value p leads to a History of the sessions ss. -/
def HistAt (w : World) (p : Value) (ss : List (List Tx)) : Prop :=
  ∃ b off v, p = .pointer (some ⟨b, off, none⟩) ∧ w.cell? ⟨b, off, none⟩ = some v ∧ SessAt w v ss

/-! ### what lies in a world lies in every later one that has turned nothing of it -/
theorem cell_lt {w : World} {a : Addr} {v : Value} (h : w.cell? a = some v) : a.block < w.heap.size := by
  unfold World.cell? at h
  split at h
  · rename_i h1; exact (Array.getElem?_eq_some_iff.1 h1).1
  · cases h
theorem cell_alloc {w : World} {a : Addr} {v : Value} (h : w.cell? a = some v) (o : Obj) : (w.alloc o).cell? a = some v := by
  rw [World.cell?_alloc_lt w o a (cell_lt h)]; exact h
theorem cell_keep {w w' : World} {B : Nat} (hb : Below B w w') {a : Addr} (ha : a.block < B) {v : Value} (h : w.cell? a = some v) : w'.cell? a = some v := by
  rw [hb.cell ha]; exact h
theorem cell_stay {w w' : World} (hb : Below w.heap.size w w') {a : Addr} {v : Value} (h : w.cell? a = some v) : w'.cell? a = some v :=
  cell_keep hb (cell_lt h) h

theorem EvAt.stay {w w' : World} (hb : Below w.heap.size w w') {b o : Nat} {e : Ev} (h : EvAt w b o e) : EvAt w' b o e :=
  ⟨cell_stay hb h.c0, cell_stay hb h.c1, cell_stay hb h.c2, cell_stay hb h.c3, h.k1, h.k2⟩
theorem EvsAt.stay {w w' : World} (hb : Below w.heap.size w w') {v : Value} {es : List Ev} (h : EvsAt w v es) : EvsAt w' v es := by
  obtain ⟨h0, a, cap, hv, h⟩ := h
  refine ⟨h0, a, cap, hv, fun i hi => ?_⟩
  obtain ⟨b, off, ha, h⟩ := h i hi
  exact ⟨b, off, ha, h.stay hb⟩
theorem TxAt.stay {w w' : World} (hb : Below w.heap.size w w') {b o : Nat} {v : Value} {t : Tx} (h : TxAt w b o v t) : TxAt w' b o v t :=
  ⟨cell_stay hb h.c0, cell_stay hb h.c1, h.evs.stay hb⟩
theorem TxsAt.stay {w w' : World} (hb : Below w.heap.size w w') {v : Value} {ts : List Tx} (h : TxsAt w v ts) : TxsAt w' v ts := by
  obtain ⟨h0, a, cap, hv, h⟩ := h
  refine ⟨h0, a, cap, hv, fun i hi => ?_⟩
  obtain ⟨b, off, u, ha, h⟩ := h i hi
  exact ⟨b, off, u, ha, h.stay hb⟩
theorem SessAt.stay {w w' : World} (hb : Below w.heap.size w w') {v : Value} {ss : List (List Tx)} (h : SessAt w v ss) : SessAt w' v ss := by
  obtain ⟨h0, a, cap, hv, h⟩ := h
  refine ⟨h0, a, cap, hv, fun i hi => ?_⟩
  obtain ⟨b, off, u, ha, hc, h⟩ := h i hi
  exact ⟨b, off, u, ha, cell_stay hb hc, h.stay hb⟩
theorem HistAt.stay {w w' : World} (hb : Below w.heap.size w w') {p : Value} {ss : List (List Tx)} (h : HistAt w p ss) : HistAt w' p ss := by
  obtain ⟨b, off, v, hp, hc, h⟩ := h
  exact ⟨b, off, v, hp, cell_stay hb hc, h.stay hb⟩

end Go.Proofs.Qxb6000864a
