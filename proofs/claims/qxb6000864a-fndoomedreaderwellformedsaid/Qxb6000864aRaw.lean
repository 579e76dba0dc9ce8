/-
  THE INPUT AS IT CAME (lengths without a bound of ours), and what the call itself lays ('Fr lo': in blocks from lo on).
-/
import Derived.Test.Qxb6000864aSame
import Derived.Deep.OwnRows
namespace Go.Proofs.Qxb6000864a
open Go.RowKit

def REvs (w : World) (v : Value) (es : List Ev) : Prop :=
  es.length ≤ maxLen ∧ ∃ a cap, v = .slice a es.length cap ∧ ∀ i (h : i < es.length), ∃ b off, a = some ⟨b, off, none⟩ ∧ EvAt w b (off + i * 4) es[i]
def RTxs (w : World) (v : Value) (ts : List Tx) : Prop :=
  ts.length ≤ maxLen ∧ ∃ a cap, v = .slice a ts.length cap ∧ ∀ i (h : i < ts.length), ∃ b off u, a = some ⟨b, off, none⟩ ∧ w.cell? ⟨b, off + i * 2, none⟩ = some u ∧ w.cell? ⟨b, off + i * 2 + 1, none⟩ = some (.bool ts[i].com) ∧ REvs w u ts[i].evs
def RSess (w : World) (v : Value) (ss : List (List Tx)) : Prop :=
  ss.length ≤ maxLen ∧ ∃ a cap, v = .slice a ss.length cap ∧ ∀ i (h : i < ss.length), ∃ b off u, a = some ⟨b, off, none⟩ ∧ w.cell? ⟨b, off + i, none⟩ = some u ∧ RTxs w u ss[i]
/-- every length keeps the bound. -/
def Modest (ss : List (List Tx)) : Prop := ss.length ≤ small ∧ ∀ i (h : i < ss.length), ss[i].length ≤ small ∧ ∀ j (hj : j < ss[i].length), ss[i][j].evs.length ≤ small
theorem RSess.at {w : World} {v : Value} {ss : List (List Tx)} (h : RSess w v ss) (hm : Modest ss) : SessAt w v ss := by
  obtain ⟨_, a, cap, hv, h⟩ := h
  refine ⟨hm.1, a, cap, hv, fun i hi => ?_⟩
  obtain ⟨b, off, u, ha, hc, _, a', cap', hu, h'⟩ := h i hi
  refine ⟨b, off, u, ha, hc, (hm.2 i hi).1, a', cap', hu, fun j hj => ?_⟩
  obtain ⟨b2, off2, u2, ha2, c0, c1, _, a3, cap3, hu3, h3⟩ := h' j hj
  exact ⟨b2, off2, u2, ha2, c0, c1, (hm.2 i hi).2 j hj, a3, cap3, hu3, h3⟩

def EvsFr (lo : Nat) (w : World) (v : Value) (es : List Ev) : Prop :=
  es.length ≤ small ∧ ∃ a cap, v = .slice a es.length cap ∧ ∀ i (h : i < es.length), ∃ b off, a = some ⟨b, off, none⟩ ∧ lo ≤ b ∧ EvAt w b (off + i * 4) es[i]
def TxsFr (lo : Nat) (w : World) (v : Value) (ts : List Tx) : Prop :=
  ts.length ≤ small ∧ ∃ a cap, v = .slice a ts.length cap ∧ ∀ i (h : i < ts.length), ∃ b off u, a = some ⟨b, off, none⟩ ∧ lo ≤ b ∧ w.cell? ⟨b, off + i * 2, none⟩ = some u ∧ w.cell? ⟨b, off + i * 2 + 1, none⟩ = some (.bool ts[i].com) ∧ EvsFr lo w u ts[i].evs
theorem EvsFr.at {lo : Nat} {w : World} {v : Value} {es : List Ev} (h : EvsFr lo w v es) : EvsAt w v es := by
  obtain ⟨h0, a, cap, hv, h⟩ := h
  refine ⟨h0, a, cap, hv, fun i hi => ?_⟩
  obtain ⟨b, off, ha, _, h⟩ := h i hi
  exact ⟨b, off, ha, h⟩
theorem TxsFr.at {lo : Nat} {w : World} {v : Value} {ts : List Tx} (h : TxsFr lo w v ts) : TxsAt w v ts := by
  obtain ⟨h0, a, cap, hv, h⟩ := h
  refine ⟨h0, a, cap, hv, fun i hi => ?_⟩
  obtain ⟨b, off, u, ha, _, c0, c1, h⟩ := h i hi
  exact ⟨b, off, u, ha, c0, c1, h.at⟩
/-- from block lo on the world w' has what w had. -/
def From (lo : Nat) (w w' : World) : Prop := ∀ b, lo ≤ b → b < w.heap.size → w'.heap[b]? = w.heap[b]?
theorem From.cell {lo : Nat} {w w' : World} (hf : From lo w w') {a : Addr} {v : Value} (ha : lo ≤ a.block) (h : w.cell? a = some v) : w'.cell? a = some v := by
  rw [World.cell?_of_block (hf a.block ha (cell_lt h))]; exact h
theorem EvAt.keep {lo : Nat} {w w' : World} (hf : From lo w w') {b o : Nat} {e : Ev} (hb : lo ≤ b) (h : EvAt w b o e) : EvAt w' b o e :=
  ⟨hf.cell hb h.c0, hf.cell hb h.c1, hf.cell hb h.c2, hf.cell hb h.c3, h.k1, h.k2⟩
theorem EvsFr.keep {lo : Nat} {w w' : World} (hf : From lo w w') {v : Value} {es : List Ev} (h : EvsFr lo w v es) : EvsFr lo w' v es := by
  obtain ⟨h0, a, cap, hv, h⟩ := h
  refine ⟨h0, a, cap, hv, fun i hi => ?_⟩
  obtain ⟨b, off, ha, hb, h⟩ := h i hi
  exact ⟨b, off, ha, hb, h.keep hf hb⟩
theorem TxsFr.keep {lo : Nat} {w w' : World} (hf : From lo w w') {v : Value} {ts : List Tx} (h : TxsFr lo w v ts) : TxsFr lo w' v ts := by
  obtain ⟨h0, a, cap, hv, h⟩ := h
  refine ⟨h0, a, cap, hv, fun i hi => ?_⟩
  obtain ⟨b, off, u, ha, hb, c0, c1, h⟩ := h i hi
  exact ⟨b, off, u, ha, hb, hf.cell hb c0, hf.cell hb c1, h.keep hf⟩
theorem EvsFr.lo {lo lo' : Nat} {w : World} {v : Value} {es : List Ev} (h : EvsFr lo w v es) (hl : lo' ≤ lo) : EvsFr lo' w v es := by
  obtain ⟨h0, a, cap, hv, h⟩ := h
  refine ⟨h0, a, cap, hv, fun i hi => ?_⟩
  obtain ⟨b, off, ha, hb, h⟩ := h i hi
  exact ⟨b, off, ha, by omega, h⟩
theorem TxsFr.lo {lo lo' : Nat} {w : World} {v : Value} {ts : List Tx} (h : TxsFr lo w v ts) (hl : lo' ≤ lo) : TxsFr lo' w v ts := by
  obtain ⟨h0, a, cap, hv, h⟩ := h
  refine ⟨h0, a, cap, hv, fun i hi => ?_⟩
  obtain ⟨b, off, u, ha, hb, c0, c1, h⟩ := h i hi
  exact ⟨b, off, u, ha, by omega, c0, c1, h.lo hl⟩

end Go.Proofs.Qxb6000864a
