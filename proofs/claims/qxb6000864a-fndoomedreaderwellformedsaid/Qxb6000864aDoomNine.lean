import Derived.Test.Qxb6000864aDoomSteps
import Derived.Test.Qxb6000864aHist
import Derived.Laws.OwnMore
namespace Go.Proofs.Qxb6000864a
open Go.RowKit
set_option maxHeartbeats 400000 in
theorem drWrite (k n : Int) (w : World) :
    Calls Try.prog 27 #[.int .i64 k, .int .i64 n] w fun e w' => e = .returned (.agg #[.bool true, .int .i64 k, .int .i64 n, .bool false]) ∧ Below w.heap.size w w' := by
  go_enter Try.func27, Try.ntmps27
  go_wp2
  exact bodyPost_ret (v := .agg #[.bool true, .int .i64 k, .int .i64 n, .bool false]) (by simp [results, Try.results27, go_sem]) rfl ⟨rfl, (Below.refl _ _).alloc (Nat.le_refl _) _⟩
set_option maxHeartbeats 400000 in
theorem drRead (k n : Int) (w : World) :
    Calls Try.prog 28 #[.int .i64 k, .int .i64 n] w fun e w' => e = .returned (.agg #[.bool false, .int .i64 k, .int .i64 n, .bool (n == 0)]) ∧ Below w.heap.size w w' := by
  go_enter Try.func28, Try.ntmps28
  go_wp2
  exact bodyPost_ret (v := .agg #[.bool false, .int .i64 k, .int .i64 n, .bool (n == 0)]) (by simp [results, Try.results28, go_sem]) rfl ⟨rfl, (Below.refl _ _).alloc (Nat.le_refl _) _⟩
set_option maxHeartbeats 400000 in
theorem drTxn (a : Option Addr) (n c : Nat) (w : World) :
    Calls Try.prog 26 #[.slice a n c] w fun e w' => e = .returned (.agg #[.slice a n c, .bool true]) ∧ Below w.heap.size w w' := by
  go_enter Try.func26, Try.ntmps26
  go_wp2
  exact bodyPost_ret (v := .agg #[.slice a n c, .bool true]) (by simp [results, Try.results26, go_sem]) rfl ⟨rfl, (Below.refl _ _).alloc (Nat.le_refl _) _⟩
section
variable {o : Oper} {a : Act} {w : World} {K : Act → World → Prop} {Q : Exit → Act → World → Prop}
theorem st_write {f x y : Operand} {ts : Array TypeId} {k n : Int} (ho : o.op = .call { callee := .value f, args := #[x, y], argTypes := ts }) (hf : a.eval f = .func (.func 27) #[] #[]) (hx : a.eval x = .int .i64 k) (hy : a.eval y = .int .i64 n)
    (h : ∀ w', Below w.heap.size w w' → K (a.put o.dst (.agg #[.bool true, .int .i64 k, .int .i64 n, .bool false])) w') : o.wp Try.prog a w K Q := by
  refine st_call27 ho hf ?_
  have e : (#[x, y] : Array Operand).map a.eval = #[.int .i64 k, .int .i64 n] := by simp [hx, hy]
  rw [e]
  refine (drWrite k n w).mono ?_
  rintro e w' ⟨rfl, hb⟩
  exact ⟨_, rfl, h w' hb⟩
theorem st_read {f x y : Operand} {ts : Array TypeId} {k n : Int} (ho : o.op = .call { callee := .value f, args := #[x, y], argTypes := ts }) (hf : a.eval f = .func (.func 28) #[] #[]) (hx : a.eval x = .int .i64 k) (hy : a.eval y = .int .i64 n)
    (h : ∀ w', Below w.heap.size w w' → K (a.put o.dst (.agg #[.bool false, .int .i64 k, .int .i64 n, .bool (n == 0)])) w') : o.wp Try.prog a w K Q := by
  refine st_call28 ho hf ?_
  have e : (#[x, y] : Array Operand).map a.eval = #[.int .i64 k, .int .i64 n] := by simp [hx, hy]
  rw [e]
  refine (drRead k n w).mono ?_
  rintro e w' ⟨rfl, hb⟩
  exact ⟨_, rfl, h w' hb⟩
theorem st_txn {f x : Operand} {ts : Array TypeId} {ad : Option Addr} {n c : Nat} (ho : o.op = .call { callee := .value f, args := #[x], argTypes := ts }) (hf : a.eval f = .func (.func 26) #[] #[]) (hx : a.eval x = .slice ad n c)
    (h : ∀ w', Below w.heap.size w w' → K (a.put o.dst (.agg #[.slice ad n c, .bool true])) w') : o.wp Try.prog a w K Q := by
  refine st_call26 ho hf ?_
  have e : (#[x] : Array Operand).map a.eval = #[.slice ad n c] := by simp [hx]
  rw [e]
  refine (drTxn ad n c w).mono ?_
  rintro e w' ⟨rfl, hb⟩
  exact ⟨_, rfl, h w' hb⟩
end
/-! ### memory -/
def evWr (k n : Int) : Ev := ⟨true, k, n, false⟩
def evRd (k n : Int) : Ev := ⟨false, k, n, n == 0⟩
theorem from_below {lo : Nat} {w w' : World} (hb : Below w.heap.size w w') : From lo w w' := fun b _ h => hb.block b h
theorem EvsFr.stay {lo : Nat} {w w' : World} (hb : Below w.heap.size w w') {v : Value} {es : List Ev} (h : EvsFr lo w v es) : EvsFr lo w' v es := h.keep (from_below hb)
theorem TxsFr.stay {lo : Nat} {w w' : World} (hb : Below w.heap.size w w') {v : Value} {ts : List Tx} (h : TxsFr lo w v ts) : TxsFr lo w' v ts := h.keep (from_below hb)
def okEv (e : Ev) : Bool := (Lit.int .i64 e.key).wf && (Lit.int .i64 e.num).wf
theorem below_alloc (w : World) (o : Obj) : Below w.heap.size w (w.alloc o) := (Below.refl _ _).alloc (Nat.le_refl _) o
theorem evs_fr1 {lo : Nat} (w : World) (e : Ev) (hlo : lo ≤ w.heap.size) (h : okEv e = true) : EvsFr lo (w.alloc (.cells #[.bool e.wr, .int .i64 e.key, .int .i64 e.num, .bool e.ini] 56)) (.slice (some ⟨w.heap.size, 0, none⟩) 1 1) [e] := by
  unfold okEv at h
  simp only [Bool.and_eq_true] at h
  refine ⟨by simp [small], _, 1, rfl, fun i hi => ⟨w.heap.size, 0, rfl, hlo, ?_⟩⟩
  have : i = 0 := by simpa using hi
  subst this
  exact ⟨by simp, by simp, by simp, by simp, h.1, h.2⟩
theorem evs_fr2 {lo : Nat} (w : World) (e f : Ev) (hlo : lo ≤ w.heap.size) (h : okEv e = true) (h' : okEv f = true) : EvsFr lo (w.alloc (.cells #[.bool e.wr, .int .i64 e.key, .int .i64 e.num, .bool e.ini, .bool f.wr, .int .i64 f.key, .int .i64 f.num, .bool f.ini] 56)) (.slice (some ⟨w.heap.size, 0, none⟩) 2 2) [e, f] := by
  unfold okEv at h h'
  simp only [Bool.and_eq_true] at h h'
  refine ⟨by simp [small], _, 2, rfl, fun i hi => ⟨w.heap.size, 0, rfl, hlo, ?_⟩⟩
  have hi2 : i < 2 := by simpa using hi
  match i, hi2 with
  | 0, _ => exact ⟨by simp, by simp, by simp, by simp, h.1, h.2⟩
  | 1, _ => exact ⟨by simp, by simp, by simp, by simp, h'.1, h'.2⟩
theorem txs_fr1 {lo : Nat} (w : World) (t : Tx) {u : Value} (hlo : lo ≤ w.heap.size) (h : EvsFr lo w u t.evs) : TxsFr lo (w.alloc (.cells #[u, .bool t.com] 36)) (.slice (some ⟨w.heap.size, 0, none⟩) 1 1) [t] := by
  refine ⟨by simp [small], _, 1, rfl, fun i hi => ⟨w.heap.size, 0, u, rfl, hlo, ?_⟩⟩
  have : i = 0 := by simpa using hi
  subst this
  exact ⟨by simp, by simp, h.stay (below_alloc w _)⟩
theorem EvsFr.form {lo : Nat} {w : World} {v : Value} {es : List Ev} (h : EvsFr lo w v es) : ∃ ad n c, v = .slice ad n c := by
  obtain ⟨_, a, cap, hv, _⟩ := h
  exact ⟨_, _, _, hv⟩
theorem TxsFr.form {lo : Nat} {w : World} {v : Value} {es : List Tx} (h : TxsFr lo w v es) : ∃ ad n c, v = .slice ad n c := by
  obtain ⟨_, a, cap, hv, _⟩ := h
  exact ⟨_, _, _, hv⟩
theorem grown_below {w w' : World} (hb : Below w.heap.size w w') : w.grownBy w' none := ⟨hb.os, hb.tape, hb.output, hb.size, fun k hk _ => hb.block k hk⟩

/-- behind the append: the row v owns k sessions more, and from w9 on nothing but its block was turned; p rests on blocks that lay there when the append came. -/
def Grew0 (w9 : World) (gb bs len k : Nat) (vs us : List Value) (p : World → Prop) (v : Value) (w : World) : Prop :=
  ∃ g cap H, v = .slice (some ⟨g, 0, none⟩) (len + k) cap ∧ w.ownsRow bs 32 1 (.slice (some ⟨g, 0, none⟩) (len + k) cap) (len + k) (vs ++ us) ∧ (g = gb ∨ H ≤ g) ∧ w9.heap.size ≤ H ∧ H ≤ w.heap.size ∧ w9.grownBy w (some gb) ∧
    ∀ w', (∀ b, w9.heap.size ≤ b → b < H → w'.heap[b]? = w.heap[b]?) → p w'
/-- behind the store. -/
def Grew (w9 : World) (hb gb bs len k : Nat) (vs us : List Value) (p : World → Prop) (w : World) : Prop :=
  ∃ g cap H, w.cell? ⟨hb, 0, none⟩ = some (.slice (some ⟨g, 0, none⟩) (len + k) cap) ∧ w.frozen? ⟨hb, 0, none⟩ = false ∧ w.ownsRow bs 32 1 (.slice (some ⟨g, 0, none⟩) (len + k) cap) (len + k) (vs ++ us) ∧ (g = gb ∨ H ≤ g) ∧ w9.heap.size ≤ H ∧ H ≤ w.heap.size ∧
    w.os = w9.os ∧ w.tape = w9.tape ∧ w.output = w9.output ∧ w9.heap.size ≤ w.heap.size ∧ (∀ b, b < w9.heap.size → b ≠ hb → b ≠ gb → w.heap[b]? = w9.heap[b]?) ∧
    ∀ w', (∀ b, w9.heap.size ≤ b → b < H → w'.heap[b]? = w.heap[b]?) → p w'
theorem st_append {o : Oper} {a : Act} {w w9 : World} {K : Act → World → Prop} {Q : Exit → Act → World → Prop} {x y : Operand} {gb bs len cap k b : Nat} {vs us : List Value} {p : World → Prop}
    (ho : o.op = .call { callee := .builtin .append, args := #[x, y], argTypes := #[28, 28] }) (hx : a.eval x = .slice (some ⟨gb, 0, none⟩) len cap) (hy : a.eval y = .slice (some ⟨b, 0, none⟩) k k)
    (hb : w.heap[b]? = some (.cells us.toArray 32 (0, 0))) (hk : us.length = k) (h1 : ∀ u ∈ us, u.oneCell' = true) (hk0 : 0 < k) (hk5 : k ≤ 5) (hlen : len ≤ 1048576)
    (h9 : Below w9.heap.size w9 w) (hown : w9.ownsRow bs 32 1 (.slice (some ⟨gb, 0, none⟩) len cap) len vs) (hbs : bs ≤ w9.heap.size)
    (hp : ∀ w', From w9.heap.size w w' → p w')
    (h : ∀ v w', Grew0 w9 gb bs len k vs us p v w' → K (a.put o.dst v) w') : o.wp Try.prog a w K Q := by
  obtain ⟨i0, hi0, hz0, hz1, hz2⟩ := info_parts info32h
  have hown' := hown.kept (grown_below h9) (.inr (by simp [Value.ownBlock]))
  have hgb := (hown.lt gb rfl).2
  refine wp_append_lies w x y 28 ho bs 32 i0 _ 1 24 Try.underlying28 hi0 hz0 hz1 hz2 rfl (by omega) _ len vs hx hown' ⟨b, 0, none⟩ k k us hy (by omega)
    (by simpa using World.news_of_block (cs := us.toArray) hb) h1 hk0 (by unfold maxLen; omega) (by omega) (by have := h9.size; omega) w.heap.size rfl ?_
  intro g c w' ho' hg' hat hlt
  have hgg : g = gb ∨ w.heap.size ≤ g := by
    rcases hat with hat | hat
    · left; simpa [Value.ownBlock] using hat.symm
    · right; omega
  refine h _ _ ⟨g, c, w.heap.size, rfl, ho', hgg, h9.size, hg'.size,
    ⟨hg'.os.trans h9.os, hg'.tape.trans h9.tape, hg'.output.trans h9.output, Nat.le_trans h9.size hg'.size, fun j hj hne => (hg'.block j (by have := h9.size; omega) hne).trans (h9.block j hj)⟩,
    fun w'' hw => hp w'' fun j h1 h2 => ?_⟩
  rw [hw j h1 h2]
  refine hg'.block j h2 ?_
  simp [Value.ownBlock]
  omega
theorem grew_store {w9 w : World} {hb gb bs len k g cap H : Nat} {vs us : List Value} {u : Value} {p : World → Prop} (hne : hb ≠ gb) (hc : w9.cell? ⟨hb, 0, none⟩ = some u) (hfz : w9.frozen? ⟨hb, 0, none⟩ = false)
    (ho : w.ownsRow bs 32 1 (.slice (some ⟨g, 0, none⟩) (len + k) cap) (len + k) (vs ++ us)) (hg : g = gb ∨ H ≤ g) (hH : w9.heap.size ≤ H) (hH' : H ≤ w.heap.size) (h9 : w9.grownBy w (some gb)) (hp : ∀ w', (∀ b, w9.heap.size ≤ b → b < H → w'.heap[b]? = w.heap[b]?) → p w') :
    Grew w9 hb gb bs len k vs us p (w.setCell ⟨hb, 0, none⟩ (.slice (some ⟨g, 0, none⟩) (len + k) cap)) := by
  have hlt := cell_lt hc
  simp only at hlt
  have hgh : g ≠ hb := by rcases hg with rfl | hg <;> omega
  have hwc : w.cell? ⟨hb, 0, none⟩ = some u := by rw [h9.cell_far _ hlt (by simpa using hne)]; exact hc
  refine ⟨g, cap, H, ?_, ?_, ?_, hg, hH, by rw [setCell_size]; exact hH', ?_, ?_, ?_, ?_, ?_, ?_⟩
  · exact World.cell?_setCell_same _ _ _ hwc
  · rw [World.frozen?_setCell, h9.frozen_far _ hlt (by simpa using hne)]; exact hfz
  · exact ho.kept (row := some hb) ⟨rfl, rfl, rfl, by rw [setCell_size]; exact Nat.le_refl _, fun j _ hj => Below.heap_setCell _ _ _ _ (fun e => hj (by rw [e]))⟩ (.inr (by simpa [Value.ownBlock] using hgh))
  · exact h9.os
  · exact h9.tape
  · exact h9.output
  · rw [setCell_size]; exact h9.size
  · intro b h1 h2 h3
    rw [Below.heap_setCell _ _ _ _ h2]
    exact h9.block b h1 (by simpa using h3)
  · intro w' hw
    refine hp w' fun b h1 h2 => ?_
    rw [hw b h1 h2, Below.heap_setCell _ _ _ _ (by simp only; omega)]

def AllFrom (S : Nat → Oper → Prop) : Nat → List Oper → Prop
  | _, [] => True
  | i, o :: os => S i o ∧ AllFrom S (i + 1) os
theorem AllFrom.nil {S : Nat → Oper → Prop} {i : Nat} : AllFrom S i [] := trivial
theorem AllFrom.cons {S : Nat → Oper → Prop} {i : Nat} {o : Oper} {os : List Oper} (h : S i o) (h' : AllFrom S (i + 1) os) : AllFrom S i (o :: os) := ⟨h, h'⟩
theorem AllFrom.get {S : Nat → Oper → Prop} : ∀ (l : List Oper) (k : Nat), AllFrom S k l → ∀ i o, l[i]? = some o → S (k + i) o
  | [], _, _, i, o, h => by simp at h
  | x :: l, k, h, 0, o, hi => by simp at hi; subst hi; exact h.1
  | x :: l, k, h, i + 1, o, hi => by
    have := AllFrom.get l (k + 1) h.2 i o (by simpa using hi)
    rwa [Nat.add_assoc, Nat.add_comm 1 i] at this
theorem all_lit {S : Nat → Oper → Prop} {x : Array Oper} (h : AllFrom S 0 x.toList) : ∀ i o, x[i]? = some o → S i o := fun i o hi => by
  have := AllFrom.get x.toList 0 h i o (by simpa using hi)
  rwa [Nat.zero_add] at this
def anc9 (j : Nat) : Bool := decide (1 ≤ j ∧ j ≤ 17)
def Φ9 (w9 : World) (hb gb bs len cap : Nat) (vs : List Value) (i : Int) : Nat → Value → World → Prop
  | 0, v, _ => v = .pointer (some ⟨hb, 0, none⟩)
  | 1, v, _ => v = .pointer (some ⟨hb, 0, none⟩)
  | 2, v, _ => v = .pointer (some ⟨hb, 0, none⟩)
  | 3, v, _ => v = .pointer (some ⟨hb, 0, none⟩)
  | 4, v, _ => v = .slice (some ⟨gb, 0, none⟩) len cap
  | 5, v, _ => v = .func (.func 26) #[] #[]
  | 6, v, _ => v = .func (.func 27) #[] #[]
  | 7, v, _ => v = .int .i64 i
  | 8, v, _ => v = .int .i64 (i + 1)
  | 9, v, _ => v = .agg #[.bool true, .int .i64 4, .int .i64 (i + 1), .bool false]
  | 10, v, _ => v = .func (.func 27) #[] #[]
  | 11, v, _ => v = .int .i64 i
  | 12, v, _ => v = .int .i64 (10 + i)
  | 13, v, _ => v = .agg #[.bool true, .int .i64 (10 + i), .int .i64 1, .bool false]
  | 14, v, w => EvsFr w9.heap.size w v [evWr 4 (i + 1), evWr (10 + i) 1]
  | 15, v, w => ∃ u, v = .agg #[u, .bool true] ∧ EvsFr w9.heap.size w u [evWr 4 (i + 1), evWr (10 + i) 1]
  | 16, v, w => TxsFr w9.heap.size w v [⟨[evWr 4 (i + 1), evWr (10 + i) 1], true⟩]
  | 17, v, w => ∃ b u, v = .slice (some ⟨b, 0, none⟩) 1 1 ∧ w.heap[b]? = some (.cells #[u] 32 (0, 0)) ∧ TxsFr w9.heap.size w u [⟨[evWr 4 (i + 1), evWr (10 + i) 1], true⟩]
  | 18, v, w => ∃ u, Grew0 w9 gb bs len 1 vs [u] (fun w => TxsFr w9.heap.size w u [⟨[evWr 4 (i + 1), evWr (10 + i) 1], true⟩]) v w
  | 19, v, _ => v = .pointer (some ⟨hb, 0, none⟩)
  | 20, v, _ => v = .pointer (some ⟨hb, 0, none⟩)
  | _, _, _ => True
/-- a post that lets no way out but the normal one. -/
def onlyN (K : Act → World → Prop) : Exit → Act → World → Prop
  | .normal, a, w => K a w
  | _, _, _ => False
def regionAt (id : Nat) : Code → Array Oper
  | .region i ops _ => if i = id then ops else #[]
  | .seq a b => regionAt id a ++ regionAt id b
  | .cond _ a b => regionAt id a ++ regionAt id b
  | .block _ a => regionAt id a
  | .loop a => regionAt id a
  | _ => #[]
theorem block_stay {w w' : World} (hb : Below w.heap.size w w') {b : Nat} {o : Obj} (h : w.heap[b]? = some o) : w'.heap[b]? = some o := by
  rw [hb.block b (Array.getElem?_eq_some_iff.1 h).1]; exact h
theorem Φ9_stay {w9 : World} {hb gb bs len cap : Nat} {vs : List Value} {i : Int} : ∀ j, j ≠ 18 → ∀ v w w', Below w.heap.size w w' → Φ9 w9 hb gb bs len cap vs i j v w → Φ9 w9 hb gb bs len cap vs i j v w' := by
  intro j hj v w w' hbw h
  match j, hj, h with
  | 0, _, h | 1, _, h | 2, _, h | 3, _, h | 4, _, h | 5, _, h | 6, _, h | 7, _, h | 8, _, h | 9, _, h | 10, _, h | 11, _, h | 12, _, h | 13, _, h | 19, _, h | 20, _, h => exact h
  | 14, _, h => exact EvsFr.stay hbw h
  | 15, _, h => obtain ⟨u, h1, h2⟩ := h; exact ⟨u, h1, h2.stay hbw⟩
  | 16, _, h => exact TxsFr.stay hbw h
  | 17, _, h => obtain ⟨b, u, h1, h2, h3⟩ := h; exact ⟨b, u, h1, block_stay hbw h2, h3.stay hbw⟩
  | 18, hj, _ => exact absurd rfl hj
  | _ + 21, _, _ => trivial

set_option maxRecDepth 100000 in
set_option maxHeartbeats 4000000 in
theorem region9 {K : Act → World → Prop} {x : Array Oper} (hx : regionAt 9 (Try.f20.body.getD .skip) = x) {base : Array Value} (hsz : base.size = 118) {w9 : World} {hb gb bs len cap : Nat} {vs : List Value} {i : Int}
    (h3 : base[3]? = some (.func (.func 26) #[] #[])) (h4 : base[4]? = some (.func (.func 27) #[] #[])) (h6 : base[6]? = some (.pointer (some ⟨hb, 0, none⟩))) (h8 : base[8]? = some (.int .i64 i)) (hi0 : 0 ≤ i) (hi1 : i ≤ 65536)
    (hc : w9.cell? ⟨hb, 0, none⟩ = some (.slice (some ⟨gb, 0, none⟩) len cap)) (hfz : w9.frozen? ⟨hb, 0, none⟩ = false) (hown : w9.ownsRow bs 32 1 (.slice (some ⟨gb, 0, none⟩) len cap) len vs) (hne : hb ≠ gb) (hlen : len ≤ 1048576) (hbs : bs ≤ w9.heap.size)
    (hK : ∀ a w u, FrB base 39 21 a → Grew w9 hb gb bs len 1 vs [u] (fun w => TxsFr w9.heap.size w u [⟨[evWr 4 (i + 1), evWr (10 + i) 1], true⟩]) w → K a w) :
    Code.wp Try.prog (.region 9 x true) (onlyN K) ⟨base, []⟩ w9 := by
  simp [regionAt, Try.f20] at hx
  subst hx
  have ok1 : okEv (evWr 4 (i + 1)) = true := by
    unfold okEv evWr; simp only [Bool.and_eq_true]; exact ⟨WalkArith.wf_i64 (by omega), WalkArith.wf_i64 (by omega)⟩
  have ok2 : okEv (evWr (10 + i) 1) = true := by
    unfold okEv evWr; simp only [Bool.and_eq_true]; exact ⟨WalkArith.wf_i64 (by omega), WalkArith.wf_i64 (by omega)⟩
  refine region_flow (m := 18) (d0 := 39) (anc := anc9) (G := fun w => Below w9.heap.size w9 w) (Φ := Φ9 w9 hb gb bs len cap vs i) (by kernel_rfl) rfl (by decide +kernel) (fun j h => by simp [anc9] at h; simp; omega) (by decide) (by rw [hsz]; decide)
    (fun w w' h1 h2 => h2.trans (h1.mono h2.size)) Φ9_stay (fun j v w w' h1 h2 h => ?_) (all_lit ?_) ?_ (below_drewN (Below.refl _ _) 1)
  · match j, h1, h2, h with
    | 0, _, _, h => exact h
    | 19, _, _, h => exact h
    | 20, _, _, h => exact h
    | _ + 21, _, _, _ => trivial
  · refine .cons (fun _ => ⟨fun h => absurd h (by decide), fun h => absurd h (by decide), fun _ _ a w hfr hd => ?_⟩) (.cons (fun _ => ⟨fun _ _ a w hfr hg hd => ?_, fun h => absurd h (by decide), fun h => absurd h (by decide)⟩) (.cons (fun _ => ⟨fun _ _ a w hfr hg hd => ?_, fun h => absurd h (by decide), fun h => absurd h (by decide)⟩) (.cons (fun _ => ⟨fun _ _ a w hfr hg hd => ?_, fun h => absurd h (by decide), fun h => absurd h (by decide)⟩) (.cons (fun _ => ⟨fun _ _ a w hfr hg hd => ?_, fun h => absurd h (by decide), fun h => absurd h (by decide)⟩) (.cons (fun _ => ⟨fun _ _ a w hfr hg hd => ?_, fun h => absurd h (by decide), fun h => absurd h (by decide)⟩) (.cons (fun _ => ⟨fun _ _ a w hfr hg hd => ?_, fun h => absurd h (by decide), fun h => absurd h (by decide)⟩) (.cons (fun _ => ⟨fun _ _ a w hfr hg hd => ?_, fun h => absurd h (by decide), fun h => absurd h (by decide)⟩) (.cons (fun _ => ⟨fun _ _ a w hfr hg hd => ?_, fun h => absurd h (by decide), fun h => absurd h (by decide)⟩) (.cons (fun _ => ⟨fun _ _ a w hfr hg hd => ?_, fun h => absurd h (by decide), fun h => absurd h (by decide)⟩) (.cons (fun _ => ⟨fun _ _ a w hfr hg hd => ?_, fun h => absurd h (by decide), fun h => absurd h (by decide)⟩) (.cons (fun _ => ⟨fun _ _ a w hfr hg hd => ?_, fun h => absurd h (by decide), fun h => absurd h (by decide)⟩) (.cons (fun _ => ⟨fun _ _ a w hfr hg hd => ?_, fun h => absurd h (by decide), fun h => absurd h (by decide)⟩) (.cons (fun _ => ⟨fun _ _ a w hfr hg hd => ?_, fun h => absurd h (by decide), fun h => absurd h (by decide)⟩) (.cons (fun _ => ⟨fun _ _ a w hfr hg hd => ?_, fun h => absurd h (by decide), fun h => absurd h (by decide)⟩) (.cons (fun _ => ⟨fun _ _ a w hfr hg hd => ?_, fun h => absurd h (by decide), fun h => absurd h (by decide)⟩) (.cons (fun _ => ⟨fun _ _ a w hfr hg hd => ?_, fun h => absurd h (by decide), fun h => absurd h (by decide)⟩) (.cons (fun _ => ⟨fun _ _ a w hfr hg hd => ?_, fun h => absurd h (by decide), fun h => absurd h (by decide)⟩) (.cons (fun _ => ⟨fun h => absurd h (by decide), fun _ a w hfr hg hd => ?_, fun _ h => absurd rfl h⟩) (.cons (fun _ => ⟨fun h => absurd h (by decide), fun h => absurd h (by decide), fun _ _ a w hfr hd => ?_⟩) (.cons (fun _ => ⟨fun h => absurd h (by decide), fun h => absurd h (by decide), fun _ _ a w hfr hd => ?_⟩) (.cons (fun h => absurd h (by decide)) (.nil))))))))))))))))))))))
    · exact st_move rfl (hfr.eval (.inl (by decide)) h6) ⟨_, rfl, rfl, rfl⟩
    · exact st_move rfl (hfr.eval (.inl (by decide)) h6) ⟨_, rfl, Below.refl _ _, rfl⟩
    · exact st_nil rfl (hd 1 (by kernel_rfl)) ⟨_, rfl, Below.refl _ _, rfl⟩
    · exact st_field rfl (hd 2 (by kernel_rfl)) ⟨_, rfl, Below.refl _ _, rfl⟩
    · exact st_load rfl (hd 3 (by kernel_rfl)) (cell_stay hg hc) ⟨_, rfl, Below.refl _ _, rfl⟩
    · exact st_move rfl (hfr.eval (.inl (by decide)) h3) ⟨_, rfl, Below.refl _ _, rfl⟩
    · exact st_move rfl (hfr.eval (.inl (by decide)) h4) ⟨_, rfl, Below.refl _ _, rfl⟩
    · exact st_move rfl (hfr.eval (.inl (by decide)) h8) ⟨_, rfl, Below.refl _ _, rfl⟩
    · exact st_add rfl (hd 7 (by kernel_rfl)) rfl (by omega) (by omega) ⟨_, rfl, Below.refl _ _, rfl⟩
    · exact st_write rfl (hd 6 (by kernel_rfl)) rfl (hd 8 (by kernel_rfl)) fun w' hb' => ⟨_, rfl, hb', rfl⟩
    · exact st_move rfl (hfr.eval (.inl (by decide)) h4) ⟨_, rfl, Below.refl _ _, rfl⟩
    · exact st_move rfl (hfr.eval (.inl (by decide)) h8) ⟨_, rfl, Below.refl _ _, rfl⟩
    · exact st_add rfl rfl (hd 11 (by kernel_rfl)) (by omega) (by omega) ⟨_, rfl, Below.refl _ _, rfl⟩
    · exact st_write rfl (hd 10 (by kernel_rfl)) (hd 12 (by kernel_rfl)) rfl fun w' hb' => ⟨_, rfl, hb', rfl⟩
    · exact st_evs2 rfl (hd 9 (by kernel_rfl)) (hd 13 (by kernel_rfl)) ⟨_, rfl, below_alloc _ _, evs_fr2 w (evWr 4 (i + 1)) (evWr (10 + i) 1) hg.size ok1 ok2⟩
    · have h : EvsFr w9.heap.size w (a.eval (.tmp 53)) [evWr 4 (i + 1), evWr (10 + i) 1] := hd 14 (by kernel_rfl)
      obtain ⟨ad, n, c, e⟩ := h.form
      rw [e] at h
      exact st_txn rfl (hd 5 (by kernel_rfl)) e fun w' hb' => ⟨_, rfl, hb', _, rfl, h.stay hb'⟩
    · obtain ⟨u, e, h⟩ := hd 15 (by kernel_rfl)
      exact st_tx1 rfl e ⟨_, rfl, below_alloc _ _, txs_fr1 w ⟨[evWr 4 (i + 1), evWr (10 + i) 1], true⟩ hg.size h⟩
    · have h : TxsFr w9.heap.size w (a.eval (.tmp 55)) [⟨[evWr 4 (i + 1), evWr (10 + i) 1], true⟩] := hd 16 (by kernel_rfl)
      obtain ⟨ad, n, c, e⟩ := h.form
      rw [e] at h
      exact st_sess1 rfl e ⟨_, rfl, below_alloc _ _, w.heap.size, .slice ad n c, rfl, heap_alloc_new w _, h.stay (below_alloc _ _)⟩
    · obtain ⟨b, u, e, hbk, h⟩ := hd 17 (by kernel_rfl)
      obtain ⟨ad, n, c, rfl⟩ := h.form
      exact st_append (us := [.slice ad n c]) rfl (hd 4 (by kernel_rfl)) e hbk rfl (by simp [Value.oneCell']) (by decide) (by decide) hlen hg hown hbs (fun w' hf => h.keep hf) fun v w' h0 => ⟨v, rfl, _, h0⟩
    · exact st_nil rfl (hd 0 (by kernel_rfl) rfl (by decide)) ⟨_, rfl, rfl, rfl⟩
    · exact st_field rfl (hd 19 (by kernel_rfl) rfl (by decide)) ⟨_, rfl, rfl, rfl⟩
  · intro a w hfr hm hrest
    obtain ⟨u, g, cap', H, e, ho, hg, hH, hH', h9, hp⟩ := hm
    have e20 : a.eval (.tmp 59) = .pointer (some ⟨hb, 0, none⟩) := hrest 20 (by decide) rfl (by decide)
    have hlt := cell_lt hc
    simp only at hlt
    refine st_store rfl rfl e20 e (by rw [h9.cell_far _ hlt (by simpa using hne)]; exact hc) (by rw [h9.frozen_far _ hlt (by simpa using hne)]; exact hfz) ?_
    exact hK a _ u hfr (grew_store hne hc hfz ho hg hH hH' h9 hp)
end Go.Proofs.Qxb6000864a
