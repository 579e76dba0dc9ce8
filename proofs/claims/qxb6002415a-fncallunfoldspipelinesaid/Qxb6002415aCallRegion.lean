import Derived.Test.Qxb6002415aNodes
import Derived.Test.Qxb6002415aFlowRegion
namespace Go.Proofs.Qxb6002415a
open Go.RowKit
section
variable {P : Program} {o : Oper} {a : Act} {w : World} {K : Act → World → Prop} {Q : Exit → Act → World → Prop}
theorem st_of {v : Value} {w' : World} (hr : (execOp a.eval o).run P w = .ok (.value v) w') (h : K (a.put o.dst v) w') : o.wp P a w K Q := by
  unfold Oper.wp
  rw [hr]
  exact h
theorem st_move {x : Operand} {v : Value} (ho : o.op = .move x) (hx : a.eval x = v) (h : K (a.put o.dst v) w) : o.wp P a w K Q := by
  refine st_of ?_ h
  obtain ⟨dst, op, type, pos, after, guard⟩ := o
  simp only at ho
  subst ho
  simp only [execOp, hx]
  rfl
theorem st_nil {x : Operand} {ad : Addr} (ho : o.op = .nilCheck x) (hx : a.eval x = .pointer (some ad)) (h : K (a.put o.dst (.pointer (some ad))) w) : o.wp P a w K Q := by
  refine st_of ?_ h
  obtain ⟨dst, op, type, pos, after, guard⟩ := o
  simp only at ho
  subst ho
  simp only [execOp, hx]
  simp [go_sem]
theorem run_enter {k : Nat} {fn : Func} {args : Array Value} (hf : P.funcs[k]? = some fn) (hn : (fn.name == "runtime.NumGoroutine") = false) (hb : fn.body.isNone = false) : (callFunc k args).run P w = .ok (.enter k args) w := by
  unfold callFunc
  simp at hn
  have hb' : ¬ fn.body = none := by
    intro h
    rw [h] at hb
    cases hb
  simp [go_sem, hf, hn, hb']
theorem st_call {f : Operand} {args : Array Operand} {ts : Array TypeId} {k : Nat} (ho : o.op = .call { callee := .value f, args := args, argTypes := ts }) (hf : a.eval f = .func (.func k) #[] #[])
    {fn : Func} (hfn : P.funcs[k]? = some fn) (hn : (fn.name == "runtime.NumGoroutine") = false) (hb : fn.body.isNone = false)
    (h : Calls P k (args.map a.eval) w fun e w' => ∃ v, e = .returned v ∧ K (a.put o.dst v) w') : o.wp P a w K Q := by
  have hr : (execOp a.eval o).run P w = .ok (.enter k (args.map a.eval)) w := by
    obtain ⟨dst, op, type, pos, after, guard⟩ := o
    simp only at ho
    subst ho
    simp only [execOp, resolve, hf]
    simp [go_sem]
    exact run_enter hfn hn hb
  unfold Oper.wp
  rw [hr]
  refine Calls.mono h ?_
  rintro e w' ⟨v, rfl, h⟩
  exact h
end
section
end
section
variable {o : Oper} {a : Act} {w : World} {K : Act → World → Prop} {Q : Exit → Act → World → Prop}
theorem st_assign {x : Operand} {v : Value} (ho : o.op = .assign x) (hx : a.eval x = v) (h : K (a.put o.dst v) w) : o.wp Try.prog a w K Q := by
  refine st_of ?_ h
  obtain ⟨dst, op, type, pos, after, guard⟩ := o
  simp only at ho
  subst ho
  simp only [execOp, hx]
  rfl
theorem st_field45 (j : Nat) {x : Operand} {b : Nat} (hj : j < 7) (ho : o.op = .fieldAddr 45 x j) (hx : a.eval x = .pointer (some ⟨b, 0, none⟩)) (h : K (a.put o.dst (.pointer (some ⟨b, j, none⟩))) w) : o.wp Try.prog a w K Q := by
  refine st_of ?_ h
  obtain ⟨dst, op, type, pos, after, guard⟩ := o
  simp only at ho
  subst ho
  simp only [execOp, hx]
  match j, hj with
  | 0, _ => simp [go_sem]
  | 1, _ => simp [go_sem]
  | 2, _ => simp [go_sem]
  | 3, _ => simp [go_sem]
  | 4, _ => simp [go_sem]
  | 5, _ => simp [go_sem]
  | 6, _ => simp [go_sem]
theorem st_load1 (t : TypeId) (ht : t = 9 ∨ t = 3 ∨ t = 30 ∨ t = 29) {x : Operand} {b o' : Nat} {v : Value} (ho : o.op = .load t x) (hx : a.eval x = .pointer (some ⟨b, o', none⟩)) (hv : w.cell? ⟨b, o', none⟩ = some v) (h : K (a.put o.dst v) w) : o.wp Try.prog a w K Q := by
  refine st_of ?_ h
  obtain ⟨dst, op, type, pos, after, guard⟩ := o
  simp only at ho
  subst ho
  simp only [execOp, hx]
  rcases ht with rfl | rfl | rfl | rfl <;> simp [go_sem, hv]
theorem st_dec {x : Operand} {l : Nat} (hl : l ≤ 64) (ho : o.op = .binOp .sub 3 x (.const (.int .i64 1)) 3) (hx : a.eval x = .int .i64 ((l + 1 : Nat) : Int)) (h : K (a.put o.dst (.int .i64 (l : Int))) w) : o.wp Try.prog a w K Q := by
  refine st_of ?_ h
  obtain ⟨dst, op, type, pos, after, guard⟩ := o
  simp only at ho
  subst ho
  simp only [execOp, hx]
  simp [go_sem]
  rw [IntKind.wrap_i64]
  omega
theorem st_index30 {x y : Operand} {b n c k : Nat} (ho : o.op = .indexAddr 30 x y) (hx : a.eval x = .slice (some ⟨b, 0, none⟩) n c) (hy : a.eval y = .int .i64 (k : Int)) (hk : k < n) (h : K (a.put o.dst (.pointer (some ⟨b, k, none⟩))) w) : o.wp Try.prog a w K Q := by
  refine st_of ?_ h
  obtain ⟨dst, op, type, pos, after, guard⟩ := o
  simp only at ho
  subst ho
  simp only [execOp, hx, hy]
  simp [go_sem, hk]
theorem st_sliceTo {x y : Operand} {b n c k : Nat} (ho : o.op = .slice 30 x none (some y) none) (hx : a.eval x = .slice (some ⟨b, 0, none⟩) n c) (hy : a.eval y = .int .i64 (k : Int)) (hk : k ≤ c) (h : K (a.put o.dst (.slice (some ⟨b, 0, none⟩) k c)) w) : o.wp Try.prog a w K Q := by
  refine st_of ?_ h
  obtain ⟨dst, op, type, pos, after, guard⟩ := o
  simp only at ho
  subst ho
  simp [execOp, hx, hy]
  simp [go_sem, hk]
theorem st_build45 {x0 x1 x2 x3 x4 x5 : Operand} {s : ByteArray} {i1 i2 i3 i4 : Int} {sa : Option Addr} {sn sc : Nat} (ho : o.op = .build 45 #[(0, x0), (1, x1), (2, x2), (3, x3), (4, x4), (5, x5), (6, .const (.bool true))])
    (h0 : a.eval x0 = .string s) (h1 : a.eval x1 = .int .i64 i1) (h2 : a.eval x2 = .int .i64 i2) (h3 : a.eval x3 = .int .i64 i3) (h4 : a.eval x4 = .int .i64 i4) (h5 : a.eval x5 = .slice sa sn sc)
    (h : K (a.put o.dst (.agg #[.string s, .int .i64 i1, .int .i64 i2, .int .i64 i3, .int .i64 i4, .slice sa sn sc, .bool true])) w) : o.wp Try.prog a w K Q := by
  refine st_of ?_ h
  obtain ⟨dst, op, type, pos, after, guard⟩ := o
  simp only at ho
  subst ho
  simp [execOp, h0, h1, h2, h3, h4, h5]
  simp [go_sem]
theorem st_box45 {x : Operand} {s : ByteArray} {i1 i2 i3 i4 : Int} {sa : Option Addr} {sn sc : Nat} {bb : Bool} (ho : o.op = .box 45 x) (hx : a.eval x = .agg #[.string s, .int .i64 i1, .int .i64 i2, .int .i64 i3, .int .i64 i4, .slice sa sn sc, .bool bb])
    (h : K (a.put o.dst (.pointer (some ⟨w.heap.size, 0, none⟩))) (w.alloc (.cells #[.string s, .int .i64 i1, .int .i64 i2, .int .i64 i3, .int .i64 i4, .slice sa sn sc, .bool bb] 45))) : o.wp Try.prog a w K Q := by
  refine st_of ?_ h
  obtain ⟨dst, op, type, pos, after, guard⟩ := o
  simp only at ho
  subst ho
  simp [execOp, hx]
  simp [go_sem]
theorem st_invoke {x : Operand} {nm : String} {t k : Nat} {ad : Addr} (ho : o.op = .call { callee := .invoke x nm, args := #[], argTypes := #[] }) (hx : a.eval x = .iface t (.pointer (some ad)))
    (hm : ∀ w, (method 172 t (.pointer (some ad)) nm).run Try.prog w = .ok (k, .pointer (some ad)) w) {fn : Func} (hfn : Try.prog.funcs[k]? = some fn) (hn : (fn.name == "runtime.NumGoroutine") = false) (hb : fn.body.isNone = false)
    (h : Calls Try.prog k #[.pointer (some ad)] w fun e w' => ∃ v, e = .returned v ∧ K (a.put o.dst v) w') : o.wp Try.prog a w K Q := by
  have hr : (execOp a.eval o).run Try.prog w = .ok (.enter k #[.pointer (some ad)]) w := by
    obtain ⟨dst, op, type, pos, after, guard⟩ := o
    simp only at ho
    subst ho
    simp only [execOp, resolve, hx]
    simp [go_sem, hm]
    exact run_enter hfn hn hb
  unfold Oper.wp
  rw [hr]
  refine Calls.mono h ?_
  rintro e w' ⟨v, rfl, h⟩
  exact h
end
theorem st_end {o : Oper} {a : Act} {w : World} {K : Act → World → Prop} {Q : Exit → Act → World → Prop} {x : Operand} {v : Value} {k st : Int} {nm : String} (hnm : IsEnd nm) (ho : o.op = .call { callee := .invoke x nm, args := #[], argTypes := #[] }) (hx : a.eval x = v) (hn : NodeAt w v k st)
    (h : K (a.put o.dst (.int .i64 st)) w) : o.wp Try.prog a w K Q := by
  obtain ⟨b, _, ⟨_, rfl, h4⟩ | ⟨_, rfl, h4, _⟩ | ⟨_, rfl, h4⟩⟩ := hn
  · refine st_invoke ho hx (methEnd52 hnm _) Try.func37 (by kernel_rfl) (by kernel_rfl) ((wordEnd_any b 0 st w (by simpa using h4)).mono ?_)
    rintro e w' ⟨rfl, rfl⟩
    exact ⟨_, rfl, h⟩
  · refine st_invoke ho hx (methEnd46 hnm _) Try.func34 (by kernel_rfl) (by kernel_rfl) ((pipeEnd_any b 0 st w (by simpa using h4)).mono ?_)
    rintro e w' ⟨rfl, rfl⟩
    exact ⟨_, rfl, h⟩
  · refine st_invoke ho hx (methEnd25 hnm _) Try.func32 (by kernel_rfl) (by kernel_rfl) ((blockEnd_any b 0 st w (by simpa using h4)).mono ?_)
    rintro e w' ⟨rfl, rfl⟩
    exact ⟨_, rfl, h⟩
def AllFrom (S : Nat → Oper → Prop) : Nat → List Oper → Prop
  | _, [] => True
  | i, o :: os => S i o ∧ AllFrom S (i + 1) os
theorem AllFrom.nil {S : Nat → Oper → Prop} {i : Nat} : AllFrom S i [] := trivial
theorem AllFrom.cons {S : Nat → Oper → Prop} {i : Nat} {o : Oper} {os : List Oper} (h : S i o) (h' : AllFrom S (i + 1) os) : AllFrom S i (o :: os) := ⟨h, h'⟩
theorem AllFrom.get {S : Nat → Oper → Prop} : ∀ (l : List Oper) (k : Nat), AllFrom S k l → ∀ i o, l[i]? = some o → S (k + i) o
  | [], _, _, i, o, h => by simp at h
  | x :: l, k, h, 0, o, hi => by simp at hi; subst hi; exact h.1
  | x :: l, k, h, i + 1, o, hi => by
    have := AllFrom.get l (k + 1) h.2 i o (by simpa using hi)
    rwa [Nat.add_assoc, Nat.add_comm 1 i] at this
theorem all_lit {S : Nat → Oper → Prop} {x : Array Oper} (h : AllFrom S 0 x.toList) : ∀ i o, x[i]? = some o → S i o := fun i o hi => by
  have := AllFrom.get x.toList 0 h i o (by simpa using hi)
  rwa [Nat.zero_add] at this
def onlyN (K : Act → World → Prop) : Exit → Act → World → Prop
  | .normal, a, w => K a w
  | _, _, _ => False
theorem wp_onlyN {P : Program} {c : Code} {Q : Exit → Act → World → Prop} {a : Act} {w : World} (h : Code.wp P c (onlyN (fun a w => Q .normal a w)) a w) : Code.wp P c Q a w :=
  Code.wp_mono (fun e a w he => by cases e <;> first | exact he | exact he.elim) h
def regionAt (id : Nat) : Code → Array Oper
  | .region i ops _ => if i = id then ops else #[]
  | .seq a b => regionAt id a ++ regionAt id b
  | .cond _ a b => regionAt id a ++ regionAt id b
  | .block _ a => regionAt id a
  | .loop a => regionAt id a
  | _ => #[]
def anc18 (j : Nat) : Bool := decide (j ≤ 36)
def Φ18 (w9 : World) (b nb m c l : Nat) (src : ByteArray) (nv : Value) : Nat → Value → World → Prop
  | 0, v, _ => v = .pointer (some ⟨b, 0, none⟩)
  | 1, v, _ => v = .pointer (some ⟨b, 0, none⟩)
  | 2, v, _ => v = .pointer (some ⟨b, 0, none⟩)
  | 3, v, _ => v = .string src
  | 4, v, _ => v = .pointer (some ⟨b, 0, none⟩)
  | 5, v, _ => v = .pointer (some ⟨b, 0, none⟩)
  | 6, v, _ => v = .pointer (some ⟨b, 1, none⟩)
  | 7, v, _ => v = .int .i64 0
  | 8, v, _ => v = .pointer (some ⟨b, 0, none⟩)
  | 9, v, _ => v = .pointer (some ⟨b, 0, none⟩)
  | 10, v, _ => v = .pointer (some ⟨b, 5, none⟩)
  | 11, v, _ => v = .slice (some ⟨nb, 0, none⟩) m c
  | 12, v, _ => v = .int .i64 ((l + 1 : Nat) : Int)
  | 13, v, _ => v = .int .i64 (l : Int)
  | 14, v, _ => v = .pointer (some ⟨nb, l, none⟩)
  | 15, v, _ => v = nv
  | 16, v, _ => v = .int .i64 ((l : Int) + 1)
  | 17, v, _ => v = .pointer (some ⟨b, 0, none⟩)
  | 18, v, _ => v = .pointer (some ⟨b, 0, none⟩)
  | 19, v, _ => v = .pointer (some ⟨b, 3, none⟩)
  | 20, v, _ => v = .int .i64 7
  | 21, v, _ => v = .pointer (some ⟨b, 0, none⟩)
  | 22, v, _ => v = .pointer (some ⟨b, 0, none⟩)
  | 23, v, _ => v = .pointer (some ⟨b, 5, none⟩)
  | 24, v, _ => v = .slice (some ⟨nb, 0, none⟩) m c
  | 25, v, _ => v = .int .i64 ((l + 1 : Nat) : Int)
  | 26, v, _ => v = .int .i64 (l : Int)
  | 27, v, _ => v = .pointer (some ⟨nb, l, none⟩)
  | 28, v, _ => v = nv
  | 29, v, _ => v = .int .i64 ((l : Int) + 1)
  | 30, v, _ => v = .pointer (some ⟨b, 0, none⟩)
  | 31, v, _ => v = .pointer (some ⟨b, 0, none⟩)
  | 32, v, _ => v = .pointer (some ⟨b, 5, none⟩)
  | 33, v, _ => v = .slice (some ⟨nb, 0, none⟩) m c
  | 34, v, _ => v = .int .i64 ((l + 1 : Nat) : Int)
  | 35, v, _ => v = .slice (some ⟨nb, 0, none⟩) (l + 1) c
  | 36, v, _ => v = .agg #[.string src, .int .i64 0, .int .i64 ((l : Int) + 1), .int .i64 7, .int .i64 ((l : Int) + 1), .slice (some ⟨nb, 0, none⟩) (l + 1) c, .bool true]
  | 37, v, w => ∃ pb, v = .pointer (some ⟨pb, 0, none⟩) ∧ BlkAt w pb src (l + 1) (some ⟨nb, 0, none⟩) (l + 1) c true ∧ Below w9.heap.size w9 w
  | _, _, _ => True
theorem Φ18_stay {w9 : World} {b nb m c l : Nat} {src : ByteArray} {nv : Value} : ∀ j, j ≠ 37 → ∀ v w w', Below w.heap.size w w' → Φ18 w9 b nb m c l src nv j v w → Φ18 w9 b nb m c l src nv j v w' := by
  intro j hj v w w' hbw h
  match j, hj, h with
  | 0, _, h | 1, _, h | 2, _, h | 3, _, h | 4, _, h | 5, _, h | 6, _, h | 7, _, h | 8, _, h | 9, _, h | 10, _, h | 11, _, h | 12, _, h | 13, _, h | 14, _, h | 15, _, h | 16, _, h | 17, _, h | 18, _, h | 19, _, h | 20, _, h | 21, _, h | 22, _, h | 23, _, h | 24, _, h | 25, _, h | 26, _, h | 27, _, h | 28, _, h | 29, _, h | 30, _, h | 31, _, h | 32, _, h | 33, _, h | 34, _, h | 35, _, h | 36, _, h => exact h
  | 37, hj, _ => exact absurd rfl hj
  | _ + 38, _, _ => trivial
set_option maxRecDepth 100000 in
set_option maxHeartbeats 4000000 in
theorem region18 {K : Act → World → Prop} {x : Array Oper} (hx : regionAt 18 (Try.f7.body.getD .skip) = x) {base : Array Value} (hsz : base.size = 127) {w9 : World} {b nb m c l : Nat} {src : ByteArray} {nv : Value} {kd : Int}
    (h0 : base[0]? = some (.pointer (some ⟨b, 0, none⟩))) (h5 : base[5]? = some (.int .i64 ((l + 1 : Nat) : Int))) (hl : l + 1 < m) (hmc : m ≤ c) (hl64 : l ≤ 64)
    (c0 : w9.cell? ⟨b, 0, none⟩ = some (.string src)) (c1 : w9.cell? ⟨b, 1, none⟩ = some (.int .i64 0)) (c3 : w9.cell? ⟨b, 3, none⟩ = some (.int .i64 7)) (c5 : w9.cell? ⟨b, 5, none⟩ = some (.slice (some ⟨nb, 0, none⟩) m c))
    (cn : w9.cell? ⟨nb, l, none⟩ = some nv) (hn : NodeAt w9 nv kd ((l : Int) + 1))
    (hK : ∀ a w pb, FrB base 79 38 a → BlkAt w pb src (l + 1) (some ⟨nb, 0, none⟩) (l + 1) c true → Below w9.heap.size w9 w → K (a.put (some 11) (.pointer (some ⟨pb, 0, none⟩))) w) :
    Code.wp Try.prog (.region 18 x true) (onlyN K) ⟨base, []⟩ w9 := by
  simp [regionAt, Try.f7] at hx
  subst hx
  obtain ⟨nm, hnm⟩ := isEnd
  have hnm2 := hnm
  simp [IsEnd, invIn, invOp, Try.f9] at hnm
  subst hnm
  refine region_flow (m := 37) (d0 := 79) (anc := anc18) (G := fun w => Below w9.heap.size w9 w) (Φ := Φ18 w9 b nb m c l src nv) (by kernel_rfl) rfl (by decide +kernel) (fun j h => by simp [anc18] at h; simp; omega) (by decide) (by rw [hsz]; decide)
    (fun w w' h1 h2 => h2.trans (h1.mono h2.size)) Φ18_stay (fun j v w w' h1 h2 h => ?_) (all_lit ?_) ?_ (below_drewN (Below.refl _ _) 1)
  · have h1' : ¬ j ≤ 36 := by simpa [anc18] using h1
    match j, h1', h2, h with
    | 37, _, h2, _ => exact absurd rfl h2
    | _ + 38, _, _, _ => trivial
    | 0, h1, _, _ | 1, h1, _, _ | 2, h1, _, _ | 3, h1, _, _ | 4, h1, _, _ | 5, h1, _, _ | 6, h1, _, _ | 7, h1, _, _ | 8, h1, _, _ | 9, h1, _, _ | 10, h1, _, _ | 11, h1, _, _ | 12, h1, _, _ | 13, h1, _, _ | 14, h1, _, _ | 15, h1, _, _ | 16, h1, _, _ | 17, h1, _, _ | 18, h1, _, _ | 19, h1, _, _ | 20, h1, _, _ | 21, h1, _, _ | 22, h1, _, _ | 23, h1, _, _ | 24, h1, _, _ | 25, h1, _, _ | 26, h1, _, _ | 27, h1, _, _ | 28, h1, _, _ | 29, h1, _, _ | 30, h1, _, _ | 31, h1, _, _ | 32, h1, _, _ | 33, h1, _, _ | 34, h1, _, _ | 35, h1, _, _ | 36, h1, _, _ => exact absurd (by omega) h1
  · refine .cons (fun _ => ⟨fun _ _ a w hfr hg hd => ?_, fun h => absurd h (by decide), fun h => absurd h (by decide)⟩) (.cons (fun _ => ⟨fun _ _ a w hfr hg hd => ?_, fun h => absurd h (by decide), fun h => absurd h (by decide)⟩) (.cons (fun _ => ⟨fun _ _ a w hfr hg hd => ?_, fun h => absurd h (by decide), fun h => absurd h (by decide)⟩) (.cons (fun _ => ⟨fun _ _ a w hfr hg hd => ?_, fun h => absurd h (by decide), fun h => absurd h (by decide)⟩) (.cons (fun _ => ⟨fun _ _ a w hfr hg hd => ?_, fun h => absurd h (by decide), fun h => absurd h (by decide)⟩) (.cons (fun _ => ⟨fun _ _ a w hfr hg hd => ?_, fun h => absurd h (by decide), fun h => absurd h (by decide)⟩) (.cons (fun _ => ⟨fun _ _ a w hfr hg hd => ?_, fun h => absurd h (by decide), fun h => absurd h (by decide)⟩) (.cons (fun _ => ⟨fun _ _ a w hfr hg hd => ?_, fun h => absurd h (by decide), fun h => absurd h (by decide)⟩) (.cons (fun _ => ⟨fun _ _ a w hfr hg hd => ?_, fun h => absurd h (by decide), fun h => absurd h (by decide)⟩) (.cons (fun _ => ⟨fun _ _ a w hfr hg hd => ?_, fun h => absurd h (by decide), fun h => absurd h (by decide)⟩) (.cons (fun _ => ⟨fun _ _ a w hfr hg hd => ?_, fun h => absurd h (by decide), fun h => absurd h (by decide)⟩) (.cons (fun _ => ⟨fun _ _ a w hfr hg hd => ?_, fun h => absurd h (by decide), fun h => absurd h (by decide)⟩) (.cons (fun _ => ⟨fun _ _ a w hfr hg hd => ?_, fun h => absurd h (by decide), fun h => absurd h (by decide)⟩) (.cons (fun _ => ⟨fun _ _ a w hfr hg hd => ?_, fun h => absurd h (by decide), fun h => absurd h (by decide)⟩) (.cons (fun _ => ⟨fun _ _ a w hfr hg hd => ?_, fun h => absurd h (by decide), fun h => absurd h (by decide)⟩) (.cons (fun _ => ⟨fun _ _ a w hfr hg hd => ?_, fun h => absurd h (by decide), fun h => absurd h (by decide)⟩) (.cons (fun _ => ⟨fun _ _ a w hfr hg hd => ?_, fun h => absurd h (by decide), fun h => absurd h (by decide)⟩) (.cons (fun _ => ⟨fun _ _ a w hfr hg hd => ?_, fun h => absurd h (by decide), fun h => absurd h (by decide)⟩) (.cons (fun _ => ⟨fun _ _ a w hfr hg hd => ?_, fun h => absurd h (by decide), fun h => absurd h (by decide)⟩) (.cons (fun _ => ⟨fun _ _ a w hfr hg hd => ?_, fun h => absurd h (by decide), fun h => absurd h (by decide)⟩) (.cons (fun _ => ⟨fun _ _ a w hfr hg hd => ?_, fun h => absurd h (by decide), fun h => absurd h (by decide)⟩) (.cons (fun _ => ⟨fun _ _ a w hfr hg hd => ?_, fun h => absurd h (by decide), fun h => absurd h (by decide)⟩) (.cons (fun _ => ⟨fun _ _ a w hfr hg hd => ?_, fun h => absurd h (by decide), fun h => absurd h (by decide)⟩) (.cons (fun _ => ⟨fun _ _ a w hfr hg hd => ?_, fun h => absurd h (by decide), fun h => absurd h (by decide)⟩) (.cons (fun _ => ⟨fun _ _ a w hfr hg hd => ?_, fun h => absurd h (by decide), fun h => absurd h (by decide)⟩) (.cons (fun _ => ⟨fun _ _ a w hfr hg hd => ?_, fun h => absurd h (by decide), fun h => absurd h (by decide)⟩) (.cons (fun _ => ⟨fun _ _ a w hfr hg hd => ?_, fun h => absurd h (by decide), fun h => absurd h (by decide)⟩) (.cons (fun _ => ⟨fun _ _ a w hfr hg hd => ?_, fun h => absurd h (by decide), fun h => absurd h (by decide)⟩) (.cons (fun _ => ⟨fun _ _ a w hfr hg hd => ?_, fun h => absurd h (by decide), fun h => absurd h (by decide)⟩) (.cons (fun _ => ⟨fun _ _ a w hfr hg hd => ?_, fun h => absurd h (by decide), fun h => absurd h (by decide)⟩) (.cons (fun _ => ⟨fun _ _ a w hfr hg hd => ?_, fun h => absurd h (by decide), fun h => absurd h (by decide)⟩) (.cons (fun _ => ⟨fun _ _ a w hfr hg hd => ?_, fun h => absurd h (by decide), fun h => absurd h (by decide)⟩) (.cons (fun _ => ⟨fun _ _ a w hfr hg hd => ?_, fun h => absurd h (by decide), fun h => absurd h (by decide)⟩) (.cons (fun _ => ⟨fun _ _ a w hfr hg hd => ?_, fun h => absurd h (by decide), fun h => absurd h (by decide)⟩) (.cons (fun _ => ⟨fun _ _ a w hfr hg hd => ?_, fun h => absurd h (by decide), fun h => absurd h (by decide)⟩) (.cons (fun _ => ⟨fun _ _ a w hfr hg hd => ?_, fun h => absurd h (by decide), fun h => absurd h (by decide)⟩) (.cons (fun _ => ⟨fun _ _ a w hfr hg hd => ?_, fun h => absurd h (by decide), fun h => absurd h (by decide)⟩) (.cons (fun _ => ⟨fun h => absurd h (by decide), fun _ a w hfr hg hd => ?_, fun _ h => absurd rfl h⟩) (.cons (fun h => absurd h (by decide)) (.nil)))))))))))))))))))))))))))))))))))))))
    · exact st_move rfl (hfr.eval (.inl (by decide)) h0) ⟨_, rfl, Below.refl _ _, rfl⟩
    · exact st_nil rfl (hd 0 (by kernel_rfl)) ⟨_, rfl, Below.refl _ _, rfl⟩
    · exact st_field45 0 (by decide) rfl (hd 1 (by kernel_rfl)) ⟨_, rfl, Below.refl _ _, rfl⟩
    · exact st_load1 9 (.inl rfl) rfl (hd 2 (by kernel_rfl)) (cell_stay hg c0) ⟨_, rfl, Below.refl _ _, rfl⟩
    · exact st_move rfl (hfr.eval (.inl (by decide)) h0) ⟨_, rfl, Below.refl _ _, rfl⟩
    · exact st_nil rfl (hd 4 (by kernel_rfl)) ⟨_, rfl, Below.refl _ _, rfl⟩
    · exact st_field45 1 (by decide) rfl (hd 5 (by kernel_rfl)) ⟨_, rfl, Below.refl _ _, rfl⟩
    · exact st_load1 3 (.inr (.inl rfl)) rfl (hd 6 (by kernel_rfl)) (cell_stay hg c1) ⟨_, rfl, Below.refl _ _, rfl⟩
    · exact st_move rfl (hfr.eval (.inl (by decide)) h0) ⟨_, rfl, Below.refl _ _, rfl⟩
    · exact st_nil rfl (hd 8 (by kernel_rfl)) ⟨_, rfl, Below.refl _ _, rfl⟩
    · exact st_field45 5 (by decide) rfl (hd 9 (by kernel_rfl)) ⟨_, rfl, Below.refl _ _, rfl⟩
    · exact st_load1 30 (.inr (.inr (.inl rfl))) rfl (hd 10 (by kernel_rfl)) (cell_stay hg c5) ⟨_, rfl, Below.refl _ _, rfl⟩
    · exact st_move rfl (hfr.eval (.inl (by decide)) h5) ⟨_, rfl, Below.refl _ _, rfl⟩
    · exact st_dec hl64 rfl (hd 12 (by kernel_rfl)) ⟨_, rfl, Below.refl _ _, rfl⟩
    · exact st_index30 rfl (hd 11 (by kernel_rfl)) (hd 13 (by kernel_rfl)) (by omega) ⟨_, rfl, Below.refl _ _, rfl⟩
    · exact st_load1 29 (.inr (.inr (.inr rfl))) rfl (hd 14 (by kernel_rfl)) (cell_stay hg cn) ⟨_, rfl, Below.refl _ _, rfl⟩
    · exact st_end hnm2 rfl (hd 15 (by kernel_rfl)) (NodeIn.stay hn hg) ⟨_, rfl, Below.refl _ _, rfl⟩
    · exact st_move rfl (hfr.eval (.inl (by decide)) h0) ⟨_, rfl, Below.refl _ _, rfl⟩
    · exact st_nil rfl (hd 17 (by kernel_rfl)) ⟨_, rfl, Below.refl _ _, rfl⟩
    · exact st_field45 3 (by decide) rfl (hd 18 (by kernel_rfl)) ⟨_, rfl, Below.refl _ _, rfl⟩
    · exact st_load1 3 (.inr (.inl rfl)) rfl (hd 19 (by kernel_rfl)) (cell_stay hg c3) ⟨_, rfl, Below.refl _ _, rfl⟩
    · exact st_move rfl (hfr.eval (.inl (by decide)) h0) ⟨_, rfl, Below.refl _ _, rfl⟩
    · exact st_nil rfl (hd 21 (by kernel_rfl)) ⟨_, rfl, Below.refl _ _, rfl⟩
    · exact st_field45 5 (by decide) rfl (hd 22 (by kernel_rfl)) ⟨_, rfl, Below.refl _ _, rfl⟩
    · exact st_load1 30 (.inr (.inr (.inl rfl))) rfl (hd 23 (by kernel_rfl)) (cell_stay hg c5) ⟨_, rfl, Below.refl _ _, rfl⟩
    · exact st_move rfl (hfr.eval (.inl (by decide)) h5) ⟨_, rfl, Below.refl _ _, rfl⟩
    · exact st_dec hl64 rfl (hd 25 (by kernel_rfl)) ⟨_, rfl, Below.refl _ _, rfl⟩
    · exact st_index30 rfl (hd 24 (by kernel_rfl)) (hd 26 (by kernel_rfl)) (by omega) ⟨_, rfl, Below.refl _ _, rfl⟩
    · exact st_load1 29 (.inr (.inr (.inr rfl))) rfl (hd 27 (by kernel_rfl)) (cell_stay hg cn) ⟨_, rfl, Below.refl _ _, rfl⟩
    · exact st_end hnm2 rfl (hd 28 (by kernel_rfl)) (NodeIn.stay hn hg) ⟨_, rfl, Below.refl _ _, rfl⟩
    · exact st_move rfl (hfr.eval (.inl (by decide)) h0) ⟨_, rfl, Below.refl _ _, rfl⟩
    · exact st_nil rfl (hd 30 (by kernel_rfl)) ⟨_, rfl, Below.refl _ _, rfl⟩
    · exact st_field45 5 (by decide) rfl (hd 31 (by kernel_rfl)) ⟨_, rfl, Below.refl _ _, rfl⟩
    · exact st_load1 30 (.inr (.inr (.inl rfl))) rfl (hd 32 (by kernel_rfl)) (cell_stay hg c5) ⟨_, rfl, Below.refl _ _, rfl⟩
    · exact st_move rfl (hfr.eval (.inl (by decide)) h5) ⟨_, rfl, Below.refl _ _, rfl⟩
    · exact st_sliceTo rfl (hd 33 (by kernel_rfl)) (hd 34 (by kernel_rfl)) (by omega) ⟨_, rfl, Below.refl _ _, rfl⟩
    · exact st_build45 rfl (hd 3 (by kernel_rfl)) (hd 7 (by kernel_rfl)) (hd 16 (by kernel_rfl)) (hd 20 (by kernel_rfl)) (hd 29 (by kernel_rfl)) (hd 35 (by kernel_rfl)) ⟨_, rfl, Below.refl _ _, rfl⟩
    · exact st_box45 rfl (hd 36 (by kernel_rfl)) ⟨_, rfl, w.heap.size, rfl, ⟨by simp, by simp, by simp, by simp, by simp, by simp, by simp⟩, hg.alloc hg.size _⟩
  · intro a w hfr hm hrest
    obtain ⟨pb, e, hB, h9⟩ := hm
    exact st_assign rfl e (hK a w pb hfr hB h9)
theorem list_of19 {vs : List Value} (h : vs.length = 19) : ∃ v0 v1 v2 v3 v4 v5 v6 v7 v8 v9 v10 v11 v12 v13 v14 v15 v16 v17 v18, vs = [v0, v1, v2, v3, v4, v5, v6, v7, v8, v9, v10, v11, v12, v13, v14, v15, v16, v17, v18] :=
  match vs, h with
  | [v0, v1, v2, v3, v4, v5, v6, v7, v8, v9, v10, v11, v12, v13, v14, v15, v16, v17, v18], _ => ⟨v0, v1, v2, v3, v4, v5, v6, v7, v8, v9, v10, v11, v12, v13, v14, v15, v16, v17, v18, rfl⟩
theorem list_of38 {vs : List Value} (h : vs.length = 38) : ∃ v0 v1 v2 v3 v4 v5 v6 v7 v8 v9 v10 v11 v12 v13 v14 v15 v16 v17 v18 v19 v20 v21 v22 v23 v24 v25 v26 v27 v28 v29 v30 v31 v32 v33 v34 v35 v36 v37, vs = [v0, v1, v2, v3, v4, v5, v6, v7, v8, v9, v10, v11, v12, v13, v14, v15, v16, v17, v18, v19, v20, v21, v22, v23, v24, v25, v26, v27, v28, v29, v30, v31, v32, v33, v34, v35, v36, v37] := by
  obtain ⟨v0, v1, v2, v3, v4, v5, v6, v7, v8, v9, v10, v11, v12, v13, v14, v15, v16, v17, v18, e1⟩ := list_of19 (vs := vs.take 19) (by simp; omega)
  obtain ⟨v19, v20, v21, v22, v23, v24, v25, v26, v27, v28, v29, v30, v31, v32, v33, v34, v35, v36, v37, e2⟩ := list_of19 (vs := vs.drop 19) (by simp; omega)
  have e := List.take_append_drop 19 vs
  rw [e1, e2] at e
  exact ⟨v0, v1, v2, v3, v4, v5, v6, v7, v8, v9, v10, v11, v12, v13, v14, v15, v16, v17, v18, v19, v20, v21, v22, v23, v24, v25, v26, v27, v28, v29, v30, v31, v32, v33, v34, v35, v36, v37, e.symm⟩
set_option maxRecDepth 100000 in
set_option maxHeartbeats 4000000 in
theorem region18L {K : Act → World → Prop} {x : Array Oper} (hx : regionAt 18 (Try.f7.body.getD .skip) = x) {t1 t2 t3 t4 t6 t7 t8 t9 t10 t11 t12 t13 t14 t15 t16 t17 t18 t19 t20 t21 t22 t23 t24 t25 t26 t27 t28 t29 t30 t31 t32 t33 t34 t35 t36 t37 t38 t39 t40 t41 t42 t43 t44 t45 t46 t47 t48 t49 t50 t51 t52 t53 t54 t55 t56 t57 t58 t59 t60 t61 t62 t63 t64 t65 t66 t67 t68 t69 t70 t71 t72 t73 t74 t75 t76 t77 t78 t79 t80 t81 t82 t83 t84 t85 t86 t87 t88 t89 t90 t91 t92 t93 t94 t95 t96 t97 t98 t99 t100 t101 t102 t103 t104 t105 t106 t107 t108 t109 t110 t111 t112 t113 t114 t115 t116 t117 t118 t119 t120 t121 t122 t123 t124 t125 t126 : Value} {t0 t5 : Value} {w9 : World} {b nb m c l : Nat} {src : ByteArray} {nv : Value} {kd : Int}
    (h0 : t0 = .pointer (some ⟨b, 0, none⟩)) (h5 : t5 = .int .i64 ((l + 1 : Nat) : Int)) (hl : l + 1 < m) (hmc : m ≤ c) (hl64 : l ≤ 64)
    (c0 : w9.cell? ⟨b, 0, none⟩ = some (.string src)) (c1 : w9.cell? ⟨b, 1, none⟩ = some (.int .i64 0)) (c3 : w9.cell? ⟨b, 3, none⟩ = some (.int .i64 7)) (c5 : w9.cell? ⟨b, 5, none⟩ = some (.slice (some ⟨nb, 0, none⟩) m c))
    (cn : w9.cell? ⟨nb, l, none⟩ = some nv) (hn : NodeAt w9 nv kd ((l : Int) + 1))
    (hK : ∀ v0 v1 v2 v3 v4 v5 v6 v7 v8 v9 v10 v11 v12 v13 v14 v15 v16 v17 v18 v19 v20 v21 v22 v23 v24 v25 v26 v27 v28 v29 v30 v31 v32 v33 v34 v35 v36 v37 w pb, BlkAt w pb src (l + 1) (some ⟨nb, 0, none⟩) (l + 1) c true → Below w9.heap.size w9 w → K ⟨#[t0, t1, t2, t3, t4, t5, t6, t7, t8, t9, t10, (.pointer (some ⟨pb, 0, none⟩)), t12, t13, t14, t15, t16, t17, t18, t19, t20, t21, t22, t23, t24, t25, t26, t27, t28, t29, t30, t31, t32, t33, t34, t35, t36, t37, t38, t39, t40, t41, t42, t43, t44, t45, t46, t47, t48, t49, t50, t51, t52, t53, t54, t55, t56, t57, t58, t59, t60, t61, t62, t63, t64, t65, t66, t67, t68, t69, t70, t71, t72, t73, t74, t75, t76, t77, t78, v0, v1, v2, v3, v4, v5, v6, v7, v8, v9, v10, v11, v12, v13, v14, v15, v16, v17, v18, v19, v20, v21, v22, v23, v24, v25, v26, v27, v28, v29, v30, v31, v32, v33, v34, v35, v36, v37, t117, t118, t119, t120, t121, t122, t123, t124, t125, t126], []⟩ w) :
    Code.wp Try.prog (.region 18 x true) (onlyN K) ⟨#[t0, t1, t2, t3, t4, t5, t6, t7, t8, t9, t10, t11, t12, t13, t14, t15, t16, t17, t18, t19, t20, t21, t22, t23, t24, t25, t26, t27, t28, t29, t30, t31, t32, t33, t34, t35, t36, t37, t38, t39, t40, t41, t42, t43, t44, t45, t46, t47, t48, t49, t50, t51, t52, t53, t54, t55, t56, t57, t58, t59, t60, t61, t62, t63, t64, t65, t66, t67, t68, t69, t70, t71, t72, t73, t74, t75, t76, t77, t78, t79, t80, t81, t82, t83, t84, t85, t86, t87, t88, t89, t90, t91, t92, t93, t94, t95, t96, t97, t98, t99, t100, t101, t102, t103, t104, t105, t106, t107, t108, t109, t110, t111, t112, t113, t114, t115, t116, t117, t118, t119, t120, t121, t122, t123, t124, t125, t126], []⟩ w9 := by
  subst h0 h5
  refine region18 hx rfl rfl rfl hl hmc hl64 c0 c1 c3 c5 cn hn ?_
  intro a w pb hfr hB h9
  obtain ⟨l', hl', rfl, -⟩ := hfr.list (show 79 + 38 ≤ 127 by decide)
  obtain ⟨v0, v1, v2, v3, v4, v5, v6, v7, v8, v9, v10, v11, v12, v13, v14, v15, v16, v17, v18, v19, v20, v21, v22, v23, v24, v25, v26, v27, v28, v29, v30, v31, v32, v33, v34, v35, v36, v37, rfl⟩ := list_of38 hl'
  exact hK v0 v1 v2 v3 v4 v5 v6 v7 v8 v9 v10 v11 v12 v13 v14 v15 v16 v17 v18 v19 v20 v21 v22 v23 v24 v25 v26 v27 v28 v29 v30 v31 v32 v33 v34 v35 v36 v37 w pb hB h9
end Go.Proofs.Qxb6002415a
