import Derived.Test.Qxb6000864aFlowRegion
import Derived.Test.Qxb6000864aRaw
import Derived.Deep.AppendLies
namespace Go.Proofs.Qxb6000864a
open Go.RowKit
section
variable {P : Program} {o : Oper} {a : Act} {w : World} {K : Act → World → Prop} {Q : Exit → Act → World → Prop}
theorem st_of {v : Value} {w' : World} (hr : (execOp a.eval o).run P w = .ok (.value v) w') (h : K (a.put o.dst v) w') : o.wp P a w K Q := by
  unfold Oper.wp
  rw [hr]
  exact h
theorem st_move {x : Operand} {v : Value} (ho : o.op = .move x) (hx : a.eval x = v) (h : K (a.put o.dst v) w) : o.wp P a w K Q := by
  refine st_of ?_ h
  obtain ⟨dst, op, type, pos, after, guard⟩ := o
  simp only at ho
  subst ho
  simp only [execOp, hx]
  rfl
theorem st_nil {x : Operand} {ad : Addr} (ho : o.op = .nilCheck x) (hx : a.eval x = .pointer (some ad)) (h : K (a.put o.dst (.pointer (some ad))) w) : o.wp P a w K Q := by
  refine st_of ?_ h
  obtain ⟨dst, op, type, pos, after, guard⟩ := o
  simp only at ho
  subst ho
  simp only [execOp, hx]
  simp [go_sem]
theorem run_enter {k : Nat} {fn : Func} {args : Array Value} (hf : P.funcs[k]? = some fn) (hn : (fn.name == "runtime.NumGoroutine") = false) (hb : fn.body.isNone = false) : (callFunc k args).run P w = .ok (.enter k args) w := by
  unfold callFunc
  simp at hn
  have hb' : ¬ fn.body = none := by
    intro h
    rw [h] at hb
    cases hb
  simp [go_sem, hf, hn, hb']
theorem st_call {f : Operand} {args : Array Operand} {ts : Array TypeId} {k : Nat} (ho : o.op = .call { callee := .value f, args := args, argTypes := ts }) (hf : a.eval f = .func (.func k) #[] #[])
    {fn : Func} (hfn : P.funcs[k]? = some fn) (hn : (fn.name == "runtime.NumGoroutine") = false) (hb : fn.body.isNone = false)
    (h : Calls P k (args.map a.eval) w fun e w' => ∃ v, e = .returned v ∧ K (a.put o.dst v) w') : o.wp P a w K Q := by
  have hr : (execOp a.eval o).run P w = .ok (.enter k (args.map a.eval)) w := by
    obtain ⟨dst, op, type, pos, after, guard⟩ := o
    simp only at ho
    subst ho
    simp only [execOp, resolve, hf]
    simp [go_sem]
    exact run_enter hfn hn hb
  unfold Oper.wp
  rw [hr]
  refine Calls.mono h ?_
  rintro e w' ⟨v, rfl, h⟩
  exact h
end
section
variable {o : Oper} {a : Act} {w : World} {K : Act → World → Prop} {Q : Exit → Act → World → Prop}
theorem st_field {x : Operand} {b : Nat} (ho : o.op = .fieldAddr 30 x 0) (hx : a.eval x = .pointer (some ⟨b, 0, none⟩)) (h : K (a.put o.dst (.pointer (some ⟨b, 0, none⟩))) w) : o.wp Try.prog a w K Q := by
  refine st_of ?_ h
  obtain ⟨dst, op, type, pos, after, guard⟩ := o
  simp only at ho
  subst ho
  simp only [execOp, hx]
  simp [go_sem]
theorem st_load {x : Operand} {b : Nat} {v : Value} (ho : o.op = .load 28 x) (hx : a.eval x = .pointer (some ⟨b, 0, none⟩)) (hv : w.cell? ⟨b, 0, none⟩ = some v) (h : K (a.put o.dst v) w) : o.wp Try.prog a w K Q := by
  refine st_of ?_ h
  obtain ⟨dst, op, type, pos, after, guard⟩ := o
  simp only at ho
  subst ho
  simp only [execOp, hx]
  simp [go_sem, hv]
theorem st_evs1 {x : Operand} {u0 u1 u2 u3 : Value} (ho : o.op = .buildSlice 34 1 #[(0, x)]) (hx : a.eval x = .agg #[u0, u1, u2, u3])
   (h : K (a.put o.dst (.slice (some ⟨w.heap.size, 0, none⟩) 1 1)) (w.alloc (.cells #[u0, u1, u2, u3] 56))) : o.wp Try.prog a w K Q := by
  refine st_of ?_ h
  obtain ⟨dst, op, type, pos, after, guard⟩ := o
  simp only at ho
  subst ho
  simp [execOp, hx]
  simp [go_sem]
theorem st_call26 {f : Operand} {args : Array Operand} {ts : Array TypeId} (ho : o.op = .call { callee := .value f, args := args, argTypes := ts }) (hf : a.eval f = .func (.func 26) #[] #[])
    (h : Calls Try.prog 26 (args.map a.eval) w fun e w' => ∃ v, e = .returned v ∧ K (a.put o.dst v) w') : o.wp Try.prog a w K Q := st_call ho hf Try.func26 (by kernel_rfl) (by kernel_rfl) h
theorem st_call27 {f : Operand} {args : Array Operand} {ts : Array TypeId} (ho : o.op = .call { callee := .value f, args := args, argTypes := ts }) (hf : a.eval f = .func (.func 27) #[] #[])
    (h : Calls Try.prog 27 (args.map a.eval) w fun e w' => ∃ v, e = .returned v ∧ K (a.put o.dst v) w') : o.wp Try.prog a w K Q := st_call ho hf Try.func27 (by kernel_rfl) (by kernel_rfl) h
theorem st_call28 {f : Operand} {args : Array Operand} {ts : Array TypeId} (ho : o.op = .call { callee := .value f, args := args, argTypes := ts }) (hf : a.eval f = .func (.func 28) #[] #[])
    (h : Calls Try.prog 28 (args.map a.eval) w fun e w' => ∃ v, e = .returned v ∧ K (a.put o.dst v) w') : o.wp Try.prog a w K Q := st_call ho hf Try.func28 (by kernel_rfl) (by kernel_rfl) h
theorem st_evs2 {x y : Operand} {u0 u1 u2 u3 v0 v1 v2 v3 : Value} (ho : o.op = .buildSlice 34 2 #[(0, x), (1, y)]) (hx : a.eval x = .agg #[u0, u1, u2, u3]) (hy : a.eval y = .agg #[v0, v1, v2, v3])
   (h : K (a.put o.dst (.slice (some ⟨w.heap.size, 0, none⟩) 2 2)) (w.alloc (.cells #[u0, u1, u2, u3, v0, v1, v2, v3] 56))) : o.wp Try.prog a w K Q := by
  refine st_of ?_ h
  obtain ⟨dst, op, type, pos, after, guard⟩ := o
  simp only at ho
  subst ho
  simp [execOp, hx, hy]
  simp [go_sem]
theorem st_tx1 {x : Operand} {u0 u1 : Value} (ho : o.op = .buildSlice 32 1 #[(0, x)]) (hx : a.eval x = .agg #[u0, u1])
   (h : K (a.put o.dst (.slice (some ⟨w.heap.size, 0, none⟩) 1 1)) (w.alloc (.cells #[u0, u1] 36))) : o.wp Try.prog a w K Q := by
  refine st_of ?_ h
  obtain ⟨dst, op, type, pos, after, guard⟩ := o
  simp only at ho
  subst ho
  simp [execOp, hx]
  simp [go_sem]
theorem st_sess1 {x : Operand} {b : Option Addr} {n c : Nat} (ho : o.op = .buildSlice 28 1 #[(0, x)]) (hx : a.eval x = .slice b n c)
   (h : K (a.put o.dst (.slice (some ⟨w.heap.size, 0, none⟩) 1 1)) (w.alloc (.cells #[.slice b n c] 32))) : o.wp Try.prog a w K Q := by
  refine st_of ?_ h
  obtain ⟨dst, op, type, pos, after, guard⟩ := o
  simp only at ho
  subst ho
  simp [execOp, hx]
  simp [go_sem]
theorem st_sess5 {x0 x1 x2 x3 x4 : Operand} {b0 b1 b2 b3 b4 : Option Addr} {n0 n1 n2 n3 n4 c0 c1 c2 c3 c4 : Nat} (ho : o.op = .buildSlice 28 5 #[(0, x0), (1, x1), (2, x2), (3, x3), (4, x4)]) (h0 : a.eval x0 = .slice b0 n0 c0) (h1 : a.eval x1 = .slice b1 n1 c1) (h2 : a.eval x2 = .slice b2 n2 c2) (h3 : a.eval x3 = .slice b3 n3 c3) (h4 : a.eval x4 = .slice b4 n4 c4)
   (h : K (a.put o.dst (.slice (some ⟨w.heap.size, 0, none⟩) 5 5)) (w.alloc (.cells #[.slice b0 n0 c0, .slice b1 n1 c1, .slice b2 n2 c2, .slice b3 n3 c3, .slice b4 n4 c4] 32))) : o.wp Try.prog a w K Q := by
  refine st_of ?_ h
  obtain ⟨dst, op, type, pos, after, guard⟩ := o
  simp only at ho
  subst ho
  simp [execOp, h0, h1, h2, h3, h4]
  simp [go_sem]
theorem st_store {x y : Operand} {b : Nat} {u : Value} {ad : Option Addr} {n c : Nat} (hd : o.dst = none) (ho : o.op = .store 28 x y) (hx : a.eval x = .pointer (some ⟨b, 0, none⟩)) (hy : a.eval y = .slice ad n c) (hv : w.cell? ⟨b, 0, none⟩ = some u) (hfz : w.frozen? ⟨b, 0, none⟩ = false)
   (h : K a (w.setCell ⟨b, 0, none⟩ (.slice ad n c))) : o.wp Try.prog a w K Q := by
  have hr : (execOp a.eval o).run Try.prog w = .ok .skip (w.setCell ⟨b, 0, none⟩ (.slice ad n c)) := by
    obtain ⟨dst, op, type, pos, after, guard⟩ := o
    simp only at ho
    subst ho
    simp only [execOp, hx, hy]
    simp [go_sem, hv, hfz]
  unfold Oper.wp
  rw [hr]
  simpa [Oper.upon, hd, Act.put] using h
theorem st_add {x y : Operand} {i j : Int} (ho : o.op = .binOp .add 2 x y 2) (hx : a.eval x = .int .i64 i) (hy : a.eval y = .int .i64 j) (hr1 : -9223372036854775808 ≤ i + j) (hr2 : i + j ≤ 9223372036854775807)
   (h : K (a.put o.dst (.int .i64 (i + j))) w) : o.wp Try.prog a w K Q := by
  refine st_of ?_ h
  obtain ⟨dst, op, type, pos, after, guard⟩ := o
  simp only at ho
  subst ho
  simp only [execOp, hx, hy]
  simp [go_sem]
  rw [IntKind.wrap_i64]
  omega
end
end Go.Proofs.Qxb6000864a
