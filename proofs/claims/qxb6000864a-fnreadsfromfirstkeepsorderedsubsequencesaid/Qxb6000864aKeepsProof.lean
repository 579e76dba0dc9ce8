import Derived.Test.Qxb6000864aKeeps
import Derived.ProofKit
import Derived.OpenShut
import Derived.ShutString
import Derived.ChangeOld
import Derived.Below
import Derived.Deep.Slices
import Derived.Deep.SlicePairs
namespace Go.Proofs.Qxb6000864a
open Go.ChangeShapes Go.WideShapes Go.ChangeAt Go.RowKit Go.Deep
theorem cells52 : Try.prog.cellsOf 52 = 4 := by kernel_rfl
theorem cells50 : Try.prog.cellsOf 50 = 2 := by kernel_rfl
theorem cells48 : Try.prog.cellsOf 48 = 1 := by kernel_rfl
theorem cells47 : Try.prog.cellsOf 47 = 1 := by kernel_rfl
theorem cells4 : Try.prog.cellsOf 4 = 1 := by kernel_rfl
theorem list_of {α : Type} {n : Nat} {p : Nat → α → Prop} (h : ∀ i, i < n → ∃ x, p i x) : ∃ l : List α, l.length = n ∧ ∀ i (hi : i < l.length), p i l[i] := by
  induction n with
  | zero => exact ⟨[], rfl, fun i hi => absurd hi (by simp)⟩
  | succ n ih =>
    obtain ⟨l, hl, hp⟩ := ih (fun i hi => h i (by omega))
    obtain ⟨x, hx⟩ := h n (by omega)
    refine ⟨l ++ [x], by simp [hl], fun i hi => ?_⟩
    by_cases hin : i < l.length
    · rw [List.getElem_append_left hin]; exact hp i hin
    · have : i = l.length := by simp at hi; omega
      subst this
      rw [List.getElem_concat_length rfl]
      rw [hl]; exact hx
section
variable {H : Type} {enc : TypeId × Value → H} {w : World} {base : Nat} {spare : Nat → Bool} {held : Bool}
theorem plain_addr {a : Addr} (h : a.spot = none) : a = ⟨a.block, a.off, none⟩ := by cases a; simp_all
theorem open_evs {fuel : Nat} {v : Value} {x : DataW H × List MemPlace} (h : DataW.trod enc Try.prog w base spare held fuel 48 [v] = some x) : ∃ es, REvs w v es := by
  rcases open_slice Try.underlying48 h with ⟨h0, _⟩ | ⟨a, len, cap, m, n, D, Pl, hcs, _, hl, hm, hmm, _, hx⟩
  · simp at h0
    subst h0
    exact ⟨[], by simp, none, 0, rfl, fun i hi => absurd hi (by simp)⟩
  simp at hcs
  subst hcs
  have hlm : len ≤ m := by rw [hmm]; split <;> omega
  have each : ∀ i, i < len → ∃ e : Ev, w.cell? (a.add (i * 4)) = some (.bool e.wr) ∧ w.cell? (a.add (i * 4 + 1)) = some (.int .i64 e.key) ∧ w.cell? (a.add (i * 4 + 2)) = some (.int .i64 e.num) ∧ w.cell? (a.add (i * 4 + 3)) = some (.bool e.ini) ∧
      (Lit.int .i64 e.key).wf = true ∧ (Lit.int .i64 e.num).wf = true := by
    intro i hi
    obtain ⟨cs', h1, h2⟩ := hx i (by omega)
    rw [cells52] at h1
    obtain ⟨_, hlen, hcell⟩ := World.cells?_some h1
    obtain ⟨xs, k, hk, hxy, _, hxl, hf⟩ := DataW.trod_struct Try.underlying52 h2
    match xs, hxl, cs', hlen with
    | [y0, y1, y2, y3], _, [v0, v1, v2, v3], _ =>
      have g0 := hf 0 _ rfl
      have g1 := hf 1 _ rfl
      have g2 := hf 2 _ rfl
      have g3 := hf 3 _ rfl
      simp [cells4, cells2] at g0 g1 g2 g3
      obtain ⟨b0, e0, _⟩ := DataW.trod_bool Try.underlying4 g0
      obtain ⟨n1, e1, _, w1⟩ := DataW.trod_int Try.underlying2 g1
      obtain ⟨n2, e2, _, w2⟩ := DataW.trod_int Try.underlying2 g2
      obtain ⟨b3, e3, _⟩ := DataW.trod_bool Try.underlying4 g3
      simp at e0 e1 e2 e3
      subst e0 e1 e2 e3
      have c0 := hcell 0 (by omega)
      have c1 := hcell 1 (by omega)
      have c2 := hcell 2 (by omega)
      have c3 := hcell 3 (by omega)
      rw [add_add] at c0 c1 c2 c3
      exact ⟨⟨b0, n1, n2, b3⟩, by simpa using c0, by simpa using c1, by simpa using c2, by simpa using c3, w1, w2⟩
  obtain ⟨es, hle, hes⟩ := list_of each
  refine ⟨es, by rw [hle]; omega, some a, cap, by rw [hle], fun i hi => ?_⟩
  have hsp : a.spot = none := by
    have h0 := (hes 0 (by omega)).1
    have := World.cell?_spot h0
    simpa [Addr.add] using this
  obtain ⟨c0, c1, c2, c3, k1, k2⟩ := hes i hi
  rw [plain_addr hsp, add_plain] at c0 c1 c2 c3
  exact ⟨a.block, a.off, by rw [← plain_addr hsp], c0, c1, c2, c3, k1, k2⟩
theorem open_txs {fuel : Nat} {v : Value} {x : DataW H × List MemPlace} (h : DataW.trod enc Try.prog w base spare held fuel 47 [v] = some x) : ∃ ts, RTxs w v ts := by
  rcases open_slice_pairs Try.underlying47 Try.underlying50 cells50 rfl rfl cells48 cells4 h with ⟨h0, _⟩ | ⟨a, len, cap, m, n, V0, V1, D0, D1, P0, P1, hcs, _, hl, hm, hmm, _, hx⟩
  · simp at h0
    subst h0
    exact ⟨[], by simp, none, 0, rfl, fun i hi => absurd hi (by simp)⟩
  simp at hcs
  subst hcs
  have hlm : len ≤ m := by rw [hmm]; split <;> omega
  have each : ∀ i, i < len → ∃ t : Tx, ∃ u, w.cell? (a.add (i * 2)) = some u ∧ w.cell? (a.add (i * 2 + 1)) = some (.bool t.com) ∧ REvs w u t.evs := by
    intro i hi
    obtain ⟨c0, c1, t0, t1⟩ := hx i (by omega)
    obtain ⟨es, hes⟩ := open_evs t0
    obtain ⟨b, e1, _⟩ := DataW.trod_bool Try.underlying4 t1
    simp at e1
    rw [e1] at c1
    exact ⟨⟨es, b⟩, _, c0, c1, hes⟩
  obtain ⟨ts, hle, hts⟩ := list_of each
  refine ⟨ts, by rw [hle]; omega, some a, cap, by rw [hle], fun i hi => ?_⟩
  have hsp : a.spot = none := by
    obtain ⟨u, h0, _⟩ := hts 0 (by omega)
    have := World.cell?_spot h0
    simpa [Addr.add] using this
  obtain ⟨u, c0, c1, hev⟩ := hts i hi
  rw [plain_addr hsp, add_plain] at c0 c1
  exact ⟨a.block, a.off, u, by rw [← plain_addr hsp], c0, c1, hev⟩
theorem open_sess {fuel : Nat} {v : Value} {x : DataW H × List MemPlace} (h : DataW.trod enc Try.prog w base spare held fuel 22 [v] = some x) : ∃ ss, RSess w v ss := by
  rcases open_slice1 Try.underlying22 cells47 h with ⟨h0, _⟩ | ⟨a, len, cap, m, n, V, D, Pl, hcs, _, hl, hm, hmm, _, hx⟩
  · simp at h0
    subst h0
    exact ⟨[], by simp, none, 0, rfl, fun i hi => absurd hi (by simp)⟩
  simp at hcs
  subst hcs
  have hlm : len ≤ m := by rw [hmm]; split <;> omega
  have each : ∀ i, i < len → ∃ s : List Tx, ∃ u, w.cell? (a.add i) = some u ∧ RTxs w u s := by
    intro i hi
    obtain ⟨c0, t0⟩ := hx i (by omega)
    obtain ⟨ts, hts⟩ := open_txs t0
    exact ⟨ts, _, c0, hts⟩
  obtain ⟨ss, hle, hss⟩ := list_of each
  refine ⟨ss, by rw [hle]; omega, some a, cap, by rw [hle], fun i hi => ?_⟩
  have hsp : a.spot = none := by
    obtain ⟨u, h0, _⟩ := hss 0 (by omega)
    have := World.cell?_spot h0
    simpa [Addr.add] using this
  obtain ⟨u, c0, hts⟩ := hss i hi
  rw [plain_addr hsp, add_plain] at c0
  exact ⟨a.block, a.off, u, by rw [← plain_addr hsp], c0, hts⟩
end

theorem own : ownKnob Try.prog.godebug = none := by kernel_rfl
set_option maxRecDepth 100000 in
theorem keeps_lifted (os : Os) (started : os.Started) (H : Type) (enc : TypeId × Value → H) :
    ReturnsInHanded {} Try.checked os 3 .any (Rows.fnReadsFromFirstKeepsOrderedSubsequenceSpec.pre6 enc Try.prog Try.f3 Rows.fnReadsFromFirstKeepsOrderedSubsequenceRow.domain false) (Rows.fnReadsFromFirstKeepsOrderedSubsequenceSpec.post enc Try.prog Try.f3 false true false false) := by
  refine returnsInHanded_of_change (C := Try.checked) own started (by kernel_rfl) Try.func3
    (ChangeSpec.witness6 (enc := enc) (C := Try.checked) false ⟨#[], #[.slice none 0 0], []⟩ 8 (by kernel_rfl) (by kernel_rfl) (by kernel_rfl) (by kernel_rfl)) ?_
  intro W base args ds gs before hval0 hW hcnd _
  have hval : ∀ (j : Nat) t v, Try.f3.params[j]? = some t → args[j]? = some v → Value.okWide Try.prog W .any base t v := hval0
  have hW' := hW
  obtain ⟨p, q, hA0, hV, rfl, hfz, hnd⟩ := hW
  have hA : DataW.TrodAll enc Try.prog W 0 (fun _ => true) true Try.f3.params.toList args.toList ds p := hA0
  rw [Try.params3] at hA hval
  obtain ⟨v0, vs0, d0, ds0, p0, q0, hargs, rfl, rfl, h0, r0⟩ := trodAll_cons hA
  obtain ⟨rfl, rfl, rfl⟩ := trodAll_nil r0
  obtain rfl : args = #[v0] := by cases args; simp_all
  obtain ⟨rfl, rfl⟩ := trodVars_none hV
  obtain ⟨a0, len0, cap0, rfl⟩ := okWide_slice Try.underlying22 (hval 0 22 v0 rfl rfl)
  have k0 := h0
  have lt0 : ∀ x ∈ p0, x.block < W.heap.size := by obtain ⟨m, hm⟩ := k0; exact DataW.trod_lt m _ _ _ hm
  obtain ⟨ss, hss⟩ : ∃ ss, RSess W (.slice a0 len0 cap0) ss := by
    obtain ⟨fuel, hf⟩ := h0
    exact open_sess (by simpa [Value.cells] using hf)
  clear hA0 hval0
  refine (keeps_walk _ ss W hss).mono fun e W' ⟨he, bel⟩ => ?_
  subst he
  exact ⟨_, rfl, _, _, _, [], _, [], hW', trodAll_mk1 (shut_bool Try.underlying4 _), (trodAll_cons_mk (Below.trod laidOut (by kernel_rfl) (of_decide_eq_true (by kernel_rfl)) k0 bel lt0) trodAll_mk0), rfl, bel.frame _, fun h => by cases h⟩

theorem keeps_over : Rows.fnReadsFromFirstKeepsOrderedSubsequenceRow.holds Try.pinned (OpenSpec.ofChange Rows.fnReadsFromFirstKeepsOrderedSubsequenceSpec) :=
  OpenClaim.holds_of_wide 3 Try.f3 rfl rfl rfl rfl rfl rfl rfl ⟨rfl, rfl, rfl, rfl, rfl⟩ rfl rfl rfl rfl rfl (by kernel_rfl) Try.func3 (by kernel_rfl)
    (of_decide_eq_true (by kernel_rfl)) (by unfold Func.isWrapper; first | (rw [if_pos (by decide +kernel)]; kernel_rfl) | (rw [if_neg (by decide +kernel)]; exact ⟨rfl, rfl⟩))
    (fun os started H enc _ => keeps_lifted os started H enc)

theorem keeps_proved : Rows.FnReadsFromFirstKeepsOrderedSubsequenceSaid := keeps_over
#print axioms keeps_proved
end Go.Proofs.Qxb6000864a
