import Derived.Test.Qxb6002415aCall
namespace Go.Proofs.Qxb6002415a
open Go.RowKit
theorem zzEnd_any {w : World} {v : Value} {k st : Int} (h : NodeAt w v k st) : Calls Try.prog 9 #[v] w fun e w' => e = .returned (.int .i64 st) ∧ w' = w := by
  obtain ⟨b, _, ⟨_, rfl, h4⟩ | ⟨_, rfl, h4, _⟩ | ⟨_, rfl, h4⟩⟩ := h
  · exact zzEnd_word b st w h4
  · exact zzEnd_pipe b st w h4
  · exact zzEnd_block b st w h4
theorem node_some {w : World} {v : Value} {k st : Int} (h : NodeAt w v k st) : ∀ w, (binOp .eql 29 v .nilIface).run Try.prog w = .ok (.bool false) w := by
  obtain ⟨b, _, ⟨_, rfl, h4⟩ | ⟨_, rfl, h4, _⟩ | ⟨_, rfl, h4⟩⟩ := h <;> exact fun _ => rfl
theorem err_some (a : Addr) (w : World) : (binOp .neq 32 (.iface 48 (.pointer (some a))) .nilIface).run Try.prog w = .ok (.bool true) w := rfl
theorem err_none (w : World) : (binOp .neq 32 .nilIface .nilIface).run Try.prog w = .ok (.bool false) w := rfl
/-! ### the stages, in plain data -/
structure PS (xs : List Int) (i : Nat) (S E : List Nat) (bg : Nat) : Prop where
  len : E.length = S.length
  bgl : bg = lastN xs i
  lst : ∀ j, j < S.length → S.getD j 0 = lastN xs (E.getD j 0)
  s0 : 0 < S.length → S.getD 0 0 = 0
  nxt : ∀ j, j + 1 < S.length → S.getD (j + 1) 0 = E.getD j 0 + 1
  bg0 : S.length = 0 → bg = 0
  bg1 : 0 < S.length → bg = E.getD (S.length - 1) 0 + 1
  le : ∀ j, j < S.length → E.getD j 0 ≤ i
  few : S.length ≤ i
theorem PS.start (xs : List Int) : PS xs 0 [] [] 0 := ⟨rfl, rfl, fun j h => absurd h (by simp), fun h => absurd h (by simp), fun j h => absurd h (by simp), fun _ => rfl, fun h => absurd h (by simp), fun j h => absurd h (by simp), Nat.le_refl _⟩
theorem getD_snoc_lt {l : List Nat} {j a : Nat} (h : j < l.length) : (l ++ [a]).getD j 0 = l.getD j 0 := by
  simp [List.getD, List.getElem?_append_left h]
theorem getD_snoc_eq {l : List Nat} {a j : Nat} (h : j = l.length) : (l ++ [a]).getD j 0 = a := by
  subst h
  simp [List.getD]
structure Fin (xs : List Int) (n : Nat) (S E : List Nat) : Prop where
  len : E.length = S.length
  lst : ∀ j, j < S.length → S.getD j 0 = lastN xs (E.getD j 0)
  s0 : S.getD 0 0 = 0
  nxt : ∀ j, j + 1 < S.length → S.getD (j + 1) 0 = E.getD j 0 + 1
  le : ∀ j, j < S.length → E.getD j 0 ≤ n
  pos : 0 < S.length
  fin : E.getD (S.length - 1) 0 = n
  few : S.length ≤ n + 1
theorem PS.done {xs : List Int} {i : Nat} {S E : List Nat} {bg : Nat} (h : PS xs i S E bg) : Fin xs i (S ++ [bg]) (E ++ [i]) := by
  have hl : (S ++ [bg]).length = S.length + 1 := by simp
  refine ⟨by simp [h.len], fun j hj => ?_, ?_, fun j hj => ?_, fun j hj => ?_, by omega, ?_, by have := h.few; omega⟩
  · by_cases e : j < S.length
    · rw [getD_snoc_lt e, getD_snoc_lt (by rw [h.len]; exact e)]
      exact h.lst j e
    · rw [getD_snoc_eq (by omega), getD_snoc_eq (by rw [h.len]; omega)]
      exact h.bgl
  · by_cases e : 0 < S.length
    · rw [getD_snoc_lt e]; exact h.s0 e
    · rw [getD_snoc_eq (by omega)]; exact h.bg0 (by omega)
  · by_cases e : j + 1 < S.length
    · rw [getD_snoc_lt e, getD_snoc_lt (by rw [h.len]; omega)]
      exact h.nxt j e
    · rw [getD_snoc_eq (by omega), getD_snoc_lt (by rw [h.len]; omega)]
      have := h.bg1 (by omega)
      rw [this]
      congr 2
      omega
  · by_cases e : j < S.length
    · rw [getD_snoc_lt (by rw [h.len]; exact e)]; exact h.le j e
    · rw [getD_snoc_eq (by rw [h.len]; omega)]; exact Nat.le_refl _
  · rw [getD_snoc_eq (by rw [h.len]; omega)]
theorem PS.pipe {xs : List Int} {i : Nat} {S E : List Nat} {bg : Nat} (h : PS xs i S E bg) (hx : xs.getD i 0 = 1) : PS xs (i + 1) (S ++ [bg]) (E ++ [i]) (i + 1) := by
  have f := h.done
  have hl : (S ++ [bg]).length = S.length + 1 := by simp
  refine ⟨f.len, by simp only [lastN]; rw [if_pos hx], f.lst, fun _ => f.s0, f.nxt, fun h => by omega, fun _ => by rw [f.fin], fun j hj => Nat.le_succ_of_le (f.le j hj), by have := h.few; omega⟩
theorem PS.other {xs : List Int} {i : Nat} {S E : List Nat} {bg : Nat} (h : PS xs i S E bg) (hx : ¬ xs.getD i 0 = 1) : PS xs (i + 1) S E bg :=
  ⟨h.len, by simp only [lastN]; rw [if_neg hx]; exact h.bgl, h.lst, h.s0, h.nxt, h.bg0, h.bg1, fun j hj => Nat.le_succ_of_le (h.le j hj), Nat.le_succ_of_le h.few⟩
/-- level j: when the stage begins at 1. -/
theorem Fin.one {xs : List Int} {n : Nat} {S E : List Nat} (h : Fin xs n S E) {j : Nat} (hj : j < S.length) (h1 : S.getD j 0 = 1) : j = 1 ∧ E.getD 0 0 = S.getD 0 0 := by
  match j, hj, h1 with
  | 0, _, h1 => rw [h.s0] at h1; cases h1
  | 1, hj, h1 =>
    have : S.getD 1 0 = E.getD 0 0 + 1 := h.nxt 0 hj
    rw [h.s0]
    exact ⟨rfl, by omega⟩
  | j + 2, hj, h1 =>
    have a : S.getD (j + 2) 0 = E.getD (j + 1) 0 + 1 := h.nxt (j + 1) hj
    have b : S.getD (j + 1) 0 = E.getD j 0 + 1 := h.nxt j (by omega)
    have c := h.lst (j + 1) (by omega)
    have d := lastN_le xs (E.getD (j + 1) 0)
    omega
theorem Fin.two {xs : List Int} {n : Nat} {S E : List Nat} (h : Fin xs n S E) (hj : 1 < S.length) (h1 : E.getD 0 0 = S.getD 0 0) : S.getD 1 0 = 1 := by
  rw [h.nxt 0 hj, h1, h.s0]
/-! ### two rows of ints of the call's own -/
def nV (s : Nat) : Value := .int .i64 (s : Int)
structure Two (wb w : World) (g1 c1 g2 c2 : Nat) (S E : List Nat) : Prop where
  r1 : w.ownsRow wb.heap.size 3 1 (.slice (some ⟨g1, 0, none⟩) S.length c1) S.length (S.map nV)
  r2 : w.ownsRow wb.heap.size 3 1 (.slice (some ⟨g2, 0, none⟩) E.length c2) E.length (E.map nV)
  ne : g1 ≠ g2
  bel : Below wb.heap.size wb w
theorem Two.below {wb w w1 : World} {g1 c1 g2 c2 : Nat} {S E : List Nat} (h : Two wb w g1 c1 g2 c2 S E) (hb : Below w.heap.size w w1) : Two wb w1 g1 c1 g2 c2 S E := by
  have hg : w.grownBy w1 none := ⟨hb.os, hb.tape, hb.output, hb.size, fun k hk _ => hb.block k hk⟩
  exact ⟨h.r1.kept hg (.inr (by simp [Value.ownBlock])), h.r2.kept hg (.inr (by simp [Value.ownBlock])), h.ne, h.bel.trans (hb.mono h.bel.size)⟩
theorem Two.app1 {wb w w2 : World} {g1 c1 g2 c2 g c s : Nat} {S E : List Nat} {o : Obj} {len : Nat} (h : Two wb w g1 c1 g2 c2 S E) (hl : S.length = len) (ho : w2.ownsRow wb.heap.size 3 1 (.slice (some ⟨g, 0, none⟩) (len + 1) c) (len + 1) (S.map nV ++ [nV s])) (hg : (w.alloc o).grownBy w2 (some g1)) (hat : g1 = g ∨ g = w.heap.size + 1) : Two wb w2 g c g2 c2 (S ++ [s]) E := by
  subst hl
  have k := h.below (below_alloc w o)
  have hg2 := (h.r2.lt g2 rfl)
  have hg1 := (h.r1.lt g1 rfl)
  refine ⟨by simpa using ho, k.r2.kept hg (.inr (by simpa [Value.ownBlock] using fun e => h.ne e.symm)), ?_, k.bel.trans ⟨hg.os, hg.tape, hg.output, hg.size, fun j hj => hg.block j (by have := k.bel.size; omega) (by simp; omega)⟩⟩
  have := h.ne
  omega
theorem Two.app2 {wb w w2 : World} {g1 c1 g2 c2 g c s : Nat} {S E : List Nat} {o : Obj} {len : Nat} (h : Two wb w g1 c1 g2 c2 S E) (hl : E.length = len) (ho : w2.ownsRow wb.heap.size 3 1 (.slice (some ⟨g, 0, none⟩) (len + 1) c) (len + 1) (E.map nV ++ [nV s])) (hg : (w.alloc o).grownBy w2 (some g2)) (hat : g2 = g ∨ g = w.heap.size + 1) : Two wb w2 g1 c1 g c S (E ++ [s]) := by
  subst hl
  have k := h.below (below_alloc w o)
  have hg2 := (h.r2.lt g2 rfl)
  have hg1 := (h.r1.lt g1 rfl)
  refine ⟨k.r1.kept hg (.inr (by simpa [Value.ownBlock] using h.ne)), by simpa using ho, ?_, k.bel.trans ⟨hg.os, hg.tape, hg.output, hg.size, fun j hj => hg.block j (by have := k.bel.size; omega) (by simp; omega)⟩⟩
  have := h.ne
  omega
theorem Two.cell1 {wb w : World} {g1 c1 g2 c2 j : Nat} {S E : List Nat} (h : Two wb w g1 c1 g2 c2 S E) (hj : j < S.length) : w.cell? ⟨g1, j, none⟩ = some (.int .i64 ((S.getD j 0 : Nat) : Int)) := by
  rw [h.r1.cellAt j (by omega)]
  simp [List.getD, hj, nV]
theorem Two.cell2 {wb w : World} {g1 c1 g2 c2 j : Nat} {S E : List Nat} (h : Two wb w g1 c1 g2 c2 S E) (hj : j < E.length) : w.cell? ⟨g2, j, none⟩ = some (.int .i64 ((E.getD j 0 : Nat) : Int)) := by
  rw [h.r2.cellAt j (by omega)]
  simp [List.getD, hj, nV]
theorem info3 : (Try.prog.info? 3).map (fun i => (i.zero, i.size, i.bytes)) = some (some (.int .i64 0), 1, 8) := by kernel_rfl
theorem Two.start (wb : World) (N : Nat) (hN : N ≤ 65) : Two wb ((wb.alloc (.cells (madeCells #[.int .i64 0] N) 3)).alloc (.cells (madeCells #[.int .i64 0] N) 3)) wb.heap.size N (wb.heap.size + 1) N [] [] := by
  refine ⟨?_, ?_, by omega, (below_alloc wb _).alloc (by simp) _⟩
  · exact (World.ownsRow_made wb _ N (Nat.le_refl _) (by unfold maxLen; omega) (by rw [size_madeCells]; omega)).alloc _
  · have := World.ownsRow_made (wb.alloc (.cells (madeCells #[.int .i64 0] N) 3)) (madeCells #[.int .i64 0] N) (base := wb.heap.size) (e := 3) (size := 1) N (by simp) (by unfold maxLen; omega) (by rw [size_madeCells]; omega)
    simpa using this
end Go.Proofs.Qxb6002415a
