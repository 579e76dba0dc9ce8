import Derived.Test.Qxb6000864aDoomNine
namespace Go.Proofs.Qxb6000864a
open Go.RowKit
def anc13 (j : Nat) : Bool := decide (1 ≤ j ∧ j ≤ 34)
def Φ13 (w9 : World) (hb gb bs len cap : Nat) (vs : List Value) (ra : Option Addr) (rn rc : Nat) : Nat → Value → World → Prop
  | 0, v, _ => v = .pointer (some ⟨hb, 0, none⟩)
  | 1, v, _ => v = .pointer (some ⟨hb, 0, none⟩)
  | 2, v, _ => v = .pointer (some ⟨hb, 0, none⟩)
  | 3, v, _ => v = .pointer (some ⟨hb, 0, none⟩)
  | 4, v, _ => v = .slice (some ⟨gb, 0, none⟩) len cap
  | 5, v, _ => v = .slice ra rn rc
  | 6, v, _ => v = .func (.func 26) #[] #[]
  | 7, v, _ => v = .func (.func 27) #[] #[]
  | 8, v, _ => v = .agg #[.bool true, .int .i64 5, .int .i64 1, .bool false]
  | 9, v, w => EvsFr w9.heap.size w v [evWr 5 1]
  | 10, v, w => ∃ u, v = .agg #[u, .bool true] ∧ EvsFr w9.heap.size w u [evWr 5 1]
  | 11, v, w => TxsFr w9.heap.size w v [⟨[evWr 5 1], true⟩]
  | 12, v, _ => v = .func (.func 26) #[] #[]
  | 13, v, _ => v = .func (.func 27) #[] #[]
  | 14, v, _ => v = .agg #[.bool true, .int .i64 6, .int .i64 1, .bool false]
  | 15, v, w => EvsFr w9.heap.size w v [evWr 6 1]
  | 16, v, w => ∃ u, v = .agg #[u, .bool true] ∧ EvsFr w9.heap.size w u [evWr 6 1]
  | 17, v, w => TxsFr w9.heap.size w v [⟨[evWr 6 1], true⟩]
  | 18, v, _ => v = .func (.func 26) #[] #[]
  | 19, v, _ => v = .func (.func 28) #[] #[]
  | 20, v, _ => v = .agg #[.bool false, .int .i64 5, .int .i64 1, .bool ((1 : Int) == 0)]
  | 21, v, _ => v = .func (.func 28) #[] #[]
  | 22, v, _ => v = .agg #[.bool false, .int .i64 6, .int .i64 0, .bool ((0 : Int) == 0)]
  | 23, v, w => EvsFr w9.heap.size w v [evRd 5 1, evRd 6 0]
  | 24, v, w => ∃ u, v = .agg #[u, .bool true] ∧ EvsFr w9.heap.size w u [evRd 5 1, evRd 6 0]
  | 25, v, w => TxsFr w9.heap.size w v [⟨[evRd 5 1, evRd 6 0], true⟩]
  | 26, v, _ => v = .func (.func 26) #[] #[]
  | 27, v, _ => v = .func (.func 28) #[] #[]
  | 28, v, _ => v = .agg #[.bool false, .int .i64 6, .int .i64 1, .bool ((1 : Int) == 0)]
  | 29, v, _ => v = .func (.func 28) #[] #[]
  | 30, v, _ => v = .agg #[.bool false, .int .i64 5, .int .i64 0, .bool ((0 : Int) == 0)]
  | 31, v, w => EvsFr w9.heap.size w v [evRd 6 1, evRd 5 0]
  | 32, v, w => ∃ u, v = .agg #[u, .bool true] ∧ EvsFr w9.heap.size w u [evRd 6 1, evRd 5 0]
  | 33, v, w => TxsFr w9.heap.size w v [⟨[evRd 6 1, evRd 5 0], true⟩]
  | 34, v, w => ∃ b u1 u2 u3 u4, v = .slice (some ⟨b, 0, none⟩) 5 5 ∧ w.heap[b]? = some (.cells #[.slice ra rn rc, u1, u2, u3, u4] 32 (0, 0)) ∧ TxsFr w9.heap.size w u1 [⟨[evWr 5 1], true⟩] ∧ TxsFr w9.heap.size w u2 [⟨[evWr 6 1], true⟩] ∧ TxsFr w9.heap.size w u3 [⟨[evRd 5 1, evRd 6 0], true⟩] ∧ TxsFr w9.heap.size w u4 [⟨[evRd 6 1, evRd 5 0], true⟩]
  | 35, v, w => ∃ u1 u2 u3 u4, Grew0 w9 gb bs len 5 vs [.slice ra rn rc, u1, u2, u3, u4] (fun w => TxsFr w9.heap.size w u1 [⟨[evWr 5 1], true⟩] ∧ TxsFr w9.heap.size w u2 [⟨[evWr 6 1], true⟩] ∧ TxsFr w9.heap.size w u3 [⟨[evRd 5 1, evRd 6 0], true⟩] ∧ TxsFr w9.heap.size w u4 [⟨[evRd 6 1, evRd 5 0], true⟩]) v w
  | 36, v, _ => v = .pointer (some ⟨hb, 0, none⟩)
  | 37, v, _ => v = .pointer (some ⟨hb, 0, none⟩)
  | _, _, _ => True
theorem Φ13_stay {w9 : World} {hb gb bs len cap : Nat} {vs : List Value} {ra : Option Addr} {rn rc : Nat} : ∀ j, j ≠ 35 → ∀ v w w', Below w.heap.size w w' → Φ13 w9 hb gb bs len cap vs ra rn rc j v w → Φ13 w9 hb gb bs len cap vs ra rn rc j v w' := by
  intro j hj v w w' hbw h
  match j, hj, h with
  | 0, _, h | 1, _, h | 2, _, h | 3, _, h | 4, _, h | 5, _, h | 6, _, h | 7, _, h | 8, _, h | 12, _, h | 13, _, h | 14, _, h | 18, _, h | 19, _, h | 20, _, h | 21, _, h | 22, _, h | 26, _, h | 27, _, h | 28, _, h | 29, _, h | 30, _, h | 36, _, h | 37, _, h => exact h
  | 9, _, h | 15, _, h | 23, _, h | 31, _, h => exact EvsFr.stay hbw h
  | 10, _, h | 16, _, h | 24, _, h | 32, _, h => obtain ⟨u, h1, h2⟩ := h; exact ⟨u, h1, h2.stay hbw⟩
  | 11, _, h | 17, _, h | 25, _, h | 33, _, h => exact TxsFr.stay hbw h
  | 34, _, h => obtain ⟨b, u1, u2, u3, u4, h1, h2, h3, h4, h5, h6⟩ := h; exact ⟨b, u1, u2, u3, u4, h1, block_stay hbw h2, h3.stay hbw, h4.stay hbw, h5.stay hbw, h6.stay hbw⟩
  | 35, hj, _ => exact absurd rfl hj
  | _ + 38, _, _ => trivial
set_option maxRecDepth 100000 in
set_option maxHeartbeats 4000000 in
theorem region13 {K : Act → World → Prop} {x : Array Oper} (hx : regionAt 13 (Try.f20.body.getD .skip) = x) {base : Array Value} (hsz : base.size = 118) {w9 : World} {hb gb bs len cap : Nat} {vs : List Value} {ra : Option Addr} {rn rc : Nat}
    (h3 : base[3]? = some (.func (.func 26) #[] #[])) (h4 : base[4]? = some (.func (.func 27) #[] #[])) (h5 : base[5]? = some (.func (.func 28) #[] #[])) (h6 : base[6]? = some (.pointer (some ⟨hb, 0, none⟩))) (h9r : base[9]? = some (.slice ra rn rc))
    (hc : w9.cell? ⟨hb, 0, none⟩ = some (.slice (some ⟨gb, 0, none⟩) len cap)) (hfz : w9.frozen? ⟨hb, 0, none⟩ = false) (hown : w9.ownsRow bs 32 1 (.slice (some ⟨gb, 0, none⟩) len cap) len vs) (hne : hb ≠ gb) (hlen : len ≤ 1048576) (hbs : bs ≤ w9.heap.size)
    (hK : ∀ a w u1 u2 u3 u4, FrB base 79 38 a → Grew w9 hb gb bs len 5 vs [.slice ra rn rc, u1, u2, u3, u4] (fun w => TxsFr w9.heap.size w u1 [⟨[evWr 5 1], true⟩] ∧ TxsFr w9.heap.size w u2 [⟨[evWr 6 1], true⟩] ∧ TxsFr w9.heap.size w u3 [⟨[evRd 5 1, evRd 6 0], true⟩] ∧ TxsFr w9.heap.size w u4 [⟨[evRd 6 1, evRd 5 0], true⟩]) w → K a w) :
    Code.wp Try.prog (.region 13 x true) (onlyN K) ⟨base, []⟩ w9 := by
  simp [regionAt, Try.f20] at hx
  subst hx
  refine region_flow (m := 35) (d0 := 79) (anc := anc13) (G := fun w => Below w9.heap.size w9 w) (Φ := Φ13 w9 hb gb bs len cap vs ra rn rc) (by kernel_rfl) rfl (by decide +kernel) (fun j h => by simp [anc13] at h; simp; omega) (by decide) (by rw [hsz]; decide)
    (fun w w' h1 h2 => h2.trans (h1.mono h2.size)) Φ13_stay (fun j v w w' h1 h2 h => ?_) (all_lit ?_) ?_ (below_drewN (Below.refl _ _) 1)
  · match j, h1, h2, h with
    | 0, _, _, h => exact h
    | 36, _, _, h => exact h
    | 37, _, _, h => exact h
    | _ + 38, _, _, _ => trivial
  · refine .cons (fun _ => ⟨fun h => absurd h (by decide), fun h => absurd h (by decide), fun _ _ a w hfr hd => ?_⟩) (.cons (fun _ => ⟨fun _ _ a w hfr hg hd => ?_, fun h => absurd h (by decide), fun h => absurd h (by decide)⟩) (.cons (fun _ => ⟨fun _ _ a w hfr hg hd => ?_, fun h => absurd h (by decide), fun h => absurd h (by decide)⟩) (.cons (fun _ => ⟨fun _ _ a w hfr hg hd => ?_, fun h => absurd h (by decide), fun h => absurd h (by decide)⟩) (.cons (fun _ => ⟨fun _ _ a w hfr hg hd => ?_, fun h => absurd h (by decide), fun h => absurd h (by decide)⟩) (.cons (fun _ => ⟨fun _ _ a w hfr hg hd => ?_, fun h => absurd h (by decide), fun h => absurd h (by decide)⟩) (.cons (fun _ => ⟨fun _ _ a w hfr hg hd => ?_, fun h => absurd h (by decide), fun h => absurd h (by decide)⟩) (.cons (fun _ => ⟨fun _ _ a w hfr hg hd => ?_, fun h => absurd h (by decide), fun h => absurd h (by decide)⟩) (.cons (fun _ => ⟨fun _ _ a w hfr hg hd => ?_, fun h => absurd h (by decide), fun h => absurd h (by decide)⟩) (.cons (fun _ => ⟨fun _ _ a w hfr hg hd => ?_, fun h => absurd h (by decide), fun h => absurd h (by decide)⟩) (.cons (fun _ => ⟨fun _ _ a w hfr hg hd => ?_, fun h => absurd h (by decide), fun h => absurd h (by decide)⟩) (.cons (fun _ => ⟨fun _ _ a w hfr hg hd => ?_, fun h => absurd h (by decide), fun h => absurd h (by decide)⟩) (.cons (fun _ => ⟨fun _ _ a w hfr hg hd => ?_, fun h => absurd h (by decide), fun h => absurd h (by decide)⟩) (.cons (fun _ => ⟨fun _ _ a w hfr hg hd => ?_, fun h => absurd h (by decide), fun h => absurd h (by decide)⟩) (.cons (fun _ => ⟨fun _ _ a w hfr hg hd => ?_, fun h => absurd h (by decide), fun h => absurd h (by decide)⟩) (.cons (fun _ => ⟨fun _ _ a w hfr hg hd => ?_, fun h => absurd h (by decide), fun h => absurd h (by decide)⟩) (.cons (fun _ => ⟨fun _ _ a w hfr hg hd => ?_, fun h => absurd h (by decide), fun h => absurd h (by decide)⟩) (.cons (fun _ => ⟨fun _ _ a w hfr hg hd => ?_, fun h => absurd h (by decide), fun h => absurd h (by decide)⟩) (.cons (fun _ => ⟨fun _ _ a w hfr hg hd => ?_, fun h => absurd h (by decide), fun h => absurd h (by decide)⟩) (.cons (fun _ => ⟨fun _ _ a w hfr hg hd => ?_, fun h => absurd h (by decide), fun h => absurd h (by decide)⟩) (.cons (fun _ => ⟨fun _ _ a w hfr hg hd => ?_, fun h => absurd h (by decide), fun h => absurd h (by decide)⟩) (.cons (fun _ => ⟨fun _ _ a w hfr hg hd => ?_, fun h => absurd h (by decide), fun h => absurd h (by decide)⟩) (.cons (fun _ => ⟨fun _ _ a w hfr hg hd => ?_, fun h => absurd h (by decide), fun h => absurd h (by decide)⟩) (.cons (fun _ => ⟨fun _ _ a w hfr hg hd => ?_, fun h => absurd h (by decide), fun h => absurd h (by decide)⟩) (.cons (fun _ => ⟨fun _ _ a w hfr hg hd => ?_, fun h => absurd h (by decide), fun h => absurd h (by decide)⟩) (.cons (fun _ => ⟨fun _ _ a w hfr hg hd => ?_, fun h => absurd h (by decide), fun h => absurd h (by decide)⟩) (.cons (fun _ => ⟨fun _ _ a w hfr hg hd => ?_, fun h => absurd h (by decide), fun h => absurd h (by decide)⟩) (.cons (fun _ => ⟨fun _ _ a w hfr hg hd => ?_, fun h => absurd h (by decide), fun h => absurd h (by decide)⟩) (.cons (fun _ => ⟨fun _ _ a w hfr hg hd => ?_, fun h => absurd h (by decide), fun h => absurd h (by decide)⟩) (.cons (fun _ => ⟨fun _ _ a w hfr hg hd => ?_, fun h => absurd h (by decide), fun h => absurd h (by decide)⟩) (.cons (fun _ => ⟨fun _ _ a w hfr hg hd => ?_, fun h => absurd h (by decide), fun h => absurd h (by decide)⟩) (.cons (fun _ => ⟨fun _ _ a w hfr hg hd => ?_, fun h => absurd h (by decide), fun h => absurd h (by decide)⟩) (.cons (fun _ => ⟨fun _ _ a w hfr hg hd => ?_, fun h => absurd h (by decide), fun h => absurd h (by decide)⟩) (.cons (fun _ => ⟨fun _ _ a w hfr hg hd => ?_, fun h => absurd h (by decide), fun h => absurd h (by decide)⟩) (.cons (fun _ => ⟨fun _ _ a w hfr hg hd => ?_, fun h => absurd h (by decide), fun h => absurd h (by decide)⟩) (.cons (fun _ => ⟨fun h => absurd h (by decide), fun _ a w hfr hg hd => ?_, fun _ h => absurd rfl h⟩) (.cons (fun _ => ⟨fun h => absurd h (by decide), fun h => absurd h (by decide), fun _ _ a w hfr hd => ?_⟩) (.cons (fun _ => ⟨fun h => absurd h (by decide), fun h => absurd h (by decide), fun _ _ a w hfr hd => ?_⟩) (.cons (fun h => absurd h (by decide)) (.nil)))))))))))))))))))))))))))))))))))))))
    · exact st_move rfl (hfr.eval (.inl (by decide)) h6) ⟨_, rfl, rfl, rfl⟩
    · exact st_move rfl (hfr.eval (.inl (by decide)) h6) ⟨_, rfl, Below.refl _ _, rfl⟩
    · exact st_nil rfl (hd 1 (by kernel_rfl)) ⟨_, rfl, Below.refl _ _, rfl⟩
    · exact st_field rfl (hd 2 (by kernel_rfl)) ⟨_, rfl, Below.refl _ _, rfl⟩
    · exact st_load rfl (hd 3 (by kernel_rfl)) (cell_stay hg hc) ⟨_, rfl, Below.refl _ _, rfl⟩
    · exact st_move rfl (hfr.eval (.inl (by decide)) h9r) ⟨_, rfl, Below.refl _ _, rfl⟩
    · exact st_move rfl (hfr.eval (.inl (by decide)) h3) ⟨_, rfl, Below.refl _ _, rfl⟩
    · exact st_move rfl (hfr.eval (.inl (by decide)) h4) ⟨_, rfl, Below.refl _ _, rfl⟩
    · exact st_write rfl (hd 7 (by kernel_rfl)) rfl rfl fun w' hb' => ⟨_, rfl, hb', rfl⟩
    · exact st_evs1 rfl (hd 8 (by kernel_rfl)) ⟨_, rfl, below_alloc _ _, evs_fr1 w (evWr 5 1) hg.size (by decide)⟩
    · have h : EvsFr w9.heap.size w (a.eval (.tmp 88)) [evWr 5 1] := hd 9 (by kernel_rfl)
      obtain ⟨ad, n, c, e⟩ := h.form
      rw [e] at h
      exact st_txn rfl (hd 6 (by kernel_rfl)) e fun w' hb' => ⟨_, rfl, hb', _, rfl, h.stay hb'⟩
    · obtain ⟨u, e, h⟩ := hd 10 (by kernel_rfl)
      exact st_tx1 rfl e ⟨_, rfl, below_alloc _ _, txs_fr1 w ⟨[evWr 5 1], true⟩ hg.size h⟩
    · exact st_move rfl (hfr.eval (.inl (by decide)) h3) ⟨_, rfl, Below.refl _ _, rfl⟩
    · exact st_move rfl (hfr.eval (.inl (by decide)) h4) ⟨_, rfl, Below.refl _ _, rfl⟩
    · exact st_write rfl (hd 13 (by kernel_rfl)) rfl rfl fun w' hb' => ⟨_, rfl, hb', rfl⟩
    · exact st_evs1 rfl (hd 14 (by kernel_rfl)) ⟨_, rfl, below_alloc _ _, evs_fr1 w (evWr 6 1) hg.size (by decide)⟩
    · have h : EvsFr w9.heap.size w (a.eval (.tmp 94)) [evWr 6 1] := hd 15 (by kernel_rfl)
      obtain ⟨ad, n, c, e⟩ := h.form
      rw [e] at h
      exact st_txn rfl (hd 12 (by kernel_rfl)) e fun w' hb' => ⟨_, rfl, hb', _, rfl, h.stay hb'⟩
    · obtain ⟨u, e, h⟩ := hd 16 (by kernel_rfl)
      exact st_tx1 rfl e ⟨_, rfl, below_alloc _ _, txs_fr1 w ⟨[evWr 6 1], true⟩ hg.size h⟩
    · exact st_move rfl (hfr.eval (.inl (by decide)) h3) ⟨_, rfl, Below.refl _ _, rfl⟩
    · exact st_move rfl (hfr.eval (.inl (by decide)) h5) ⟨_, rfl, Below.refl _ _, rfl⟩
    · exact st_read rfl (hd 19 (by kernel_rfl)) rfl rfl fun w' hb' => ⟨_, rfl, hb', rfl⟩
    · exact st_move rfl (hfr.eval (.inl (by decide)) h5) ⟨_, rfl, Below.refl _ _, rfl⟩
    · exact st_read rfl (hd 21 (by kernel_rfl)) rfl rfl fun w' hb' => ⟨_, rfl, hb', rfl⟩
    · exact st_evs2 rfl (hd 20 (by kernel_rfl)) (hd 22 (by kernel_rfl)) ⟨_, rfl, below_alloc _ _, evs_fr2 w (evRd 5 1) (evRd 6 0) hg.size (by decide) (by decide)⟩
    · have h : EvsFr w9.heap.size w (a.eval (.tmp 102)) [evRd 5 1, evRd 6 0] := hd 23 (by kernel_rfl)
      obtain ⟨ad, n, c, e⟩ := h.form
      rw [e] at h
      exact st_txn rfl (hd 18 (by kernel_rfl)) e fun w' hb' => ⟨_, rfl, hb', _, rfl, h.stay hb'⟩
    · obtain ⟨u, e, h⟩ := hd 24 (by kernel_rfl)
      exact st_tx1 rfl e ⟨_, rfl, below_alloc _ _, txs_fr1 w ⟨[evRd 5 1, evRd 6 0], true⟩ hg.size h⟩
    · exact st_move rfl (hfr.eval (.inl (by decide)) h3) ⟨_, rfl, Below.refl _ _, rfl⟩
    · exact st_move rfl (hfr.eval (.inl (by decide)) h5) ⟨_, rfl, Below.refl _ _, rfl⟩
    · exact st_read rfl (hd 27 (by kernel_rfl)) rfl rfl fun w' hb' => ⟨_, rfl, hb', rfl⟩
    · exact st_move rfl (hfr.eval (.inl (by decide)) h5) ⟨_, rfl, Below.refl _ _, rfl⟩
    · exact st_read rfl (hd 29 (by kernel_rfl)) rfl rfl fun w' hb' => ⟨_, rfl, hb', rfl⟩
    · exact st_evs2 rfl (hd 28 (by kernel_rfl)) (hd 30 (by kernel_rfl)) ⟨_, rfl, below_alloc _ _, evs_fr2 w (evRd 6 1) (evRd 5 0) hg.size (by decide) (by decide)⟩
    · have h : EvsFr w9.heap.size w (a.eval (.tmp 110)) [evRd 6 1, evRd 5 0] := hd 31 (by kernel_rfl)
      obtain ⟨ad, n, c, e⟩ := h.form
      rw [e] at h
      exact st_txn rfl (hd 26 (by kernel_rfl)) e fun w' hb' => ⟨_, rfl, hb', _, rfl, h.stay hb'⟩
    · obtain ⟨u, e, h⟩ := hd 32 (by kernel_rfl)
      exact st_tx1 rfl e ⟨_, rfl, below_alloc _ _, txs_fr1 w ⟨[evRd 6 1, evRd 5 0], true⟩ hg.size h⟩
    · have h1 : TxsFr w9.heap.size w (a.eval (.tmp 90)) [⟨[evWr 5 1], true⟩] := hd 11 (by kernel_rfl)
      obtain ⟨d1, n1, c1, e1⟩ := h1.form
      rw [e1] at h1
      have h2 : TxsFr w9.heap.size w (a.eval (.tmp 96)) [⟨[evWr 6 1], true⟩] := hd 17 (by kernel_rfl)
      obtain ⟨d2, n2, c2, e2⟩ := h2.form
      rw [e2] at h2
      have h3 : TxsFr w9.heap.size w (a.eval (.tmp 104)) [⟨[evRd 5 1, evRd 6 0], true⟩] := hd 25 (by kernel_rfl)
      obtain ⟨d3, n3, c3, e3⟩ := h3.form
      rw [e3] at h3
      have h4 : TxsFr w9.heap.size w (a.eval (.tmp 112)) [⟨[evRd 6 1, evRd 5 0], true⟩] := hd 33 (by kernel_rfl)
      obtain ⟨d4, n4, c4, e4⟩ := h4.form
      rw [e4] at h4
      exact st_sess5 rfl (hd 5 (by kernel_rfl)) e1 e2 e3 e4 ⟨_, rfl, below_alloc _ _, w.heap.size, _, _, _, _, rfl, heap_alloc_new w _, h1.stay (below_alloc _ _), h2.stay (below_alloc _ _), h3.stay (below_alloc _ _), h4.stay (below_alloc _ _)⟩
    · obtain ⟨b, u1, u2, u3, u4, e, hbk, h1, h2, h3, h4⟩ := hd 34 (by kernel_rfl)
      obtain ⟨d1, n1, c1, rfl⟩ := h1.form
      obtain ⟨d2, n2, c2, rfl⟩ := h2.form
      obtain ⟨d3, n3, c3, rfl⟩ := h3.form
      obtain ⟨d4, n4, c4, rfl⟩ := h4.form
      exact st_append (us := [.slice ra rn rc, .slice d1 n1 c1, .slice d2 n2 c2, .slice d3 n3 c3, .slice d4 n4 c4]) rfl (hd 4 (by kernel_rfl)) e hbk rfl (by simp [Value.oneCell']) (by decide) (by decide) hlen hg hown hbs (fun w' hf => ⟨h1.keep hf, h2.keep hf, h3.keep hf, h4.keep hf⟩) fun v w' h0 => ⟨v, rfl, _, _, _, _, h0⟩
    · exact st_nil rfl (hd 0 (by kernel_rfl) rfl (by decide)) ⟨_, rfl, rfl, rfl⟩
    · exact st_field rfl (hd 36 (by kernel_rfl) rfl (by decide)) ⟨_, rfl, rfl, rfl⟩
  · intro a w hfr hm hrest
    obtain ⟨u1, u2, u3, u4, g, cap', H, e, ho, hg, hH, hH', h9, hp⟩ := hm
    have e20 : a.eval (.tmp 116) = .pointer (some ⟨hb, 0, none⟩) := hrest 37 (by decide) rfl (by decide)
    have hlt := cell_lt hc
    simp only at hlt
    refine st_store rfl rfl e20 e (by rw [h9.cell_far _ hlt (by simpa using hne)]; exact hc) (by rw [h9.frozen_far _ hlt (by simpa using hne)]; exact hfz) ?_
    exact hK a _ u1 u2 u3 u4 hfr (grew_store hne hc hfz ho hg hH hH' h9 hp)
theorem list_of21 {vs : List Value} (h : vs.length = 21) : ∃ v0 v1 v2 v3 v4 v5 v6 v7 v8 v9 v10 v11 v12 v13 v14 v15 v16 v17 v18 v19 v20, vs = [v0, v1, v2, v3, v4, v5, v6, v7, v8, v9, v10, v11, v12, v13, v14, v15, v16, v17, v18, v19, v20] :=
  match vs, h with
  | [v0, v1, v2, v3, v4, v5, v6, v7, v8, v9, v10, v11, v12, v13, v14, v15, v16, v17, v18, v19, v20], _ => ⟨v0, v1, v2, v3, v4, v5, v6, v7, v8, v9, v10, v11, v12, v13, v14, v15, v16, v17, v18, v19, v20, rfl⟩
theorem list_of17 {vs : List Value} (h : vs.length = 17) : ∃ v0 v1 v2 v3 v4 v5 v6 v7 v8 v9 v10 v11 v12 v13 v14 v15 v16, vs = [v0, v1, v2, v3, v4, v5, v6, v7, v8, v9, v10, v11, v12, v13, v14, v15, v16] :=
  match vs, h with
  | [v0, v1, v2, v3, v4, v5, v6, v7, v8, v9, v10, v11, v12, v13, v14, v15, v16], _ => ⟨v0, v1, v2, v3, v4, v5, v6, v7, v8, v9, v10, v11, v12, v13, v14, v15, v16, rfl⟩
theorem list_of38 {vs : List Value} (h : vs.length = 38) : ∃ v0 v1 v2 v3 v4 v5 v6 v7 v8 v9 v10 v11 v12 v13 v14 v15 v16 v17 v18 v19 v20 v21 v22 v23 v24 v25 v26 v27 v28 v29 v30 v31 v32 v33 v34 v35 v36 v37, vs = [v0, v1, v2, v3, v4, v5, v6, v7, v8, v9, v10, v11, v12, v13, v14, v15, v16, v17, v18, v19, v20, v21, v22, v23, v24, v25, v26, v27, v28, v29, v30, v31, v32, v33, v34, v35, v36, v37] := by
  obtain ⟨v0, v1, v2, v3, v4, v5, v6, v7, v8, v9, v10, v11, v12, v13, v14, v15, v16, v17, v18, v19, v20, e1⟩ := list_of21 (vs := vs.take 21) (by simp; omega)
  obtain ⟨v21, v22, v23, v24, v25, v26, v27, v28, v29, v30, v31, v32, v33, v34, v35, v36, v37, e2⟩ := list_of17 (vs := vs.drop 21) (by simp; omega)
  have e := List.take_append_drop 21 vs
  rw [e1, e2] at e
  exact ⟨v0, v1, v2, v3, v4, v5, v6, v7, v8, v9, v10, v11, v12, v13, v14, v15, v16, v17, v18, v19, v20, v21, v22, v23, v24, v25, v26, v27, v28, v29, v30, v31, v32, v33, v34, v35, v36, v37, e.symm⟩
set_option maxRecDepth 100000 in
set_option maxHeartbeats 4000000 in
theorem region9L {K : Act → World → Prop} {x : Array Oper} (hx : regionAt 9 (Try.f20.body.getD .skip) = x) {t0 t1 t2 t5 t7 t9 t10 t11 t12 t13 t14 t15 t16 t17 t18 t19 t20 t21 t22 t23 t24 t25 t26 t27 t28 t29 t30 t31 t32 t33 t34 t35 t36 t37 t38 t39 t40 t41 t42 t43 t44 t45 t46 t47 t48 t49 t50 t51 t52 t53 t54 t55 t56 t57 t58 t59 t60 t61 t62 t63 t64 t65 t66 t67 t68 t69 t70 t71 t72 t73 t74 t75 t76 t77 t78 t79 t80 t81 t82 t83 t84 t85 t86 t87 t88 t89 t90 t91 t92 t93 t94 t95 t96 t97 t98 t99 t100 t101 t102 t103 t104 t105 t106 t107 t108 t109 t110 t111 t112 t113 t114 t115 t116 t117 : Value} {t3 t4 t6 t8 : Value} {w9 : World} {hb gb bs len cap : Nat} {vs : List Value} {i : Int} (hi0 : 0 ≤ i) (hi1 : i ≤ 65536)
    (h3 : t3 = .func (.func 26) #[] #[]) (h4 : t4 = .func (.func 27) #[] #[]) (h6 : t6 = .pointer (some ⟨hb, 0, none⟩)) (h8 : t8 = .int .i64 i)
    (hc : w9.cell? ⟨hb, 0, none⟩ = some (.slice (some ⟨gb, 0, none⟩) len cap)) (hfz : w9.frozen? ⟨hb, 0, none⟩ = false) (hown : w9.ownsRow bs 32 1 (.slice (some ⟨gb, 0, none⟩) len cap) len vs) (hne : hb ≠ gb) (hlen : len ≤ 1048576) (hbs : bs ≤ w9.heap.size)
    (hK : ∀ v0 v1 v2 v3 v4 v5 v6 v7 v8 v9 v10 v11 v12 v13 v14 v15 v16 v17 v18 v19 v20 w u, Grew w9 hb gb bs len 1 vs [u] (fun w => TxsFr w9.heap.size w u [⟨[evWr 4 (i + 1), evWr (10 + i) 1], true⟩]) w → K ⟨#[t0, t1, t2, t3, t4, t5, t6, t7, t8, t9, t10, t11, t12, t13, t14, t15, t16, t17, t18, t19, t20, t21, t22, t23, t24, t25, t26, t27, t28, t29, t30, t31, t32, t33, t34, t35, t36, t37, t38, v0, v1, v2, v3, v4, v5, v6, v7, v8, v9, v10, v11, v12, v13, v14, v15, v16, v17, v18, v19, v20, t60, t61, t62, t63, t64, t65, t66, t67, t68, t69, t70, t71, t72, t73, t74, t75, t76, t77, t78, t79, t80, t81, t82, t83, t84, t85, t86, t87, t88, t89, t90, t91, t92, t93, t94, t95, t96, t97, t98, t99, t100, t101, t102, t103, t104, t105, t106, t107, t108, t109, t110, t111, t112, t113, t114, t115, t116, t117], []⟩ w) :
    Code.wp Try.prog (.region 9 x true) (onlyN K) ⟨#[t0, t1, t2, t3, t4, t5, t6, t7, t8, t9, t10, t11, t12, t13, t14, t15, t16, t17, t18, t19, t20, t21, t22, t23, t24, t25, t26, t27, t28, t29, t30, t31, t32, t33, t34, t35, t36, t37, t38, t39, t40, t41, t42, t43, t44, t45, t46, t47, t48, t49, t50, t51, t52, t53, t54, t55, t56, t57, t58, t59, t60, t61, t62, t63, t64, t65, t66, t67, t68, t69, t70, t71, t72, t73, t74, t75, t76, t77, t78, t79, t80, t81, t82, t83, t84, t85, t86, t87, t88, t89, t90, t91, t92, t93, t94, t95, t96, t97, t98, t99, t100, t101, t102, t103, t104, t105, t106, t107, t108, t109, t110, t111, t112, t113, t114, t115, t116, t117], []⟩ w9 := by
  subst h3 h4 h6 h8
  refine region9 hx rfl rfl rfl rfl rfl hi0 hi1 hc hfz hown hne hlen hbs ?_
  intro a w u hfr hG
  obtain ⟨l, hl, rfl, -⟩ := hfr.list (show 39 + 21 ≤ 118 by decide)
  obtain ⟨v0, v1, v2, v3, v4, v5, v6, v7, v8, v9, v10, v11, v12, v13, v14, v15, v16, v17, v18, v19, v20, rfl⟩ := list_of21 hl
  exact hK v0 v1 v2 v3 v4 v5 v6 v7 v8 v9 v10 v11 v12 v13 v14 v15 v16 v17 v18 v19 v20 w u hG
set_option maxRecDepth 100000 in
set_option maxHeartbeats 4000000 in
theorem region13L {K : Act → World → Prop} {x : Array Oper} (hx : regionAt 13 (Try.f20.body.getD .skip) = x) {t0 t1 t2 t7 t8 t10 t11 t12 t13 t14 t15 t16 t17 t18 t19 t20 t21 t22 t23 t24 t25 t26 t27 t28 t29 t30 t31 t32 t33 t34 t35 t36 t37 t38 t39 t40 t41 t42 t43 t44 t45 t46 t47 t48 t49 t50 t51 t52 t53 t54 t55 t56 t57 t58 t59 t60 t61 t62 t63 t64 t65 t66 t67 t68 t69 t70 t71 t72 t73 t74 t75 t76 t77 t78 t79 t80 t81 t82 t83 t84 t85 t86 t87 t88 t89 t90 t91 t92 t93 t94 t95 t96 t97 t98 t99 t100 t101 t102 t103 t104 t105 t106 t107 t108 t109 t110 t111 t112 t113 t114 t115 t116 t117 : Value} {t3 t4 t5 t6 t9 : Value} {w9 : World} {hb gb bs len cap : Nat} {vs : List Value} {ra : Option Addr} {rn rc : Nat}
    (h3 : t3 = .func (.func 26) #[] #[]) (h4 : t4 = .func (.func 27) #[] #[]) (h5 : t5 = .func (.func 28) #[] #[]) (h6 : t6 = .pointer (some ⟨hb, 0, none⟩)) (h9 : t9 = .slice ra rn rc)
    (hc : w9.cell? ⟨hb, 0, none⟩ = some (.slice (some ⟨gb, 0, none⟩) len cap)) (hfz : w9.frozen? ⟨hb, 0, none⟩ = false) (hown : w9.ownsRow bs 32 1 (.slice (some ⟨gb, 0, none⟩) len cap) len vs) (hne : hb ≠ gb) (hlen : len ≤ 1048576) (hbs : bs ≤ w9.heap.size)
    (hK : ∀ v0 v1 v2 v3 v4 v5 v6 v7 v8 v9 v10 v11 v12 v13 v14 v15 v16 v17 v18 v19 v20 v21 v22 v23 v24 v25 v26 v27 v28 v29 v30 v31 v32 v33 v34 v35 v36 v37 w u1 u2 u3 u4, Grew w9 hb gb bs len 5 vs [.slice ra rn rc, u1, u2, u3, u4] (fun w => TxsFr w9.heap.size w u1 [⟨[evWr 5 1], true⟩] ∧ TxsFr w9.heap.size w u2 [⟨[evWr 6 1], true⟩] ∧ TxsFr w9.heap.size w u3 [⟨[evRd 5 1, evRd 6 0], true⟩] ∧ TxsFr w9.heap.size w u4 [⟨[evRd 6 1, evRd 5 0], true⟩]) w → K ⟨#[t0, t1, t2, t3, t4, t5, t6, t7, t8, t9, t10, t11, t12, t13, t14, t15, t16, t17, t18, t19, t20, t21, t22, t23, t24, t25, t26, t27, t28, t29, t30, t31, t32, t33, t34, t35, t36, t37, t38, t39, t40, t41, t42, t43, t44, t45, t46, t47, t48, t49, t50, t51, t52, t53, t54, t55, t56, t57, t58, t59, t60, t61, t62, t63, t64, t65, t66, t67, t68, t69, t70, t71, t72, t73, t74, t75, t76, t77, t78, v0, v1, v2, v3, v4, v5, v6, v7, v8, v9, v10, v11, v12, v13, v14, v15, v16, v17, v18, v19, v20, v21, v22, v23, v24, v25, v26, v27, v28, v29, v30, v31, v32, v33, v34, v35, v36, v37, t117], []⟩ w) :
    Code.wp Try.prog (.region 13 x true) (onlyN K) ⟨#[t0, t1, t2, t3, t4, t5, t6, t7, t8, t9, t10, t11, t12, t13, t14, t15, t16, t17, t18, t19, t20, t21, t22, t23, t24, t25, t26, t27, t28, t29, t30, t31, t32, t33, t34, t35, t36, t37, t38, t39, t40, t41, t42, t43, t44, t45, t46, t47, t48, t49, t50, t51, t52, t53, t54, t55, t56, t57, t58, t59, t60, t61, t62, t63, t64, t65, t66, t67, t68, t69, t70, t71, t72, t73, t74, t75, t76, t77, t78, t79, t80, t81, t82, t83, t84, t85, t86, t87, t88, t89, t90, t91, t92, t93, t94, t95, t96, t97, t98, t99, t100, t101, t102, t103, t104, t105, t106, t107, t108, t109, t110, t111, t112, t113, t114, t115, t116, t117], []⟩ w9 := by
  subst h3 h4 h5 h6 h9
  refine region13 hx rfl rfl rfl rfl rfl rfl hc hfz hown hne hlen hbs ?_
  intro a w u1 u2 u3 u4 hfr hG
  obtain ⟨l, hl, rfl, -⟩ := hfr.list (show 79 + 38 ≤ 118 by decide)
  obtain ⟨v0, v1, v2, v3, v4, v5, v6, v7, v8, v9, v10, v11, v12, v13, v14, v15, v16, v17, v18, v19, v20, v21, v22, v23, v24, v25, v26, v27, v28, v29, v30, v31, v32, v33, v34, v35, v36, v37, rfl⟩ := list_of38 hl
  exact hK v0 v1 v2 v3 v4 v5 v6 v7 v8 v9 v10 v11 v12 v13 v14 v15 v16 v17 v18 v19 v20 v21 v22 v23 v24 v25 v26 v27 v28 v29 v30 v31 v32 v33 v34 v35 v36 v37 w u1 u2 u3 u4 hG
theorem wp_onlyN {P : Program} {c : Code} {Q : Exit → Act → World → Prop} {a : Act} {w : World} (h : Code.wp P c (onlyN (fun a w => Q .normal a w)) a w) : Code.wp P c Q a w :=
  Code.wp_mono (fun e a w he => by cases e <;> first | exact he | exact he.elim) h
end Go.Proofs.Qxb6000864a
