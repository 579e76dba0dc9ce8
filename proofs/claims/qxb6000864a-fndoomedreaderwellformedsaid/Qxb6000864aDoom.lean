import Derived.Test.Qxb6000864aDoomInv
import Derived.Deep.QuietTactic
namespace Go.Proofs.Qxb6000864a
open Go.RowKit
theorem init_dinv {w0 w : World} {B : Nat} {a1 a2 a3 : Option Addr} {n1 n2 n3 c1 c2 c3 : Nat} (hB : w.heap.size = B) (hb : Below w0.heap.size w0 w) (s1 : TxsFr 0 w (.slice a1 n1 c1) [⟨[evWr 2 1, evWr 3 1], true⟩]) (s2 : TxsFr 0 w (.slice a2 n2 c2) [⟨[evWr 1 2, evWr 2 3], true⟩]) (s3 : TxsFr 0 w (.slice a3 n3 c3) [⟨[evWr 1 4], true⟩]) :
    DInv w0 (B + 1) 0 0 (.slice none 0 0) ((w.alloc (.cells #[.slice a1 n1 c1, .slice a2 n2 c2, .slice a3 n3 c3] 32)).alloc (.cells #[.slice (some ⟨B, 0, none⟩) 3 3] 30)) := by
  subst hB
  have h1 := hb.size
  have hst : Below w.heap.size w ((w.alloc (.cells #[.slice a1 n1 c1, .slice a2 n2 c2, .slice a3 n3 c3] 32)).alloc (.cells #[.slice (some ⟨w.heap.size, 0, none⟩) 3 3] 30)) := (below_alloc w _).alloc (by simp) _
  refine ⟨w.heap.size, 3, [.slice a1 n1 c1, .slice a2 n2 c2, .slice a3 n3 c3], by simp, by simp, (World.ownsRow_lit w #[.slice a1 n1 c1, .slice a2 n2 c2, .slice a3 n3 c3] 3 h1 (by decide) rfl).alloc _, World.ownsRow_nil _ _ _ _, by omega, by simp [Value.ownBlock], by simp [Value.ownBlock], by omega, hb.trans (hst.mono h1), fun j v s hv hs => ?_⟩
  have hX : ∀ b, (b = w.heap.size + 1 ∨ b = w.heap.size ∨ (Value.slice none 0 0).ownBlock = some b) → w.heap.size ≤ b := by
    rintro b (rfl | rfl | h)
    · omega
    · omega
    · simp [Value.ownBlock] at h
  have hj : j < 3 := by simpa using (List.getElem?_eq_some_iff.1 hv).1
  match j, hj with
  | 0, _ => cases hv; cases hs; exact Safe.txs s1.at hst hX
  | 1, _ => cases hv; cases hs; exact Safe.txs s2.at hst hX
  | 2, _ => cases hv; cases hs; exact Safe.txs s3.at hst hX
/-- the reader's two transactions, ahead of the last append. -/
theorem reader_safe {w0 w w1 : World} {hb k n c e2 : Nat} {a : Option Addr} (hk : k ≤ 65536) (h : DInv w0 hb k k (.slice a n c) w) (hw : Below w.heap.size w w1) (hev : EvsFr w.heap.size w1 (.slice (some ⟨e2, 0, none⟩) 2 2) [evRd 1 4, evRd 3 0]) :
    ∃ gb cap vs, let w2 := w1.alloc (.cells #[.slice a n c, .bool true, .slice (some ⟨e2, 0, none⟩) 2 2, .bool true] 36)
      w2.cell? ⟨hb, 0, none⟩ = some (.slice (some ⟨gb, 0, none⟩) (3 + k) cap) ∧ w2.frozen? ⟨hb, 0, none⟩ = false ∧ w2.ownsRow w0.heap.size 32 1 (.slice (some ⟨gb, 0, none⟩) (3 + k) cap) (3 + k) vs ∧ hb ≠ gb ∧ w0.heap.size ≤ hb ∧ Below w0.heap.size w0 w2 ∧
      (∀ (j : Nat) v s, vs[j]? = some v → (drPre k)[j]? = some s → Safe (fun b => b = hb ∨ b = gb) (fun w => TxsAt w v s) w2) ∧ Safe (fun b => b = hb ∨ b = gb) (fun w => TxsAt w (.slice (some ⟨w1.heap.size, 0, none⟩) 2 2) (rdS k)) w2 := by
  have h0 := h
  obtain ⟨gb0, _, _, i1, _, i3, _⟩ := h0
  have hlt0 := cell_lt i1
  simp only at hlt0
  have hD := (h.stay hw).stay (below_alloc w1 (.cells #[.slice a n c, .bool true, .slice (some ⟨e2, 0, none⟩) 2 2, .bool true] 36))
  have hD1 := h
  obtain ⟨gb, cap, vs, h1, h2, h3, h4, h5, h6, h7, h8, h9, h10⟩ := hD1
  have st : Below w.heap.size w (w1.alloc (.cells #[.slice a n c, .bool true, .slice (some ⟨e2, 0, none⟩) 2 2, .bool true] 36)) := hw.alloc hw.size _
  have hlt := cell_lt h1
  simp only at hlt
  have hgb := (h3.lt gb rfl).2
  have X0 : ∀ b, (b = hb ∨ b = gb) → b < w.heap.size := by rintro b (rfl | rfl) <;> assumption
  refine ⟨gb, cap, vs, cell_stay st h1, by rw [World.frozen?_of_block (st.block hb hlt)]; exact h2, own_off h3 (Off.of_below (X := fun _ => False) st) (fun _ _ h => h), h5, h8, h9.trans (st.mono h9.size), fun j v s hv hs => (h10 j v s hv hs).move (Off.of_below st) (fun b hx => .inl (hx.elim (fun h => .inl h) (fun h => .inr (.inl h)))), ?_⟩
  refine safe_txs2 (t1 := ⟨fst k, true⟩) (t2 := ⟨[evRd 1 4, evRd 3 0], true⟩) (heap_alloc_new w1 _) (fun hx => ?_) ?_ ?_
  · have := X0 _ hx
    have := hw.size
    omega
  · intro w' ho
    refine own_evs (own_off (own_off h4 (Off.of_below (X := fun _ => False) st) (fun _ _ h => h)) ho fun b hb1 hx => ?_) (fst_len k).symm (by unfold small; omega) (fst_ok hk)
    rcases hx with rfl | rfl
    · exact h6 hb1
    · exact h7 hb1
  · exact Safe.evsFr (hev.stay (below_alloc w1 _)) X0

set_option maxRecDepth 100000 in
set_option maxHeartbeats 4000000 in
theorem dr_any (n : Int) (hn : n ≤ 65536) (w : World) : Calls Try.prog 20 #[.int .i64 n] w fun e w' =>
    ∃ p, e = .returned p ∧ HistAt w' p (drSS n.toNat) ∧ Below w.heap.size w w' := by
  go_enter Try.func20, Try.ntmps20
  have B : Hid (Below w.heap.size w w) := Below.refl _ _
  go_wp2_with fail
  refine (drWrite _ _ _).mono ?_
  rintro e w1 ⟨rfl, hb⟩
  have B2 : Hid (Below w.heap.size w w1) := B.out.trans (hb.mono B.out.size)
  clear B; have B := B2; clear B2
  clear hb
  go_wp2_with fail
  refine (drWrite _ _ _).mono ?_
  rintro e w2 ⟨rfl, hb⟩
  have B2 : Hid (Below w.heap.size w w2) := B.out.trans (hb.mono B.out.size)
  clear B; have B := B2; clear B2
  clear hb
  go_wp2_with fail
  refine (drTxn _ _ _ _).mono ?_
  rintro e w3 ⟨rfl, hb⟩
  have hb2 : Below w2.heap.size w2 w3 := (below_alloc w2 _).trans (hb.mono (by simp))
  have B2 : Hid (Below w.heap.size w w3) := B.out.trans (hb2.mono B.out.size)
  clear B; have B := B2; clear B2
  have EV : Hid (EvsFr 0 w3 (.slice (some ⟨w2.heap.size, 0, none⟩) 2 2) [evWr 2 1, evWr 3 1]) := (evs_fr2 w2 (evWr 2 1) (evWr 3 1) (Nat.zero_le _) (by decide) (by decide)).stay hb
  clear hb hb2
  go_wp2_with fail
  refine (drWrite _ _ _).mono ?_
  rintro e w4 ⟨rfl, hb⟩
  have hb2 : Below w3.heap.size w3 w4 := (below_alloc w3 _).trans (hb.mono (by simp))
  have B2 : Hid (Below w.heap.size w w4) := B.out.trans (hb2.mono B.out.size)
  clear B; have B := B2; clear B2
  have S1 : Hid (TxsFr 0 w4 (.slice (some ⟨w3.heap.size, 0, none⟩) 1 1) [⟨[evWr 2 1, evWr 3 1], true⟩]) := (txs_fr1 w3 ⟨[evWr 2 1, evWr 3 1], true⟩ (Nat.zero_le _) EV.out).stay hb
  clear EV hb hb2
  go_wp2_with fail
  refine (drWrite _ _ _).mono ?_
  rintro e w5 ⟨rfl, hb⟩
  have B2 : Hid (Below w.heap.size w w5) := B.out.trans (hb.mono B.out.size)
  clear B; have B := B2; clear B2
  have S12 : Hid (TxsFr 0 w5 (.slice (some ⟨w3.heap.size, 0, none⟩) 1 1) [⟨[evWr 2 1, evWr 3 1], true⟩]) := S1.out.stay hb
  clear S1; have S1 := S12; clear S12
  clear hb
  go_wp2_with fail
  refine (drTxn _ _ _ _).mono ?_
  rintro e w6 ⟨rfl, hb⟩
  have hb2 : Below w5.heap.size w5 w6 := (below_alloc w5 _).trans (hb.mono (by simp))
  have B2 : Hid (Below w.heap.size w w6) := B.out.trans (hb2.mono B.out.size)
  clear B; have B := B2; clear B2
  have S12 : Hid (TxsFr 0 w6 (.slice (some ⟨w3.heap.size, 0, none⟩) 1 1) [⟨[evWr 2 1, evWr 3 1], true⟩]) := S1.out.stay hb2
  clear S1; have S1 := S12; clear S12
  have EV : Hid (EvsFr 0 w6 (.slice (some ⟨w5.heap.size, 0, none⟩) 2 2) [evWr 1 2, evWr 2 3]) := (evs_fr2 w5 (evWr 1 2) (evWr 2 3) (Nat.zero_le _) (by decide) (by decide)).stay hb
  clear hb hb2
  go_wp2_with fail
  refine (drWrite _ _ _).mono ?_
  rintro e w7 ⟨rfl, hb⟩
  have hb2 : Below w6.heap.size w6 w7 := (below_alloc w6 _).trans (hb.mono (by simp))
  have B2 : Hid (Below w.heap.size w w7) := B.out.trans (hb2.mono B.out.size)
  clear B; have B := B2; clear B2
  have S12 : Hid (TxsFr 0 w7 (.slice (some ⟨w3.heap.size, 0, none⟩) 1 1) [⟨[evWr 2 1, evWr 3 1], true⟩]) := S1.out.stay hb2
  clear S1; have S1 := S12; clear S12
  have S2 : Hid (TxsFr 0 w7 (.slice (some ⟨w6.heap.size, 0, none⟩) 1 1) [⟨[evWr 1 2, evWr 2 3], true⟩]) := (txs_fr1 w6 ⟨[evWr 1 2, evWr 2 3], true⟩ (Nat.zero_le _) EV.out).stay hb
  clear EV hb hb2
  go_wp2_with fail
  refine (drTxn _ _ _ _).mono ?_
  rintro e w8 ⟨rfl, hb⟩
  have hb2 : Below w7.heap.size w7 w8 := (below_alloc w7 _).trans (hb.mono (by simp))
  have B2 : Hid (Below w.heap.size w w8) := B.out.trans (hb2.mono B.out.size)
  clear B; have B := B2; clear B2
  have S12 : Hid (TxsFr 0 w8 (.slice (some ⟨w3.heap.size, 0, none⟩) 1 1) [⟨[evWr 2 1, evWr 3 1], true⟩]) := S1.out.stay hb2
  clear S1; have S1 := S12; clear S12
  have S22 : Hid (TxsFr 0 w8 (.slice (some ⟨w6.heap.size, 0, none⟩) 1 1) [⟨[evWr 1 2, evWr 2 3], true⟩]) := S2.out.stay hb2
  clear S2; have S2 := S22; clear S22
  have EV : Hid (EvsFr 0 w8 (.slice (some ⟨w7.heap.size, 0, none⟩) 1 1) [evWr 1 4]) := (evs_fr1 w7 (evWr 1 4) (Nat.zero_le _) (by decide)).stay hb
  clear hb hb2
  have D : Hid (DInv w (w8.heap.size + 1 + 1) 0 0 (.slice none 0 0) (((w8.alloc (.cells #[.slice (some ⟨w7.heap.size, 0, none⟩) 1 1, .bool true] 36)).alloc (.cells #[.slice (some ⟨w3.heap.size, 0, none⟩) 1 1, .slice (some ⟨w6.heap.size, 0, none⟩) 1 1, .slice (some ⟨w8.heap.size, 0, none⟩) 1 1] 32)).alloc (.cells #[.slice (some ⟨w8.heap.size + 1, 0, none⟩) 3 3] 30))) :=
    init_dinv (by simp) (B.out.trans ((below_alloc _ _).mono B.out.size)) (S1.out.stay (below_alloc _ _)) (S2.out.stay (below_alloc _ _)) (txs_fr1 w8 ⟨[evWr 1 4], true⟩ (Nat.zero_le _) EV.out)
  clear EV S1 S2 B
  go_wp2
  generalize w8.heap.size + 1 + 1 = HB at D ⊢
  go_loopw [7, 36] (fun z i wr => ∃ (k zn zc : Nat) (za : Option Addr), k ≤ n.toNat ∧ i = .int .i64 k ∧ z = .slice za zn zc ∧ DInv w HB k k z wr) (fun _ i _ => n.toNat - (intOf i).toNat)
  case atStart => exact ⟨0, 0, 0, none, by omega, rfl, rfl, D.out⟩
  case round =>
    clear D
    obtain ⟨k, zn, zc, za, hk, rfl, rfl, hD⟩ := hrel
    have HD : Hid (DInv w HB k k (.slice za zn zc) wr) := hD
    clear hD
    by_cases hlt : (k : Int) < n
    · have hk2 : k < 65536 := by omega
      have hD := HD.out
      obtain ⟨gb, cap, vs, h1, h2, h3, h4, h5, h6, h7, h8, h9, h10⟩ := hD
      have H : Hid (_ ∧ _ ∧ _ ∧ _ ∧ _ ∧ _ ∧ _ ∧ _ ∧ _ ∧ _) := ⟨h1, h2, h3, h4, h5, h6, h7, h8, h9, h10⟩
      clear h1 h2 h3 h4 h5 h6 h7 h8 h9 h10
      go_wp2_with fail
      refine wp_onlyN ?_
      refine region9L (by kernel_rfl) (by omega) (by omega) rfl rfl rfl rfl H.out.1 H.out.2.1 H.out.2.2.1 H.out.2.2.2.2.1 (by omega) H.out.2.2.2.2.2.2.2.2.1.size ?_
      intro v0 v1 v2 v3 v4 v5 v6 v7 v8 v9 v10 v11 v12 v13 v14 v15 v16 v17 v18 v19 v20 w1 u hG
      have D1 : Hid (DInv w HB (k + 1) k (.slice za zn zc) w1) := grew_dinv H.out.1 H.out.2.2.1 H.out.2.2.2.1 H.out.2.2.2.2.1 H.out.2.2.2.2.2.1 H.out.2.2.2.2.2.2.1 H.out.2.2.2.2.2.2.2.1 H.out.2.2.2.2.2.2.2.2.1 H.out.2.2.2.2.2.2.2.2.2 hG
      clear hG H HD
      go_wp2_with fail
      refine (drRead _ _ _).mono ?_
      rintro e w2 ⟨rfl, hb⟩
      have D2 : Hid (DInv w HB (k + 1) k (.slice za zn zc) w2) := D1.out.stay hb
      clear D1 hb
      have HOW : Hid (w2.ownsRow w.heap.size 56 4 (.slice za zn zc) k (evC (fst k)) ∧ w.heap.size ≤ w2.heap.size) := by
        obtain ⟨_, _, _, _, _, _, h4, _, _, _, _, h9, _⟩ := D2.out
        exact ⟨h4, h9.size⟩
      obtain ⟨i0, hi0, hz0, hz1, hz2⟩ := info_parts info56h
      go_wp2_with (at_builtin; refine wpList_append_lies _ rfl _ _ 34 rfl w.heap.size 56 i0 _ 4 32 Try.underlying34 hi0 hz0 hz1 hz2 rfl (by decide) (.slice za zn zc) k (evC (fst k)) rfl (HOW.out.1.alloc _) ⟨w2.heap.size, 0, none⟩ 1 1 [.bool false, .int .i64 (10 + (k : Int)), .int .i64 1, .bool false] rfl rfl (World.news_of_block (cs := #[.bool false, .int .i64 (10 + (k : Int)), .int .i64 1, .bool false]) (t := 56) (fr := (0, 0)) (heap_alloc_new w2 _)) (by simp [Value.oneCell']) (by decide) (by unfold maxLen; omega) (by omega) (by have := HOW.out.2; simp; omega) (w2.heap.size + 1) (by simp) ?_; intro g c w3' hown hgrow hat hltg)
      have D3 : Hid (DInv w HB (k + 1) (k + 1) (.slice (some ⟨g, 0, none⟩) (k + 1) c) w3') := app_dinv (D2.out.stay (below_alloc _ _)) (by rw [fst_succ, evC_snoc]; exact hown) hgrow (by simpa using hat)
      clear hown hgrow hat hltg HOW D2
      go_roundw
      case rel => exact ⟨k + 1, k + 1, c, some ⟨g, 0, none⟩, by omega, by go_num, rfl, D3.out⟩
      case measure => simp [intOf]; omega
    · have hkn : k = n.toNat := by omega
      have hk2 : k ≤ 65536 := by omega
      have hle : ¬ ((k : Int) < n) := hlt
      clear hk
      go_wp2_with fail
      refine (drTxn _ _ _ _).mono ?_
      rintro e x1 ⟨rfl, b1⟩
      go_wp2_with fail
      refine (drRead _ _ _).mono ?_
      rintro e x2 ⟨rfl, b2⟩
      go_wp2_with fail
      refine (drRead _ _ _).mono ?_
      rintro e x3 ⟨rfl, b3⟩
      have BX : Hid (Below wr.heap.size wr x3) := (b1.trans (b2.mono b1.size)).trans (b3.mono (by have := b1.size; have := b2.size; omega))
      clear b1 b2 b3
      go_wp2_with fail
      refine (drTxn _ _ _ _).mono ?_
      rintro e x4 ⟨rfl, b4⟩
      have EV : Hid (EvsFr wr.heap.size x4 (.slice (some ⟨x3.heap.size, 0, none⟩) 2 2) [evRd 1 4, evRd 3 0]) := (evs_fr2 x3 (evRd 1 4) (evRd 3 0) BX.out.size (by decide) (by decide)).stay b4
      have BX4 : Hid (Below wr.heap.size wr x4) := BX.out.trans (((below_alloc x3 _).trans (b4.mono (by simp))).mono BX.out.size)
      clear b4 BX
      have hR := reader_safe hk2 HD.out BX4.out EV.out
      obtain ⟨gb, cap, vs, h1, h2, h3, h5, h8, h9, h10, hr⟩ := hR
      have H : Hid (_ ∧ _ ∧ _ ∧ _ ∧ _ ∧ _ ∧ _ ∧ _) := ⟨h1, h2, h3, h5, h8, h9, h10, hr⟩
      clear h1 h2 h3 h5 h8 h9 h10 hr EV BX4 HD
      go_wp2_with fail
      refine wp_onlyN ?_
      refine region13L (by kernel_rfl) rfl rfl rfl rfl rfl H.out.1 H.out.2.1 H.out.2.2.1 H.out.2.2.2.1 (by omega) H.out.2.2.2.2.2.1.size ?_
      intro v0 v1 v2 v3 v4 v5 v6 v7 v8 v9 v10 v11 v12 v13 v14 v15 v16 v17 v18 v19 v20 v21 v22 v23 v24 v25 v26 v27 v28 v29 v30 v31 v32 v33 v34 v35 v36 v37 w1 u1 u2 u3 u4 hG
      have DN : Hid (HistAt w1 (.pointer (some ⟨HB, 0, none⟩)) (drSS k) ∧ Below w.heap.size w w1) := done_dinv hk2 H.out.2.2.1 H.out.2.2.2.2.1 H.out.2.2.2.2.2.1 H.out.2.2.2.2.2.2.1 H.out.2.2.2.2.2.2.2 hG
      clear hG H
      go_wp2
      go_ret
      exact ⟨_, rfl, hkn ▸ DN.out.1, DN.out.2⟩
end Go.Proofs.Qxb6000864a
