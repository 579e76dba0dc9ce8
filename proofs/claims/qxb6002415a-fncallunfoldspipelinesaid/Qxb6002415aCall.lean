import Derived.Test.Qxb6002415aCallRegion
import Derived.OwnWalk
namespace Go.Proofs.Qxb6002415a
open Go.RowKit
/-- one more than the place of the last pipe among the first i kinds; 0: there is none. -/
def lastN (xs : List Int) : Nat → Nat
  | 0 => 0
  | i + 1 => if xs.getD i 0 = 1 then i + 1 else lastN xs i
theorem lastN_le (xs : List Int) : ∀ i, lastN xs i ≤ i
  | 0 => Nat.le_refl _
  | i + 1 => by
    unfold lastN
    split
    · exact Nat.le_refl _
    · exact Nat.le_succ_of_le (lastN_le xs i)
theorem lastN_pipe (xs : List Int) : ∀ i, 0 < lastN xs i → xs.getD (lastN xs i - 1) 0 = 1
  | 0, h => absurd h (by simp [lastN])
  | i + 1, h => by
    unfold lastN at h ⊢
    split
    · rename_i e; simpa using e
    · rename_i e; rw [if_neg e] at h; exact lastN_pipe xs i h
/-- what Call answers on a block of m nodes whose last stage begins at st. -/
def CallOut (w w' : World) (src : ByteArray) (nb m c st : Nat) (e : Ending) : Prop :=
  (st = m ∨ st = 1 → ∃ eb, e = .returned (.tuple #[.nilIface, .slice none 0 0, .iface 48 (.pointer (some eb))])) ∧
  (st = 0 → 0 < m → ∃ v ao ac, (1 < m → ao = 1) ∧ w.cell? ⟨nb, 0, none⟩ = some v ∧ e = .returned (.tuple #[v, .slice (some ⟨nb, ao, none⟩) (m - 1) ac, .nilIface])) ∧
  (1 < st → st < m → ∃ v pb ab ac, w.cell? ⟨nb, st, none⟩ = some v ∧ e = .returned (.tuple #[v, .slice (some ⟨ab, 0, none⟩) (m - st) ac, .nilIface]) ∧ BlkAt w' pb src (st - 1) (some ⟨nb, 0, none⟩) (st - 1) c true ∧
    w'.cell? ⟨ab, 0, none⟩ = some (.iface 25 (.pointer (some ⟨pb, 0, none⟩))) ∧ ∀ t, t + 1 < m - st → w'.cell? ⟨ab, t + 1, none⟩ = w.cell? ⟨nb, st + 1 + t, none⟩)
theorem nodes_list {w : World} {nb : Nat} {xs : List Int} (h : NodesAt w nb xs) : ∀ len off, off + len ≤ xs.length → ∃ L : List Value, L.length = len ∧ ∀ (t : Nat) u, L[t]? = some u → w.cell? ⟨nb, off + t, none⟩ = some u ∧ u.oneCell' = true
  | 0, _, _ => ⟨[], rfl, fun t u ht => by simp at ht⟩
  | len + 1, off, hl => by
    obtain ⟨L, hL, hc⟩ := nodes_list h len (off + 1) (by omega)
    obtain ⟨v, cv, bn, _, hv⟩ := h off (by omega)
    refine ⟨v :: L, by simp [hL], fun t u ht => ?_⟩
    match t, ht with
    | 0, ht =>
      simp at ht
      subst ht
      refine ⟨cv, ?_⟩
      rcases hv with ⟨_, rfl, _⟩ | ⟨_, rfl, _⟩ | ⟨_, rfl, _⟩ <;> rfl
    | t + 1, ht =>
      have := hc t u (by simpa using ht)
      rw [show off + (t + 1) = off + 1 + t by omega]
      exact this
theorem node_pipe {w : World} {nb i : Nat} {xs : List Int} (h : NodesAt w nb xs) (hi : i < xs.length) (hx : xs.getD i 0 = 1) : ∃ bn ln, w.cell? ⟨nb, i, none⟩ = some (.iface 46 (.pointer (some ⟨bn, 0, none⟩))) ∧ w.cell? ⟨bn, 0, none⟩ = some (.int .i64 ln) := by
  obtain ⟨v, cv, bn, _, hv⟩ := h i hi
  have hxe : xs[i] = 1 := by rw [← hx]; simp [List.getD, hi]
  rw [hxe] at hv
  rcases hv with ⟨e, _⟩ | ⟨_, rfl, _, ln, h4⟩ | ⟨e, _⟩
  · cases e
  · exact ⟨bn, ln, cv, h4⟩
  · cases e
theorem call_tail {wr w1 w2 : World} {src : ByteArray} {nb m c l pb ab ac q : Nat} {hv : Value} {L : List Value} (hbl : Below wr.heap.size wr w1) (hB : BlkAt w1 pb src (l + 1) (some ⟨nb, 0, none⟩) (l + 1) c true)
    (hgr : (w1.alloc (.cells #[.iface 25 (.pointer (some ⟨pb, 0, none⟩))] 29)).grownBy w2 (some w1.heap.size)) (hown : w2.ownsRow w1.heap.size 29 1 (.slice (some ⟨ab, 0, none⟩) (1 + q) ac) (1 + q) ([.iface 25 (.pointer (some ⟨pb, 0, none⟩))] ++ L))
    (hq : 1 + q = m - (l + 2)) (hL : L.length = m - (l + 3)) (hLC : ∀ (t : Nat) u, L[t]? = some u → wr.cell? ⟨nb, l + 3 + t, none⟩ = some u ∧ u.oneCell' = true) (ch : wr.cell? ⟨nb, l + 2, none⟩ = some hv) (hl2 : l + 2 < m) :
    CallOut wr w2 src nb m c (l + 2) (.returned (.tuple #[hv, .slice (some ⟨ab, 0, none⟩) (1 + q) ac, .nilIface])) ∧ Below wr.heap.size wr w2 := by
  have hb2 : Below w1.heap.size w1 w2 := (below_alloc w1 _).trans ⟨hgr.os, hgr.tape, hgr.output, hgr.size, fun j hj => hgr.block j (by simp; omega) (by simp; omega)⟩
  refine ⟨⟨fun h => absurd h (by omega), fun h => absurd h (by omega), fun _ _ => ⟨hv, pb, ab, ac, ch, by rw [hq], hB.stay hb2, ?_, fun t ht => ?_⟩⟩, hbl.trans (hb2.mono hbl.size)⟩
  · rw [hown.cellAt 0 (by omega)]
    rfl
  · rw [hown.cellAt (t + 1) (by omega)]
    have ht' : t < L.length := by omega
    have e : ([.iface 25 (.pointer (some ⟨pb, 0, none⟩))] ++ L)[t + 1]? = L[t]? := by simp
    rw [e, List.getElem?_eq_getElem ht']
    have := (hLC t _ (List.getElem?_eq_getElem ht')).1
    rw [show l + 2 + 1 + t = l + 3 + t by omega, this]
set_option maxRecDepth 100000 in
set_option maxHeartbeats 8000000 in
theorem call_any (b to nb m c : Nat) (src : ByteArray) (pp : Bool) (xs : List Int) (w : World) (h : BlkAt w b src to (some ⟨nb, 0, none⟩) m c pp) (hN : NodesAt w nb xs) (hm : m ≤ xs.length) (hmc : m ≤ c) (hm64 : m ≤ 64) (hc : c ≤ maxLen) :
    Calls Try.prog 7 #[.pointer (some ⟨b, 0, none⟩)] w fun e w' => CallOut w w' src nb m c (lastN xs m) e ∧ Below w.heap.size w w' := by
  have HN : Hid (NodesAt w nb xs) := hN
  have HM : Hid (m ≤ xs.length) := hm
  clear hN hm
  unfold maxLen at hc
  obtain ⟨c0, c1, c2, c3, c4, c5, c6⟩ := h
  obtain ⟨st, hst⟩ : ∃ st, st = lastN xs m := ⟨_, rfl⟩
  rw [← hst]
  have HSE : Hid (st = lastN xs m) := hst
  have hle : st ≤ m := by rw [hst]; exact lastN_le xs m
  have HP : Hid (0 < st → xs.getD (st - 1) 0 = 1) := by rw [hst]; exact lastN_pipe xs m
  clear hst
  go_enter Try.func7, Try.ntmps7
  go_wp2
  go_loopw [5, 17] (fun q i wr => ∃ k : Nat, k ≤ m ∧ i = .int .i64 k ∧ q = .int .i64 ((lastN xs k : Int) - 1) ∧ wr = w) (fun _ i _ => m - (intOf i).toNat)
  case atStart => exact ⟨0, by omega, rfl, rfl, rfl⟩
  case round =>
    obtain ⟨k, hk, rfl, rfl, rfl⟩ := hrel
    by_cases hlt : k < m
    · have hkx : k < xs.length := Nat.lt_of_lt_of_le hlt HM.out
      obtain ⟨v, cv, bn, _, hv⟩ := HN.out k hkx
      have hxe : xs[k] = xs.getD k 0 := by simp [List.getD, hkx]
      rw [hxe] at hv
      have hlk := lastN_le xs k
      have HLN : Hid (lastN xs (k + 1) = if xs.getD k 0 = 1 then k + 1 else lastN xs k) := rfl
      generalize lastN xs k = sk at hlk HLN
      clear hxe
      generalize xs.getD k 0 = x at hv HLN
      have a46 := assertP46 ⟨bn, 0, none⟩
      have a25 := assertP25 ⟨bn, 0, none⟩
      have a52 := assertP52 ⟨bn, 0, none⟩
      rcases hv with ⟨hx, rfl, _⟩ | ⟨hx, rfl, _⟩ | ⟨hx, rfl, _⟩
      · have HX : Hid (x = 0) := hx
        clear hx
        go_wp2
        go_roundw
        case rel => exact ⟨k + 1, by omega, by go_num, by rw [HLN.out, HX.out]; simp, by first | rfl | trivial⟩
        case measure => simp [intOf]; omega
      · have HX : Hid (x = 1) := hx
        clear hx
        go_wp2
        go_roundw
        case rel => exact ⟨k + 1, by omega, by go_num, by rw [HLN.out, HX.out]; simp, by first | rfl | trivial⟩
        case measure => simp [intOf]; omega
      · have HX : Hid (x = 2) := hx
        clear hx
        go_wp2
        go_roundw
        case rel => exact ⟨k + 1, by omega, by go_num, by rw [HLN.out, HX.out]; simp, by first | rfl | trivial⟩
        case measure => simp [intOf]; omega
    · have hkm : k = m := by omega
      have HE : Hid (lastN xs k = st) := by show _ = _; rw [hkm, HSE.out]
      rw [HE.out]
      have HKM : Hid (k = m) := hkm
      clear hkm HE
      by_cases hsm : st = m
      · by_cases hs0 : st = 0
        · have hm0 : m = 0 := by omega
          subst hs0
          subst hm0
          go_wp2_with fail
          go_region
          go_wp2
          go_ret3
          exact ⟨⟨fun _ => ⟨_, rfl⟩, fun _ h => absurd h (by omega), fun h => absurd h (by omega)⟩, (below_alloc wr _).drew⟩
        · obtain ⟨l, rfl⟩ : ∃ l, st = l + 1 := ⟨st - 1, by omega⟩
          have e5 : (((l + 1 : Nat) : Int) - 1) = (l : Int) := by omega
          rw [e5]
          clear e5
          obtain ⟨bn, ln, cv, cl⟩ := node_pipe HN.out (i := l) (by have := HM.out; omega) (HP.out (by omega))
          have hml := methLine46 ⟨bn, 0, none⟩
          subst hsm
          clear hle
          by_cases hcm : c = l + 1
          · subst hcm
            clear hmc hs0
            go_wp2_with fail
            refine (pipeLine_any bn 0 ln _ cl).mono ?_
            rintro e w' ⟨rfl, rfl⟩
            go_wp2
            go_ret3
            exact ⟨⟨fun _ => ⟨_, rfl⟩, fun h => absurd h (by omega), fun _ h => absurd h (by omega)⟩, below_alloc _ _⟩
          · go_wp2_with fail
            refine (pipeLine_any bn 0 ln _ cl).mono ?_
            rintro e w' ⟨rfl, rfl⟩
            go_wp2
            go_ret3
            exact ⟨⟨fun _ => ⟨_, rfl⟩, fun h => absurd h (by omega), fun _ h => absurd h (by omega)⟩, below_alloc _ _⟩
      · by_cases hs0 : st = 0
        · subst hs0
          have hm0 : 0 < m := by omega
          clear hsm
          obtain ⟨v, cv, _⟩ := HN.out 0 (by have := HM.out; omega)
          go_wp2_with fail
          go_quiet (fail)
          go_wp2
          · go_ret3
            exact ⟨⟨fun h => absurd h (by omega), fun _ _ => ⟨v, 0, 0, fun h => absurd h (by omega), cv, rfl⟩, fun h => absurd h (by omega)⟩, below_drewN (Below.refl _ _) _⟩
          · go_ret3
            exact ⟨⟨fun h => absurd h (by omega), fun _ _ => ⟨v, 1, c - 1, fun _ => rfl, cv, rfl⟩, fun h => absurd h (by omega)⟩, below_drewN (Below.refl _ _) _⟩
        · by_cases hs1 : st = 1
          · subst hs1
            have e5 : (((1 : Nat) : Int) - 1) = 0 := by omega
            rw [e5]
            clear e5
            obtain ⟨bn, ln, cv, cl⟩ := node_pipe HN.out (i := 0) (by have := HM.out; omega) (HP.out (by omega))
            have hml := methLine46 ⟨bn, 0, none⟩
            have hm1 : 1 < m := by omega
            clear hsm hs0 hle
            go_wp2_with fail
            refine (pipeLine_any bn 0 ln _ cl).mono ?_
            rintro e w' ⟨rfl, rfl⟩
            go_wp2
            go_ret3
            exact ⟨⟨fun _ => ⟨_, rfl⟩, fun h => absurd h (by omega), fun h => absurd h (by omega)⟩, below_alloc _ _⟩
          · obtain ⟨l, rfl⟩ : ∃ l, st = l + 2 := ⟨st - 2, by omega⟩
            have e5 : (((l + 2 : Nat) : Int) - 1) = ((l + 1 : Nat) : Int) := by omega
            rw [e5]
            clear e5 hs0 hs1
            have hl2 : l + 2 < m := by omega
            clear hsm hle
            obtain ⟨nv, cn, hnv⟩ := HN.out l (by have := HM.out; omega)
            obtain ⟨hv, ch, _⟩ := HN.out (l + 2) (by have := HM.out; omega)
            have HNV : Hid (NodeAt wr nv _ ((l : Int) + 1)) := hnv
            obtain ⟨L, hLL, hLC⟩ := nodes_list HN.out (m - (l + 3)) (l + 3) (by have := HM.out; omega)
            have HLL : Hid (L.length = m - (l + 3)) := hLL
            have HLC : Hid (∀ (t : Nat) u, L[t]? = some u → wr.cell? ⟨nb, l + 3 + t, none⟩ = some u ∧ u.oneCell' = true) := hLC
            clear hnv hLL hLC
            go_wp2_with fail
            refine wp_onlyN ?_
            refine region18L (by kernel_rfl) rfl rfl (show l + 1 < m by omega) hmc (by omega) c0 c1 c3 c5 cn HNV.out ?_
            intro v0 v1 v2 v3 v4 v5 v6 v7 v8 v9 v10 v11 v12 v13 v14 v15 v16 v17 v18 v19 v20 v21 v22 v23 v24 v25 v26 v27 v28 v29 v30 v31 v32 v33 v34 v35 v36 v37 w1 pb hB hbl
            have HB : Hid (BlkAt w1 pb src (l + 1) (some ⟨nb, 0, none⟩) (l + 1) c true) := hB
            have HBL : Hid (Below wr.heap.size wr w1) := hbl
            have ch1 := cell_stay hbl ch
            clear hB hbl
            have HNEW : Hid (∀ (o : Obj) (j : Nat) u, L[j]? = some u → (w1.alloc o).cell? ((⟨nb, l + 3, none⟩ : Addr).add j) = some u) := fun o j u hj => by
              rw [show ((⟨nb, l + 3, none⟩ : Addr).add j) = ⟨nb, l + 3 + j, none⟩ by unfold Addr.add; split <;> simp_all]
              exact cell_alloc (cell_stay HBL.out (HLC.out j u hj).1) o
            have HONE : Hid (∀ u ∈ L, u.oneCell' = true) := fun u hu => by
              obtain ⟨t, ht, rfl⟩ := List.getElem_of_mem hu
              exact (HLC.out t _ (List.getElem?_eq_getElem ht)).2
            obtain ⟨i0, hi0, hz0, hz1, hz2⟩ := info_parts info29
            by_cases hc3 : c = l + 3
            · have hm3 : m = l + 3 := by omega
              subst hm3
              subst hc3
              go_wp2_with (at_builtin; refine wpList_append_own_at _ rfl _ _ 30 rfl w1.heap.size 29 i0 _ 1 16 Try.underlying30 hi0 hz0 hz1 hz2 rfl (by decide) (.slice (some ⟨w1.heap.size, 0, none⟩) 1 1) 1 [.iface 25 (.pointer (some ⟨pb, 0, none⟩))] rfl (World.ownsRow_lit w1 #[.iface 25 (.pointer (some ⟨pb, 0, none⟩))] 1 (Nat.le_refl _) (by unfold maxLen; omega) rfl) ⟨nb, l + 1 + 1, none⟩ _ _ L rfl (by have := HLL.out; omega) (fun j u hj => by have h0 := HLL.out; have := (List.getElem?_eq_some_iff.1 hj).1; omega) HONE.out (by unfold maxLen; omega) (by omega) (by simp) ?_; intro v' w2 hown hgrow _ hat; obtain ⟨ab, ac, rfl, hab0, hab1⟩ := hown.form (by omega); have ch2 : w2.cell? ⟨nb, l + 1 + 1, none⟩ = some hv := hgrow.cell (cell_alloc ch1 _) (by have := cell_lt ch1; simp [Value.ownBlock] at this ⊢; omega); have HOWN : Hid (w2.ownsRow w1.heap.size 29 1 _ _ _) := hown; have HGR : Hid (World.grownBy _ w2 _) := hgrow; clear hown hgrow hat)
              go_ret3
              exact call_tail HBL.out HB.out HGR.out HOWN.out (by omega) HLL.out HLC.out ch hl2
            · go_wp2_with (at_builtin; refine wpList_append_own_at _ rfl _ _ 30 rfl w1.heap.size 29 i0 _ 1 16 Try.underlying30 hi0 hz0 hz1 hz2 rfl (by decide) (.slice (some ⟨w1.heap.size, 0, none⟩) 1 1) 1 [.iface 25 (.pointer (some ⟨pb, 0, none⟩))] rfl (World.ownsRow_lit w1 #[.iface 25 (.pointer (some ⟨pb, 0, none⟩))] 1 (Nat.le_refl _) (by unfold maxLen; omega) rfl) ⟨nb, l + 3, none⟩ _ _ L rfl (by have := HLL.out; omega) (HNEW.out _) HONE.out (by unfold maxLen; omega) (by omega) (by simp) ?_; intro v' w2 hown hgrow _ hat; obtain ⟨ab, ac, rfl, hab0, hab1⟩ := hown.form (by omega); have ch2 : w2.cell? ⟨nb, l + 1 + 1, none⟩ = some hv := hgrow.cell (cell_alloc ch1 _) (by have := cell_lt ch1; simp [Value.ownBlock] at this ⊢; omega); have HOWN : Hid (w2.ownsRow w1.heap.size 29 1 _ _ _) := hown; have HGR : Hid (World.grownBy _ w2 _) := hgrow; clear hown hgrow hat)
              go_ret3
              exact call_tail HBL.out HB.out HGR.out HOWN.out (by omega) HLL.out HLC.out ch hl2
end Go.Proofs.Qxb6002415a
