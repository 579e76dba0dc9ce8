import Derived.Test.Qxb6000864aParts
import Derived.Maps.RangeWalk
import Derived.Test.Qxb6000864aRegion
namespace Go.Proofs.Qxb6000864a
open Go.RowKit
theorem Try.info32 : (Try.prog.info? 32).map (fun i => (i.zero, i.size, i.bytes)) = some (some (.slice none 0 0), 1, 24) := by kernel_rfl
set_option maxRecDepth 100000 in
set_option maxHeartbeats 4000000 in
theorem reads1 (p : Value) (ss : List (List Tx)) (w : World) (hh : HistAt w p ss) (R : Ending → World → Prop) (hR : ∀ v w', HistAt w' v (rff ss) → Below w.heap.size w w' → R (.returned v) w') :
    Calls Try.prog 13 #[p] w R := by
  obtain ⟨hb, ho, hv, rfl, hc0, hs⟩ := hh
  obtain ⟨hs0, sa, scap, rfl, hs⟩ := hs
  have HS : Hid (∀ i (h : i < ss.length), ∃ b off u, sa = some ⟨b, off, none⟩ ∧ w.cell? ⟨b, off + i, none⟩ = some u ∧ TxsAt w u ss[i]) := hs
  obtain ⟨n, hn⟩ : ∃ n, n = ss.length := ⟨_, rfl⟩
  rw [← hn] at hs0 hc0
  have HN : Hid (n = ss.length) := hn
  clear hs hn
  unfold small at hs0
  have hb0 := fun o1 o2 => ((Below.refl w.heap.size w).alloc (Nat.le_refl _) o1).alloc (by simp) o2
  have hmm := @run_makeMap Try.prog
  have lc0 := cell_lt hc0
  go_enter Try.func13, Try.ntmps13
  go_wp2
  go_loopw [30] (fun i wr => ∃ k : Nat, k ≤ n ∧ i = .int .i64 k ∧ MapF wr w.heap.size (wr3 ss k) ∧ wr.cell? ⟨w.heap.size + 1, 0, none⟩ = some (.map (some w.heap.size)) ∧ Below w.heap.size w wr) (fun i _ => n - (intOf i).toNat)
  case atStart => exact ⟨0, by omega, rfl, MapF.made w _, by simp, hb0 _ _⟩
  case round =>
    obtain ⟨k, hk, rfl, hmp, hcw, hbw⟩ := hrel
    have hsz := hbw.size
    have l2 := hmp.lt
    have l3 := cell_lt hcw
    by_cases hlt : k < n
    · have hk1 : k < ss.length := by have := HN.out; omega
      obtain ⟨b1, o1, u1, rfl, hu, ht⟩ := HS.out k hk1
      have hu' := cell_stay hbw hu
      obtain ⟨s, hs⟩ : ∃ s, s = ss[k] := ⟨_, rfl⟩
      rw [← hs] at ht
      have HSK : Hid (s = ss[k]) := hs
      clear hs hu
      obtain ⟨ht0, ta, tcap, rfl, ht⟩ := ht
      have HT : Hid (∀ i (h : i < s.length), ∃ b off u, ta = some ⟨b, off, none⟩ ∧ TxAt w b (off + i * 2) u s[i]) := ht
      obtain ⟨n2, hn2⟩ : ∃ n, n = s.length := ⟨_, rfl⟩
      rw [← hn2] at ht0 hu'
      have HN2 : Hid (n2 = s.length) := hn2
      clear ht hn2
      unfold small at ht0
      have HM : Hid (MapF wr w.heap.size (wr3 ss k)) := hmp
      clear hmp
      go_wp2
      obtain ⟨wo, rfl⟩ : ∃ wo : World, wo = wr := ⟨_, rfl⟩
      go_loopw [37] (fun i wr => ∃ k2 : Nat, k2 ≤ n2 ∧ i = .int .i64 k2 ∧ MapF wr w.heap.size (wr2 k s (wr3 ss k) k2) ∧ wr.cell? ⟨w.heap.size + 1, 0, none⟩ = some (.map (some w.heap.size)) ∧ Below w.heap.size w wr) (fun i _ => n2 - (intOf i).toNat)
      case atStart => exact ⟨0, by omega, rfl, HM.out, hcw, hbw⟩
      case round =>
        clear hcw hbw hsz l2 l3 HM hu'
        obtain ⟨k2, hk2, rfl, hmp, hcw, hbw⟩ := hrel
        have hsz := hbw.size
        have l2 := hmp.lt
        have l3 := cell_lt hcw
        by_cases hlt2 : k2 < n2
        · have hk2s : k2 < s.length := by have := HN2.out; omega
          obtain ⟨b2, o2, u2, rfl, ht⟩ := HT.out k2 hk2s
          have ht' := ht.stay hbw
          obtain ⟨t, htt⟩ : ∃ t, t = s[k2] := ⟨_, rfl⟩
          rw [← htt] at ht ht'
          have HTK : Hid (t = s[k2]) := htt
          clear htt
          obtain ⟨c0, c1, hev⟩ := ht'
          clear hev
          obtain ⟨he0, ea, ecap, rfl, he⟩ := ht.evs
          have HE : Hid (∀ i (h : i < t.evs.length), ∃ b off, ea = some ⟨b, off, none⟩ ∧ EvAt w b (off + i * 4) t.evs[i]) := he
          obtain ⟨n3, hn3⟩ : ∃ n, n = t.evs.length := ⟨_, rfl⟩
          rw [← hn3] at he0 c0
          have HN3 : Hid (n3 = t.evs.length) := hn3
          clear he hn3 ht
          unfold small at he0
          have HM : Hid (MapF wr w.heap.size (wr2 k s (wr3 ss k) k2)) := hmp
          have l4 := cell_lt c0
          clear hmp
          go_wp2
          obtain ⟨wo2, hwo2⟩ : ∃ wo : World, wo = wr := ⟨_, rfl⟩
          go_loopw [45] (fun i wr => ∃ k3 : Nat, k3 ≤ n3 ∧ i = .int .i64 k3 ∧ MapF wr w.heap.size (wr1 k k2 t.evs (wr2 k s (wr3 ss k) k2) k3) ∧ wr.cell? ⟨w.heap.size + 1, 0, none⟩ = some (.map (some w.heap.size)) ∧ Below w.heap.size w wr) (fun i _ => n3 - (intOf i).toNat)
          case atStart => exact ⟨0, by omega, rfl, HM.out.alloc _, cell_alloc hcw _, hbw.alloc (by omega) _⟩
          case round =>
            clear hcw hbw hsz l2 l3 HM c0 c1 l4 hwo2
            obtain ⟨k3, hk3, rfl, hmp, hcw, hbw⟩ := hrel
            have hsz := hbw.size
            have l2 := hmp.lt
            have l3 := cell_lt hcw
            by_cases hlt3 : k3 < n3
            · have hk3s : k3 < t.evs.length := by have := HN3.out; omega
              obtain ⟨b3, o3, rfl, h1⟩ := HE.out k3 hk3s
              have h1' := h1.stay hbw
              have HR : Hid (wr1 k k2 t.evs (wr2 k s (wr3 ss k) k2) (k3 + 1) = _) := upto_succ _ _ _ hk3s
              obtain ⟨e1, he1⟩ : ∃ e, e = t.evs[k3] := ⟨_, rfl⟩
              rw [← he1] at h1 h1' HR
              clear he1
              obtain ⟨a0, a1, a2, a3, ok1, ok2⟩ := h1'
              have l1 := cell_lt a0
              obtain ⟨⟨mw, hm1, hg1⟩, hok1⟩ := hmp
              have HM : Hid (MapIs wr w.heap.size mw) := hm1
              have HG : Hid (∀ p, getm mw p (.agg #[.int .i64 0, .int .i64 0]) = .agg #[.int .i64 (wr1 k k2 t.evs (wr2 k s (wr3 ss k) k2) k3 p).1, .int .i64 (wr1 k k2 t.evs (wr2 k s (wr3 ss k) k2) k3 p).2]) := hg1
              have HO : Hid (∀ p, okP (wr1 k k2 t.evs (wr2 k s (wr3 ss k) k2) k3 p)) := hok1
              have OK : Hid (okP (e1.key, e1.num)) := ⟨ok1, ok2⟩
              clear hm1 hg1 hok1 ok1 ok2 h1
              go_wp2_with (at_mapUpdate; refine wpList_put _ rfl _ _ _ 57 rfl 61 59 law61 keys61 Try.underlying57 w.heap.size _ rfl (HM.out.alloc _) (e1.key, e1.num) OK.out (.agg #[.int .i64 ((k : Int) + 1), .int .i64 ((k2 : Int) + 1)]) rfl rfl ?_; intro w2 hm2 hg2)
              all_goals
                go_roundw
                case rel => exact ⟨k3 + 1, by omega, by go_num, by first | (rw [HR.out, if_pos (by assumption)]; exact MapF.put_step (v := ((k : Int) + 1, (k2 : Int) + 1)) hm2 HG.out HO.out (ok_small (by omega) (by omega))) | (rw [HR.out, if_neg (by simp_all)]; exact MapF.alloc (w := wr) ⟨⟨mw, HM.out, HG.out⟩, HO.out⟩ _),
                  by first | exact cell_grown hg2 (by simp) (cell_alloc hcw _) | exact cell_alloc hcw _, by first | exact (hbw.alloc (by omega) _).grown hg2 (by simp; omega) (fun j hj => by cases hj; omega) | exact hbw.alloc (by omega) _⟩
                case measure => simp [intOf]; omega
            · have HF : Hid (MapF wr w.heap.size (wr2 k s (wr3 ss k) (k2 + 1))) := by
                show MapF _ _ _
                unfold wr2
                rw [upto_succ _ _ _ hk2s]
                rw [← HTK.out]
                have : k3 = t.evs.length := by have := HN3.out; omega
                rw [← this]
                exact hmp
              go_wp2
              go_roundw
              case rel => exact ⟨k2 + 1, by omega, by go_num, HF.out, hcw, hbw⟩
              case measure => simp [intOf]; omega
        · have HF : Hid (MapF wr w.heap.size (wr3 ss (k + 1))) := by
            show MapF _ _ _
            unfold wr3
            rw [upto_succ _ _ _ hk1]
            rw [← HSK.out]
            have : k2 = s.length := by have := HN2.out; omega
            rw [← this]
            exact hmp
          go_wp2
          go_roundw
          case rel => exact ⟨k + 1, by omega, by go_num, HF.out, hcw, hbw⟩
          case measure => simp [intOf]; omega
    · have hkn : k = n := by omega
      have HB : Hid (Below w.heap.size w wr) := hbw
      obtain ⟨W, hW⟩ : ∃ W, W = wr3 ss ss.length := ⟨_, rfl⟩
      have hw1 : WrIs wr (w.heap.size + 1) w.heap.size W := by
        rw [hW, ← HN.out, ← hkn]; exact hmp.wr hcw
      have HW : Hid (W = wr3 ss ss.length) := hW
      clear hW hmp hkn
      have hmf : ∀ (fn : Fn) (first cap : Array Value) (w : World), (Instr.makeFunc fn first cap).run Try.prog w = .ok (.func fn first cap) w := fun _ _ _ _ => rfl
      have hc1 := cell_stay hbw hc0
      have lc1 := cell_lt hc1
      go_wp2
      obtain ⟨w1, hw1e⟩ : ∃ w1 : World, w1 = wr := ⟨_, rfl⟩
      subst hw1e
      go_loopw [73] (fun i wr => ∃ k : Nat, k ≤ n ∧ i = .int .i64 k ∧ MapB wr w1.heap.size (fs2 W ss k) ∧ Below w1.heap.size w1 wr) (fun i _ => n - (intOf i).toNat)
      case atStart => exact ⟨0, by omega, rfl, MapB.made w1, (Below.refl _ _).alloc (Nat.le_refl _) _⟩
      case round =>
        clear hk hlt hmm
        obtain ⟨k, hk, rfl, hmp, hbx⟩ := hrel
        have l5 := hmp.lt
        have hsx := hbx.size
        by_cases hlt : k < n
        · have hk1 : k < ss.length := by have := HN.out; omega
          obtain ⟨b1, o1, u1, rfl, hu, ht⟩ := HS.out k hk1
          have hu' := cell_stay hbx (cell_stay HB.out hu)
          obtain ⟨s, hs⟩ : ∃ s, s = ss[k] := ⟨_, rfl⟩
          rw [← hs] at ht
          have HSK : Hid (s = ss[k]) := hs
          clear hs hu
          obtain ⟨ht0, ta, tcap, rfl, ht⟩ := ht
          have HT : Hid (∀ i (h : i < s.length), ∃ b off u, ta = some ⟨b, off, none⟩ ∧ TxAt w b (off + i * 2) u s[i]) := ht
          obtain ⟨n2, hn2⟩ : ∃ n, n = s.length := ⟨_, rfl⟩
          rw [← hn2] at ht0 hu'
          have HN2 : Hid (n2 = s.length) := hn2
          clear ht hn2
          unfold small at ht0
          have HM : Hid (MapB wr w1.heap.size (fs2 W ss k)) := hmp
          clear hmp
          go_wp2
          obtain ⟨wo, hwo⟩ : ∃ wo : World, wo = wr := ⟨_, rfl⟩
          go_loopw [80] (fun i wr => ∃ k2 : Nat, k2 ≤ n2 ∧ i = .int .i64 k2 ∧ MapB wr w1.heap.size (fs1 W k s (fs2 W ss k) k2) ∧ Below w1.heap.size w1 wr) (fun i _ => n2 - (intOf i).toNat)
          case atStart => exact ⟨0, by omega, rfl, HM.out, hbx⟩
          case round =>
            clear hbx hsx l5 HM hu' hwo
            obtain ⟨k2, hk2, rfl, hmp, hbx⟩ := hrel
            have hsx := hbx.size
            have l5 := hmp.lt
            by_cases hlt2 : k2 < n2
            · have hk2s : k2 < s.length := by have := HN2.out; omega
              obtain ⟨b2, o2, u2, rfl, ht⟩ := HT.out k2 hk2s
              have ht' := (ht.stay HB.out).stay hbx
              obtain ⟨t, htt⟩ : ∃ t, t = s[k2] := ⟨_, rfl⟩
              rw [← htt] at ht ht'
              have HTK : Hid (t = s[k2]) := htt
              clear htt ht
              obtain ⟨c0, c1, hev⟩ := ht'
              obtain ⟨n3, ea, ecap, rfl⟩ : ∃ n a c, u2 = .slice a n c := by obtain ⟨_, a, c, rfl, _⟩ := hev; exact ⟨_, _, _, rfl⟩
              have HEV : Hid (EvsAt wr (.slice ea n3 ecap) t.evs) := hev
              have HWR : Hid (WrIs wr (w.heap.size + 1) w.heap.size W) := hw1.stay hbx
              have HM : Hid (MapB wr w1.heap.size (fs1 W k s (fs2 W ss k) k2)) := hmp
              have l4 := cell_lt c0
              clear hmp hev
              go_wp2_with fail
              refine (from_some _ t (w.heap.size + 1) w.heap.size W _ (HEV.out.stay ((Below.refl _ _).alloc (Nat.le_refl _) _)) (HWR.out.stay ((Below.refl _ _).alloc (Nat.le_refl _) _))).mono ?_
              rintro e w2 ⟨r, rfl, hr, hm2, hb2⟩
              have hbw2 : Below wr.heap.size wr w2 := ((Below.refl _ _).alloc (Nat.le_refl _) _).trans (hb2.mono (by simp))
              have HM2 : Hid (MapIs w2 r (fromM W t.evs)) := hm2
              obtain ⟨mf, hmf1, hmf2⟩ := HM.out.below hbw2 l5
              have HMF : Hid (MapIs w2 w1.heap.size mf) := hmf1
              have HMG : Hid (∀ p, getm mf p (.bool false) = .bool (fs1 W k s (fs2 W ss k) k2 p)) := hmf2
              have HBX : Hid (Below w1.heap.size w1 w2) := hbx.trans (hbw2.mono hsx)
              have HR : Hid (fs1 W k s (fs2 W ss k) (k2 + 1) = _) := upto_succ _ _ _ hk2s
              rw [← HTK.out] at HR
              have hsx2 := HBX.out.size
              clear hmf1 hmf2 hm2 hb2 hbw2 hr hbx hsx c0 c1 l4 l5
              by_cases hz : (fromM W t.evs).length = 0
              · have hz' : (((fromM W t.evs).length : Int) == 0) = true := by simp [hz]
                have HZ : Hid ((fromM W t.evs).length = 0) := hz
                clear hz
                go_wp2_with (first
                  | (at_len; refine wpList_mlen _ rfl _ 62 rfl 59 4 Try.underlying62 r _ rfl HM2.out ?_)
                  | (at_mapUpdate; refine wpList_put _ rfl _ _ _ 62 rfl 59 4 law59 keys59 Try.underlying62 w1.heap.size _ rfl HMF.out ((k : Int) + 1, (k2 : Int) + 1) (ok_small (by omega) (by omega)) (.bool true) rfl rfl ?_; intro w3 hm3 hg3))
                go_roundw
                case rel => exact ⟨k2 + 1, by omega, by go_num, by rw [HR.out, if_pos HZ.out]; exact MapB.put_step hm3 HMG.out, HBX.out.grown hg3 hsx2 (fun j hj => by cases hj; exact Nat.le_refl _)⟩
                case measure => simp [intOf]; omega
              · have hz' : (((fromM W t.evs).length : Int) == 0) = false := beq_eq_false_iff_ne.2 (by omega)
                have HZ : Hid (¬ (fromM W t.evs).length = 0) := hz
                clear hz
                go_wp2_with (at_len; refine wpList_mlen _ rfl _ 62 rfl 59 4 Try.underlying62 r _ rfl HM2.out ?_)
                go_roundw
                case rel => exact ⟨k2 + 1, by omega, by go_num, by rw [HR.out, if_neg HZ.out]; exact ⟨mf, HMF.out, HMG.out⟩, HBX.out⟩
                case measure => simp [intOf]; omega
            · have HF : Hid (MapB wr w1.heap.size (fs2 W ss (k + 1))) := by
                show MapB _ _ _
                unfold fs2
                rw [upto_succ _ _ _ hk1]
                rw [← HSK.out]
                have : k2 = s.length := by have := HN2.out; omega
                rw [← this]
                exact hmp
              go_wp2
              go_roundw
              case rel => exact ⟨k + 1, by omega, by go_num, HF.out, hbx⟩
              case measure => simp [intOf]; omega
        · have hkn : k = n := by omega
          have HB3 : Hid (Below w.heap.size w wr) := HB.out.trans (hbx.mono HB.out.size)
          obtain ⟨F, hF⟩ : ∃ F, F = fs2 W ss ss.length := ⟨_, rfl⟩
          have hmB : MapB wr w1.heap.size F := by rw [hF, ← HN.out, ← hkn]; exact hmp
          have HMB : Hid (MapB wr w1.heap.size F) := hmB
          have HWR : Hid (WrIs wr (w.heap.size + 1) w.heap.size W) := hw1.stay hbx
          have HF : Hid (F = fs2 W ss ss.length) := hF
          clear hF hmp hkn hmB hw1 HB hc1 lc1 hcw hbw hbx
          have hc1 := cell_stay HB3.out hc0
          have lc1 := cell_lt hc1
          have hmk := run_make_row' (P := Try.prog) 28 32 (.slice none 0 0) 24 Try.underlying28 Try.info32 rfl .i64 .i64 n (by omega) (by omega)
          go_wp2
          clear hmk hmf hk hlt
          obtain ⟨w3, hw3e⟩ : ∃ w3 : World, w3 = wr := ⟨_, rfl⟩
          subst hw3e
          go_loopw [111] (fun i wr => ∃ k : Nat, k ≤ n ∧ i = .int .i64 k ∧ (∃ f, wr.rowIs w3.heap.size 32 n f ∧ (∀ j, j < k → OwnTx w wr (w3.heap.size + 2) (f j) (keptS W F ss j)) ∧ (∀ j, k ≤ j → f j = .slice none 0 0)) ∧
              wr.cell? ⟨w3.heap.size + 1, 0, none⟩ = some (.slice (some ⟨w3.heap.size, 0, none⟩) n n) ∧ Below w3.heap.size w3 wr ∧ w3.heap.size + 2 ≤ wr.heap.size) (fun i _ => n - (intOf i).toNat)
          case atStart => exact ⟨0, by omega, rfl, ⟨_, (World.rowIs_made _ _ _ _).alloc _, fun j hj => absurd hj (by omega), fun j _ => rfl⟩, by simp, ((Below.refl _ _).alloc (Nat.le_refl _) _).alloc (by simp) _, by simp⟩
          case round =>
            obtain ⟨k, hk, rfl, hrow, hcp, hbx, hs2⟩ := hrel
            obtain ⟨f, hrow, hfin, hnil⟩ := hrow
            have hsx := hbx.size
            have lcp := cell_lt hcp
            by_cases hlt : k < n
            · have hk1 : k < ss.length := by have := HN.out; omega
              obtain ⟨b1, o1, u1, rfl, hu, ht⟩ := HS.out k hk1
              have hu' := cell_stay hbx (cell_stay HB3.out hu)
              obtain ⟨s, hs⟩ : ∃ s, s = ss[k] := ⟨_, rfl⟩
              rw [← hs] at ht
              have HSK : Hid (s = ss[k]) := hs
              clear hs hu
              obtain ⟨ht0, ta, tcap, rfl, ht⟩ := ht
              have HT : Hid (∀ i (h : i < s.length), ∃ b off u, ta = some ⟨b, off, none⟩ ∧ TxAt w b (off + i * 2) u s[i]) := ht
              obtain ⟨n2, hn2⟩ : ∃ n, n = s.length := ⟨_, rfl⟩
              rw [← hn2] at ht0 hu'
              have HN2 : Hid (n2 = s.length) := hn2
              clear ht hn2
              unfold small at ht0
              have HRW : Hid (wr.rowIs w3.heap.size 32 n f) := hrow
              have HFI : Hid (∀ j, j < k → OwnTx w wr (w3.heap.size + 2) (f j) (keptS W F ss j)) := hfin
              have HNI : Hid (∀ j, k ≤ j → f j = .slice none 0 0) := hnil
              clear hrow hfin hnil
              go_wp2
              obtain ⟨wl, hwl⟩ : ∃ wl : World, wl = wr := ⟨_, rfl⟩
              subst hwl
              go_loopw [118] (fun i wr => ∃ k2 : Nat, k2 ≤ n2 ∧ i = .int .i64 k2 ∧ (∃ v, wr.rowIs w3.heap.size 32 n (fun j => if j = k then v else f j) ∧ OwnTx w wr wl.heap.size v (kept1 W F k s k2)) ∧
                  wl.grownBy wr (some w3.heap.size)) (fun i _ => n2 - (intOf i).toNat)
              case atStart => exact ⟨0, by omega, rfl, ⟨.slice none 0 0, HRW.out.congr (fun i _ => by
                by_cases hik : i = k
                · rw [if_pos hik, HNI.out i (by omega)]
                · rw [if_neg hik]), OwnTx.nil _ _ _⟩, ⟨rfl, rfl, rfl, Nat.le_refl _, fun _ _ _ => rfl⟩⟩
              case round =>
                clear hu'
                obtain ⟨k2, hk2, rfl, hrv, hgl⟩ := hrel
                obtain ⟨v, hrv, hov⟩ := hrv
                have hbr : Below w3.heap.size w3 wr := hbx.grown hgl hsx (fun j hj => by cases hj; exact Nat.le_refl _)
                have hsr := hgl.size
                have HB4 : Hid (Below w.heap.size w wr) := HB3.out.trans (hbr.mono HB3.out.size)
                have hcpr : wr.cell? ⟨w3.heap.size + 1, 0, none⟩ = some (.slice (some ⟨w3.heap.size, 0, none⟩) n n) := cell_grown hgl (by simp) hcp
                by_cases hlt2 : k2 < n2
                · have hk2s : k2 < s.length := by have := HN2.out; omega
                  obtain ⟨b2, o2, u2, rfl, ht⟩ := HT.out k2 hk2s
                  have ht' := ht.stay HB4.out
                  obtain ⟨t, htt⟩ : ∃ t, t = s[k2] := ⟨_, rfl⟩
                  rw [← htt] at ht ht'
                  have HTK : Hid (t = s[k2]) := htt
                  clear htt
                  have HEV0 : Hid (EvsAt w u2 t.evs) := ht.evs
                  clear ht
                  obtain ⟨c0, c1, hev⟩ := ht'
                  obtain ⟨n3, ea, ecap, rfl⟩ : ∃ n a c, u2 = .slice a n c := by obtain ⟨_, a, c, rfl, _⟩ := hev; exact ⟨_, _, _, rfl⟩
                  have HEV : Hid (EvsAt wr (.slice ea n3 ecap) t.evs) := hev
                  have HWR4 : Hid (WrIs wr (w.heap.size + 1) w.heap.size W) := HWR.out.stay hbr
                  have HMB4 : Hid (MapB wr w1.heap.size F) := HMB.out.below hbr HMB.out.lt
                  have l4 := cell_lt c0
                  have HOV : Hid (OwnTx w wr wl.heap.size v (kept1 W F k s k2)) := hov
                  have HRV : Hid (wr.rowIs w3.heap.size 32 n (fun j => if j = k then v else f j)) := hrv
                  have HGL : Hid (wl.grownBy wr (some w3.heap.size)) := hgl
                  clear hev hov hrv hgl
                  go_wp2_with fail
                  refine (from_some _ t (w.heap.size + 1) w.heap.size W _ (HEV.out.stay ((Below.refl _ _).alloc (Nat.le_refl _) _)) (HWR4.out.stay ((Below.refl _ _).alloc (Nat.le_refl _) _))).mono ?_
                  rintro e wa ⟨r, rfl, hr, hma, hba⟩
                  have hbwa : Below wr.heap.size wr wa := ((Below.refl _ _).alloc (Nat.le_refl _) _).trans (hba.mono (by simp))
                  have hta0 : wa.cell? ⟨wr.heap.size, 0, none⟩ = some (.slice ea n3 ecap) := cell_stay hba (by simp)
                  have hta1 : wa.cell? ⟨wr.heap.size, 1, none⟩ = some (.bool t.com) := cell_stay hba (by simp)
                  obtain ⟨m, hm⟩ : ∃ m, m = fromM W t.evs := ⟨_, rfl⟩
                  rw [← hm] at hma
                  have HMM : Hid (m = fromM W t.evs) := hm
                  have HMA : Hid (MapIs wa r m) := hma
                  have hsa := hbwa.size
                  clear hm hma hba c0 c1 l4
                  go_wp2_with (first
                    | (at_len; refine wpList_mlen _ rfl _ 62 rfl 59 4 Try.underlying62 r _ rfl HMA.out ?_)
                    | (at_range; refine wpList_mrange _ rfl _ 62 rfl 59 4 Try.underlying62 r _ rfl HMA.out ?_; intro ob hit))
                  go_frame
                  have hbl8 : Below wa.heap.size wa (wa.alloc ob) := (Below.refl _ _).alloc (Nat.le_refl _) _
                  have HIT : Hid (IterIs (wa.alloc ob) wa.heap.size r m (m.map (·.1))) := hit
                  clear hit
                  obtain ⟨wq, rfl⟩ : ∃ wq : World, wq = wr := ⟨_, rfl⟩
                  go_loopg [22] m.length (fun g b wr => ∃ left, g = left.length ∧ b = .bool (sing m F left) ∧ (∀ q ∈ left, q ∈ m.map (·.1)) ∧ IterIs wr wa.heap.size r m left ∧ Below wa.heap.size wa wr)
                  case atStart => exact ⟨m.map (·.1), by simp, by rw [sing_start, ← beq_one], fun _ h => h, HIT.out, hbl8⟩
                  case round =>
                    clear HIT hbl8
                    obtain ⟨left, rfl, rfl, hsub, hit, hb8⟩ := hrel
                    have l7 := hit.rlt
                    have hs8 := hb8.size
                    have HIT : Hid (IterIs wr wa.heap.size r m left) := hit
                    have HSB : Hid (∀ q ∈ left, q ∈ m.map (·.1)) := hsub
                    clear hit hsub
                    have HMB8 : Hid (MapB wr w1.heap.size F) := by
                      refine (HMB4.out.below hbwa (HMB4.out.lt)).below hb8 ?_
                      have := (HMB4.out.below hbwa (HMB4.out.lt)).lt
                      exact this
                    go_wp2_with (at_next; refine wpList_mnext _ rfl _ rfl wa.heap.size r m left rfl HIT.out ?_ ?_)
                    · intro hl0
                      obtain ⟨wb, hwb⟩ : ∃ wb : World, wb = wr := ⟨_, rfl⟩
                      have HSG : Hid (keepB W F k k2 t = (F ((k : Int) + 1, (k2 : Int) + 1) || sing m F left)) := by
                        show keepB W F k k2 t = _
                        rw [hl0, sing_end, HMM.out]
                        rfl
                      have hd0 := cell_stay hb8 hta0
                      have hd1 := cell_stay hb8 hta1
                      have HBB : Hid (Below wa.heap.size wa wr) := hb8
                      have HKP : Hid (kept1 W F k s (k2 + 1) = _) := upto_succ _ _ _ hk2s
                      rw [← HTK.out] at HKP
                      have hOK := ok_small (i := k) (j := k2) (by omega) (by omega)
                      obtain ⟨mf, hmf1, hmf2⟩ := HMB8.out
                      have HMF : Hid (MapIs wr w1.heap.size mf) := hmf1
                      have HMG : Hid (getm mf ((k : Int) + 1, (k2 : Int) + 1) (.bool false) = .bool (F ((k : Int) + 1, (k2 : Int) + 1))) := hmf2 _
                      clear hmf1 hmf2 hl0 hwb hb8 hta0 hta1 HMB8 HIT HSB
                      obtain ⟨fb, hfb⟩ : ∃ fb, fb = F ((k : Int) + 1, (k2 : Int) + 1) := ⟨_, rfl⟩
                      obtain ⟨sg, hsg⟩ : ∃ sg, sg = sing m F left := ⟨_, rfl⟩
                      rw [← hfb] at HSG HMG
                      rw [← hsg] at HSG ⊢
                      clear hfb hsg
                      have hbq : Below wq.heap.size wq wr := hbwa.trans (HBB.out.mono hsa)
                      have HBQ : Hid (Below wq.heap.size wq wr) := hbq
                      have hsq := hbq.size
                      have hkp : (fb = true ∨ (fb = false ∧ sg = true)) ∨ (fb = false ∧ sg = false) := by cases fb <;> cases sg <;> simp
                      have hroom : Hid (OwnTx w wr wl.heap.size v (kept1 W F k s k2)) := HOV.out.keep (fun g _ hg _ => hbq.block g hg)
                      rcases hkp with hkp | ⟨rfl, rfl⟩
                      · have HK1 : Hid (kept1 W F k s (k2 + 1) = kept1 W F k s k2 ++ [t]) := by
                          show _ = _
                          rw [HKP.out, if_pos (by rw [HSG.out]; rcases hkp with h | h <;> simp [h])]; rfl
                        have hcp8 := cell_stay hbq hcpr
                        have hvk : wr.cell? ⟨w3.heap.size, k, none⟩ = some v := cell_stay hbq (by simpa using HRV.out.cell hlt)
                        have hfz : wr.frozen? ⟨w3.heap.size, k, none⟩ = false := by rw [hbq.frozen (by exact HRV.out.lt)]; exact HRV.out.frozen k
                        obtain ⟨us, hul, hown, hue⟩ := hroom.out
                        have hlen := kept1_le W F k s k2
                        obtain ⟨ts, hts⟩ : ∃ ts, ts = kept1 W F k s k2 := ⟨_, rfl⟩
                        rw [← hts] at hul hown hlen
                        have HTS : Hid (ts = kept1 W F k s k2) := hts
                        have HUE : Hid (∀ i (h : i < us.length) (h' : i < ts.length), EvsAt w us[i] ts[i].evs) := by
                          show ∀ i (h : i < us.length) (h' : i < ts.length), EvsAt w us[i] ts[i].evs
                          subst hts; exact hue
                        have HUL : Hid (us.length = ts.length) := hul
                        clear hts hue hul
                        have HOW : Hid (wr.ownsRow wl.heap.size 36 2 v ts.length (cellsTx us ts)) := hown
                        have hvo : ∃ va vc, v = .slice va ts.length vc ∧ (va = none ∨ ∃ g, va = some ⟨g, 0, none⟩ ∧ wl.heap.size ≤ g ∧ g < wq.heap.size) := by
                          obtain ⟨us', hl', ho', _⟩ := HOV.out
                          have hlt2 : (kept1 W F k s k2).length = ts.length := by rw [HTS.out]
                          rcases ho'.2 with ⟨hv, h0⟩ | ⟨g, cap, cur, hv, hb', hh, _⟩
                          · exact ⟨none, 0, by rw [← hlt2, h0]; exact hv, .inl rfl⟩
                          · exact ⟨_, cap, by rw [← hlt2]; exact hv, .inr ⟨g, rfl, hb', (Array.getElem?_eq_some_iff.1 hh).1⟩⟩
                        obtain ⟨va, vc, rfl, hva⟩ := hvo
                        clear hown hbq
                        have lw3 : w3.heap.size < wr.heap.size := by omega
                        have lw3' : w3.heap.size + 1 < wr.heap.size := by omega
                        have lq : wq.heap.size < wr.heap.size := cell_lt hd0
                        have ne1 : (Value.slice va ts.length vc).ownBlock ≠ some w3.heap.size := by
                          rcases hva with rfl | ⟨g, rfl, hg1, hg2⟩ <;> simp [Value.ownBlock]; omega
                        have ne2 : (Value.slice va ts.length vc).ownBlock ≠ some (w3.heap.size + 1) := by
                          rcases hva with rfl | ⟨g, rfl, hg1, hg2⟩ <;> simp [Value.ownBlock]; omega
                        have ne3 : (Value.slice va ts.length vc).ownBlock ≠ some wq.heap.size := by
                          rcases hva with rfl | ⟨g, rfl, hg1, hg2⟩ <;> simp [Value.ownBlock]; omega
                        have NE : Hid ((Value.slice va ts.length vc).ownBlock ≠ some w3.heap.size ∧ (Value.slice va ts.length vc).ownBlock ≠ some (w3.heap.size + 1) ∧ (Value.slice va ts.length vc).ownBlock ≠ some wq.heap.size) := ⟨ne1, ne2, ne3⟩
                        clear ne1 ne2 ne3
                        rcases hkp with rfl | ⟨rfl, rfl⟩
                        all_goals
                          go_wp2_with (at_lookup; refine wpList_look _ rfl _ _ 62 rfl 59 4 law59 keys59 Try.underlying62 _ zero4 w1.heap.size mf rfl HMF.out ((k : Int) + 1, (k2 : Int) + 1) hOK rfl _ HMG.out ?_)
                          refine wp_onlyNormal ?_
                          refine region42 (by kernel_rfl) wr w3.heap.size k n wq.heap.size wl.heap.size ts.length n3 ecap vc ea va t.com (cellsTx us ts) hcp8 hvk hfz hd0 hd1 hlt HOW.out (by omega) (by omega) NE ?_
                          intro gg cap wf v151 v152 v153 v154 v155 v156 v157 v158 v159 v160 v161 v162 v163 v164 v165 v166 hown1 hgrow hat
                          have HX1 : Hid (_ ∧ _ ∧ _) := ⟨hown1, hgrow, hat⟩
                          clear hown1 hgrow hat
                          go_wp2
                          go_roundw
                          case rel => exact ⟨k2 + 1, by omega, by go_num, by rw [HK1.out, ← HTS.out]; exact (step42 HGL.out HBQ.out HRV.out hva NE.out.1 (by omega) HX1.out.1 HX1.out.2.1 HUL.out HUE.out HEV0.out).1, (step42 HGL.out HBQ.out HRV.out hva NE.out.1 (by omega) HX1.out.1 HX1.out.2.1 HUL.out HUE.out HEV0.out).2⟩
                          case measure => simp [intOf]; omega
                      · have HK1 : Hid (kept1 W F k s (k2 + 1) = kept1 W F k s k2) := by
                          show _ = _
                          rw [HKP.out, if_neg (by rw [HSG.out]; simp)]; rfl
                        clear hbq
                        go_wp2_with (at_lookup; refine wpList_look _ rfl _ _ 62 rfl 59 4 law59 keys59 Try.underlying62 _ zero4 w1.heap.size mf rfl HMF.out ((k : Int) + 1, (k2 : Int) + 1) hOK rfl _ HMG.out ?_)
                        go_roundw
                        case rel => exact ⟨k2 + 1, by omega, by go_num, ⟨v, HRV.out.of_block (HBQ.out.block _ HRV.out.lt), by rw [HK1.out]; exact hroom.out⟩, HGL.out.andBelow HBQ.out⟩
                        case measure => simp [intOf]; omega
                    · intro x y hxy v' w' hit' hg' hen
                      have hmb' : MapB w' w1.heap.size F := HMB8.out.kept hg' (by intro e; have := Option.some.inj e; omega)
                      have HST : Hid (sing m F (left.filter (fun q => !decide (q = (x, y)))) = (sing m F left && F (x, y))) := sing_step hxy HSB.out
                      have hlt8 := left_lt hxy
                      have HIT' : Hid (IterIs w' wa.heap.size r m (left.filter (fun q => !decide (q = (x, y))))) := hit'
                      have HB9 : Hid (Below wa.heap.size wa w') := hb8.grown hg' hs8 (fun j hj => by cases hj; exact Nat.le_refl _)
                      have hlk : ∀ o, (Instr.lookup 62 (.map (some w1.heap.size)) (.agg #[.int .i64 x, .int .i64 y]) false).run Try.prog (w'.alloc o) = .ok (.bool (F (x, y))) (w'.alloc o) :=
                        fun o => (hmb'.alloc o).look (HMA.out.ok (HSB.out _ hxy))
                      have HSB' : Hid (∀ q ∈ left.filter (fun q => !decide (q = (x, y))), q ∈ m.map (·.1)) := fun q hq => HSB.out q (List.mem_filter.1 hq).1
                      clear hmb' hit' hg' hxy HSB HMB8 HIT hb8
                      cases hsg : sing m F left
                      · go_wp2
                        go_roundg (left.filter (fun q => !decide (q = (x, y)))).length
                        case measure => omega
                        case rel => exact ⟨_, rfl, by rw [HST.out, hsg]; rfl, HSB'.out, HIT'.out.alloc _, HB9.out.alloc (by have := HB9.out.size; omega) _⟩
                      · go_wp2
                        go_roundg (left.filter (fun q => !decide (q = (x, y)))).length
                        case measure => omega
                        case rel => exact ⟨_, rfl, by rw [HST.out, hsg]; rfl, HSB'.out, HIT'.out.alloc _, HB9.out.alloc (by have := HB9.out.size; omega) _⟩
                · have HF7 : Hid (kept1 W F k s k2 = keptS W F ss k) := by
                    show _ = _
                    unfold keptS
                    rw [List.getElem?_eq_getElem hk1, ← HSK.out]
                    have : k2 = s.length := by have := HN2.out; omega
                    rw [this]
                  have HOV : Hid (OwnTx w wr wl.heap.size v (kept1 W F k s k2)) := hov
                  have HRV : Hid (wr.rowIs w3.heap.size 32 n (fun j => if j = k then v else f j)) := hrv
                  have HGL : Hid (wl.grownBy wr (some w3.heap.size)) := hgl
                  clear hov hrv hgl
                  go_wp2
                  go_roundw
                  case rel => exact ⟨k + 1, by omega, by go_num, ⟨_, HRV.out, fun j hj => by
                    by_cases hjk : j = k
                    · subst hjk; rw [if_pos rfl, ← HF7.out]; exact HOV.out.base (by omega)
                    · rw [if_neg hjk]; exact (HFI.out j (by omega)).keep (fun g hg hg2 _ => HGL.out.block g hg2 (by intro e; have := Option.some.inj e; omega)),
                    fun j hj => by rw [if_neg (by omega)]; exact HNI.out j (by omega)⟩, hcpr, hbr, by omega⟩
                  case measure => simp [intOf]; omega
            · have HFI : Hid (∀ j, j < k → OwnTx w wr (w3.heap.size + 2) (f j) (keptS W F ss j)) := hfin
              have HRW : Hid (wr.rowIs w3.heap.size 32 n f) := hrow
              have HBE : Hid (Below w.heap.size w wr) := HB3.out.trans (hbx.mono HB3.out.size)
              clear hfin hnil hrow
              go_wp2
              refine hR _ wr ?_ HBE.out
              refine ⟨w3.heap.size + 1, 0, _, rfl, hcp, ?_⟩
              have hrl : (rff ss).length = n := by rw [rff_length]; exact HN.out.symm
              refine SessAt_of hrl (by unfold small; omega) HRW.out HBE.out (w3.heap.size + 2) (fun j hj => ?_) (fun j hj => ?_)
              · have e1 : (rff ss)[j] = keptS W F ss j := by simp [rff, HF.out, HW.out]
                rw [e1]
                exact HFI.out j (by omega)
              · have hjs : j < ss.length := by rw [rff_length] at hj; exact hj
                have e1 : (rff ss)[j] = keptS W F ss j := by simp [rff, HF.out, HW.out]
                rw [e1]
                refine Nat.le_trans (keptS_le W F ss j hjs) ?_
                obtain ⟨_, _, _, _, _, h, _⟩ := HS.out j hjs
                exact h
/-- THE CONTRACT OF ReadsFromFirst. -/
theorem reads_any (p : Value) (ss : List (List Tx)) (w : World) (hh : HistAt w p ss) :
    Calls Try.prog 13 #[p] w fun e w' => ∃ v, e = .returned v ∧ HistAt w' v (rff ss) ∧ Below w.heap.size w w' :=
  reads1 p ss w hh _ (fun v _ h1 h2 => ⟨v, rfl, h1, h2⟩)
end Go.Proofs.Qxb6000864a
