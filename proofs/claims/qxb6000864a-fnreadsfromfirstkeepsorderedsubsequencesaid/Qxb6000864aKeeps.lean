import Derived.Test.Qxb6000864aReads
import Derived.Test.Qxb6000864aBytes
import Derived.Test.Qxb6000864aHist
import Derived.Test.Qxb6000864aPlain
import Derived.Deep.RegionHeld3
import Derived.Deep.QuietTactic
import Derived.BigQuiet
namespace Go.Proofs.Qxb6000864a
open Go.RowKit
set_option maxRecDepth 100000 in
set_option maxHeartbeats 2000000 in
theorem keeps_walk (v : Value) (ss : List (List Tx)) (w : World) (hs : RSess w v ss) :
    Calls Try.prog 3 #[v] w fun e w' => e = .returned (.bool true) ∧ Below w.heap.size w w' := by
  obtain ⟨sn, sa, sc, hv⟩ : ∃ n a c, v = .slice a n c := by obtain ⟨_, a, c, rfl, _⟩ := hs; exact ⟨_, _, _, rfl⟩
  subst hv
  have HR : Hid (RSess w (.slice sa sn sc) ss) := hs
  clear hs
  go_enter Try.func3, Try.ntmps3
  go_wp2_with fail
  refine (zz10_any _ ss _ HR.out).mono ?_
  rintro e w1 ⟨⟨b, rfl⟩, rfl⟩
  cases b
  · go_wp2
    go_ret
    exact ⟨rfl, Below.refl _ _⟩
  go_wp2_with fail
  refine (bytesOf_any _ ss _ HR.out).mono ?_
  rintro e w ⟨rfl | ⟨x, rfl, hx0, hx1, hmod⟩, rfl⟩
  · go_wp2
    go_ret
    exact ⟨rfl, Below.refl _ _⟩
  have hxd : decide ((1048576 : Int) < x) = false := by simp; omega
  have HMO : Hid (Modest ss) := hmod
  clear hmod
  go_wp2_with fail
  refine (toHist_any _ ss _ (HR.out.at HMO.out)).mono ?_
  rintro e wh ⟨ph, rfl, hhist, hbh⟩
  have HH : Hid (HistAt wh ph ss) := hhist
  have HBH : Hid (Below w.heap.size w wh) := hbh
  clear hhist hbh
  go_wp2_with fail
  refine (reads_any _ ss _ HH.out).mono ?_
  rintro e wp ⟨pp, rfl, hpart, hbp⟩
  have HB : Hid (Below w.heap.size w wp) := HBH.out.trans (hbp.mono HBH.out.size)
  have hhist := HH.out.stay hbp
  clear hbp HBH
  obtain ⟨hb, ho, hv, rfl, hc, hss⟩ := hhist
  obtain ⟨pb, po, pv, rfl, pc, pss⟩ := hpart
  obtain ⟨hs0, sa', scap, rfl, hss⟩ := hss
  obtain ⟨ps0, pa', pcap, rfl, pss⟩ := pss
  rw [rff_length] at pc
  have HS : Hid (∀ i (h : i < ss.length), ∃ b off u, sa' = some ⟨b, off, none⟩ ∧ wp.cell? ⟨b, off + i, none⟩ = some u ∧ TxsAt wp u ss[i]) := hss
  have PS : Hid (∀ i (h : i < (rff ss).length), ∃ b off u, pa' = some ⟨b, off, none⟩ ∧ wp.cell? ⟨b, off + i, none⟩ = some u ∧ TxsAt wp u (rff ss)[i]) := pss
  obtain ⟨n, hn⟩ : ∃ n, n = ss.length := ⟨_, rfl⟩
  rw [← hn] at hs0 hc pc
  have HN : Hid (n = ss.length) := hn
  clear hss pss hn ps0
  unfold small at hs0
  have hne : (( (n : Int)) != (n : Int)) = false := by simp
  go_wp2_with fail
  go_quiet (fail)
  go_wp2
  have hbq : Below wp.heap.size wp (wp.drewN nq) := below_drewN (Below.refl _ _) nq
  clear hne
  go_loopw [40] (fun i wr => ∃ k : Nat, k ≤ n ∧ i = .int .i64 k ∧ Below wp.heap.size wp wr) (fun i _ => n - (intOf i).toNat)
  case atStart => exact ⟨0, by omega, rfl, hbq⟩
  case round =>
    clear hbq
    obtain ⟨k, hk, rfl, hbw⟩ := hrel
    by_cases hlt : k < n
    · have hk1 : k < ss.length := by have := HN.out; omega
      have hk1' : k < (rff ss).length := by rw [rff_length]; exact hk1
      obtain ⟨b1, o1, u1, rfl, hu, ht⟩ := HS.out k hk1
      obtain ⟨b2, o2, u2, rfl, hu2, ht2⟩ := PS.out k hk1'
      rw [rff_get ss hk1 hk1'] at ht2
      have hu' := cell_stay hbw hu
      have hu2' := cell_stay hbw hu2
      have hc' := cell_stay hbw hc
      have pc' := cell_stay hbw pc
      obtain ⟨s, hs⟩ : ∃ s, s = ss[k] := ⟨_, rfl⟩
      rw [← hs] at ht ht2
      clear hs hu hu2
      obtain ⟨ht0, ta, tcap, rfl, ht⟩ := ht
      obtain ⟨q0, qa, qcap, rfl, hq⟩ := ht2
      have HT : Hid (∀ i (h : i < s.length), ∃ b off u, ta = some ⟨b, off, none⟩ ∧ TxAt wp b (off + i * 2) u s[i]) := ht
      have HQ : Hid (∀ i (h : i < (s.filter (kp ss)).length), ∃ b off u, qa = some ⟨b, off, none⟩ ∧ TxAt wp b (off + i * 2) u (s.filter (kp ss))[i]) := hq
      obtain ⟨n2, hn2⟩ : ∃ n, n = s.length := ⟨_, rfl⟩
      obtain ⟨n3, hn3⟩ : ∃ n, n = (s.filter (kp ss)).length := ⟨_, rfl⟩
      rw [← hn2] at ht0 hu'
      rw [← hn3] at q0 hu2'
      have HN2 : Hid (n2 = s.length) := hn2
      have HN3 : Hid (n3 = (s.filter (kp ss)).length) := hn3
      clear ht hq hn2 hn3
      unfold small at ht0 q0
      go_wp2
      clear hu' hu2' hc' pc'
      obtain ⟨wo, hwo⟩ : ∃ wo : World, wo = wr := ⟨_, rfl⟩
      go_loopw [8, 59] (fun z i wr => ∃ j : Nat, j ≤ n2 ∧ i = .int .i64 j ∧ z = .int .i64 ((s.take j).filter (kp ss)).length ∧ Below wp.heap.size wp wr) (fun _ i _ => n2 - (intOf i).toNat)
      case atStart => exact ⟨0, by omega, rfl, by simp, hbw⟩
      case round =>
        clear hbw hwo
        obtain ⟨j, hj, rfl, rfl, hbw⟩ := hrel
        by_cases hlt2 : j < n2
        · have hj1 : j < s.length := by have := HN2.out; omega
          obtain ⟨b3, o3, u3, rfl, h3⟩ := HT.out j hj1
          have h3' := h3.stay hbw
          have HEV3 : Hid (EvsAt wr u3 s[j].evs) := h3'.evs
          obtain ⟨en, ea, ec, rfl⟩ : ∃ n a c, u3 = .slice a n c := by obtain ⟨_, a, c, rfl, _⟩ := h3.evs; exact ⟨_, _, _, rfl⟩
          obtain ⟨a0, a1, _⟩ := h3'
          clear h3
          obtain ⟨g, hg⟩ : ∃ g, g = ((s.take j).filter (kp ss)).length := ⟨_, rfl⟩
          have HG : Hid (g = ((s.take j).filter (kp ss)).length) := hg
          rw [← hg]
          have hgle : g ≤ n3 := by rw [hg, HN3.out]; exact greedy_le s j
          clear hg
          have HST := greedy_step (p := kp ss) hj1
          rw [← HG.out] at HST
          have HSTEP : Hid (_ = _) := HST
          clear HST
          cases hkp : kp ss s[j]
          · have hrn := rnw_kp ss hkp
            have HRN : Hid (rnw s[j].evs = false) := hrn
            clear hrn
            by_cases hgn : g < n3
            · obtain ⟨b4, o4, u4, rfl, h4⟩ := HQ.out g (by rw [← HN3.out]; exact hgn)
              have hms := greedy_miss (p := kp ss) hj1 hkp (k := g) (by rw [← HN3.out]; exact hgn)
              have h4' := h4.stay hbw
              obtain ⟨t4, ht4⟩ : ∃ t4, t4 = (s.filter (kp ss))[g]'(by rw [← HN3.out]; exact hgn) := ⟨_, rfl⟩
              rw [← ht4] at h4 h4' hms
              clear ht4
              have HEV4 : Hid (EvsAt wr u4 t4.evs) := h4'.evs
              obtain ⟨fn, fa, fc, rfl⟩ : ∃ n a c, u4 = .slice a n c := by obtain ⟨_, a, c, rfl, _⟩ := h4.evs; exact ⟨_, _, _, rfl⟩
              obtain ⟨d0, d1, _⟩ := h4'
              clear h4
              have hgl : (g : Int) < (n3 : Int) := by omega
              obtain ⟨t, htt⟩ : ∃ t, t = s[j] := ⟨_, rfl⟩
              rw [← htt] at a1 HEV3 hms HRN
              have HTX : Hid (txEq t4 t = false) := by
                show _ = _
                cases h : txEq t4 t
                · rfl
                · exact absurd ((txEq_iff t4 t).1 h) hms
              clear htt hms
              go_wp2_with fail
              go_region_held3 (fun w' => w'.cell? ⟨b4, o4 + g * 2, none⟩ = some (.slice fa fn fc) ∧ w'.cell? ⟨b4, o4 + g * 2 + 1, none⟩ = some (.bool t4.com) ∧ w'.cell? ⟨b3, o3 + j * 2, none⟩ = some (.slice ea en ec) ∧ w'.cell? ⟨b3, o3 + j * 2 + 1, none⟩ = some (.bool t.com))
                (first | go_keep | (exact ⟨cell_stay hbs d0, cell_stay hbs d1, cell_stay hbs a0, cell_stay hbs a1⟩))
                (first | (go_at_call 14; refine (sameTxn_any _ _ t4 t _ (HEV4.out.stay (Below.refl _ _).drew) (HEV3.out.stay (Below.refl _ _).drew)).mono ?_; rintro e ws ⟨rfl, hbs⟩; rw [HTX.out]))
              have hbs' : Below wr.heap.size wr ws := ((Below.refl wr.heap.size wr).drew).trans (hbs.mono (show wr.heap.size ≤ wr.drew.heap.size from Nat.le_refl _))
              have a0' := cell_stay hbs' a0
              have a1' := cell_stay hbs' a1
              go_wp2_with fail
              refine (readsNothing_any _ t _ (HEV3.out.stay hbs')).mono ?_
              rintro e wt ⟨rfl, hbt⟩
              rw [HRN.out]
              go_wp2
              go_roundw
              case rel => exact ⟨j + 1, by omega, by go_num, by rw [HSTEP.out, if_neg (by simp [hkp])]; rfl, (hbw.trans (hbs'.mono hbw.size)).trans (hbt.mono (by have := hbw.size; have := hbs'.size; omega))⟩
              case measure => simp [intOf]; omega
            · have hgd : decide ((g : Int) < (n3 : Int)) = false := by simp; omega
              obtain ⟨t, htt⟩ : ∃ t, t = s[j] := ⟨_, rfl⟩
              rw [← htt] at a1 HEV3 HRN
              clear htt
              go_wp2_with fail
              go_quiet (fail)
              go_wp2_with fail
              refine (readsNothing_any _ t _ (HEV3.out.stay (below_drewN (Below.refl _ _) nq))).mono ?_
              rintro e wt ⟨rfl, hbt⟩
              rw [HRN.out]
              go_wp2
              go_roundw
              case rel => exact ⟨j + 1, by omega, by go_num, by rw [HSTEP.out, if_neg (by simp [hkp])]; rfl, hbw.trans (((below_drewN (Below.refl wr.heap.size wr) nq).trans (hbt.mono (show wr.heap.size ≤ (wr.drewN nq).heap.size from Nat.le_refl _))).mono hbw.size)⟩
              case measure => simp [intOf]; omega
          · obtain ⟨hl, hq⟩ := greedy_hit hj1 hkp
            rw [← HG.out, ← HN3.out] at hl
            obtain ⟨b4, o4, u4, rfl, h4⟩ := HQ.out g (by rw [← HN3.out]; exact hl)
            have e4 : (s.filter (kp ss))[g]'(by rw [← HN3.out]; exact hl) = s[j] := by
              have := HG.out
              subst this
              exact hq
            rw [e4] at h4
            have h4' := h4.stay hbw
            have HEV4 : Hid (EvsAt wr u4 s[j].evs) := h4'.evs
            obtain ⟨fn, fa, fc, rfl⟩ : ∃ n a c, u4 = .slice a n c := by obtain ⟨_, a, c, rfl, _⟩ := h4.evs; exact ⟨_, _, _, rfl⟩
            obtain ⟨d0, d1, _⟩ := h4'
            clear h4 hq e4
            have hgl : (g : Int) < (n3 : Int) := by omega
            obtain ⟨t, htt⟩ : ∃ t, t = s[j] := ⟨_, rfl⟩
            rw [← htt] at a1 d1 HEV3 HEV4
            clear htt
            have HTX : Hid (txEq t t = true) := (txEq_iff t t).2 rfl
            go_wp2_with fail
            go_region_held3 (fun w' => w'.cell? ⟨b4, o4 + g * 2, none⟩ = some (.slice fa fn fc) ∧ w'.cell? ⟨b4, o4 + g * 2 + 1, none⟩ = some (.bool t.com) ∧ w'.cell? ⟨b3, o3 + j * 2, none⟩ = some (.slice ea en ec) ∧ w'.cell? ⟨b3, o3 + j * 2 + 1, none⟩ = some (.bool t.com))
              (first | go_keep | (exact ⟨cell_stay hbs d0, cell_stay hbs d1, cell_stay hbs a0, cell_stay hbs a1⟩))
              (first | (go_at_call 14; refine (sameTxn_any _ _ t t _ (HEV4.out.stay (Below.refl _ _).drew) (HEV3.out.stay (Below.refl _ _).drew)).mono ?_; rintro e ws ⟨rfl, hbs⟩; rw [HTX.out]))
            go_wp2
            go_roundw
            case rel => exact ⟨j + 1, by omega, by go_num, by rw [HSTEP.out, if_pos hkp]; go_num, hbw.trans ((((Below.refl wr.heap.size wr).drew).trans (hbs.mono (show wr.heap.size ≤ wr.drew.heap.size from Nat.le_refl _))).mono hbw.size)⟩
            case measure => simp [intOf]; omega
        · have HFI : Hid (((s.take j).filter (kp ss)).length = n3) := by
            show _ = _
            rw [List.take_of_length_le (by have := HN2.out; omega), HN3.out]
          rw [HFI.out]
          have hnn : ((n3 : Int) != (n3 : Int)) = false := by simp
          go_wp2
          go_roundw
          case rel => exact ⟨k + 1, by omega, by go_num, hbw⟩
          case measure => simp [intOf]; omega
    · go_wp2
      go_ret
      exact ⟨rfl, HB.out.trans (hbw.mono HB.out.size)⟩
end Go.Proofs.Qxb6000864a
