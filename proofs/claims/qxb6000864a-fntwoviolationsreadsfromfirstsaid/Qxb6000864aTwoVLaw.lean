import Derived.Test.Qxb6000864aReads
import Derived.Test.Qxb6000864aPlain
import Derived.Test.Qxb6000864aTwoV
import Derived.Deep.RegionHeld3
import Derived.Deep.QuietTactic
import Derived.BigQuiet
namespace Go.Proofs.Qxb6000864a
open Go.RowKit
def tvD (i j : Nat) : Bool := (i == 0 && j == 0) || (i == 3 && j == 1) || (i == 13 && j == 1) || (i == 16 && j == 1)
def cnt (ss : List (List Tx)) (k : Nat) : Nat := ((ss.take k).map (fun s => (s.filter (kp ss)).length)).sum
theorem cnt_succ (ss : List (List Tx)) {k : Nat} (h : k < ss.length) : cnt ss (k + 1) = cnt ss k + (ss[k].filter (kp ss)).length := by
  unfold cnt
  rw [List.take_succ_eq_append_getElem h]; simp only [List.map_append, List.sum_append, List.map_cons, List.map_nil, List.sum_cons, List.sum_nil, Nat.add_zero]
theorem tv_kp : ∀ i (h : i < tvSS.length) j (hj : j < tvSS[i].length), kp tvSS tvSS[i][j] = !tvD i j := by decide +kernel
theorem tv_cnt : cnt tvSS 20 = 21 := by decide +kernel
theorem tv_cle : ∀ k ≤ 20, cnt tvSS k ≤ 25 := by decide +kernel
set_option maxRecDepth 100000 in
theorem tvDropped (i j : Nat) (hi : i < 1048576) (hj : j < 1048576) (w : World) :
    Calls Try.prog 24 #[.int .i64 i, .int .i64 j] w fun e w' => e = .returned (.bool (tvD i j)) ∧ Below w.heap.size w w' := by
  by_cases h0 : i = 0
  · subst h0
    by_cases k0 : j = 0
    · subst k0
      go_enter Try.func24, Try.ntmps24
      go_wp2
      go_ret
      exact ⟨rfl, Below.refl _ _⟩
    · have kd : ((j : Int) == 0) = false := by simp; omega
      have e : tvD 0 j = false := by simp [tvD, k0]
      rw [e]
      go_enter Try.func24, Try.ntmps24
      go_wp2
      go_ret
      exact ⟨rfl, Below.refl _ _⟩
  have d0 : ((i : Int) == 0) = false := by simp; omega
  by_cases h3 : i = 3
  · subst h3
    by_cases k0 : j = 1
    · subst k0
      go_enter Try.func24, Try.ntmps24
      go_wp2
      go_ret
      exact ⟨rfl, Below.refl _ _⟩
    · have kd : ((j : Int) == 1) = false := by simp; omega
      have e : tvD 3 j = false := by simp [tvD, k0]
      rw [e]
      go_enter Try.func24, Try.ntmps24
      go_wp2
      go_ret
      exact ⟨rfl, Below.refl _ _⟩
  have d3 : ((i : Int) == 3) = false := by simp; omega
  by_cases h13 : i = 13
  · subst h13
    by_cases k0 : j = 1
    · subst k0
      go_enter Try.func24, Try.ntmps24
      go_wp2
      go_ret
      exact ⟨rfl, Below.refl _ _⟩
    · have kd : ((j : Int) == 1) = false := by simp; omega
      have e : tvD 13 j = false := by simp [tvD, k0]
      rw [e]
      go_enter Try.func24, Try.ntmps24
      go_wp2
      go_ret
      exact ⟨rfl, Below.refl _ _⟩
  have d13 : ((i : Int) == 13) = false := by simp; omega
  by_cases h16 : i = 16
  · subst h16
    by_cases k0 : j = 1
    · subst k0
      go_enter Try.func24, Try.ntmps24
      go_wp2
      go_ret
      exact ⟨rfl, Below.refl _ _⟩
    · have kd : ((j : Int) == 1) = false := by simp; omega
      have e : tvD 16 j = false := by simp [tvD, k0]
      rw [e]
      go_enter Try.func24, Try.ntmps24
      go_wp2
      go_ret
      exact ⟨rfl, Below.refl _ _⟩
  have d16 : ((i : Int) == 16) = false := by simp; omega
  have e : tvD i j = false := by simp [tvD, h0, h3, h13, h16]
  rw [e]
  go_enter Try.func24, Try.ntmps24
  go_wp2
  go_ret
  exact ⟨rfl, Below.refl _ _⟩

set_option maxRecDepth 100000 in
set_option maxHeartbeats 2000000 in
theorem tvl_walk (w : World) :
    Calls Try.prog 9 #[] w fun e w' => e = .returned (.bool true) ∧ Below w.heap.size w w' := by
  go_enter Try.func9, Try.ntmps9
  go_wp2_with fail
  refine (tv_any _).mono ?_
  rintro e wh ⟨ph, rfl, hhist, hbh⟩
  have HN0 : Hid (tvSS.length = 20) := rfl
  have HKP : Hid (∀ i (h : i < tvSS.length) j (hj : j < tvSS[i].length), kp tvSS tvSS[i][j] = !tvD i j) := tv_kp
  have HCN : Hid (cnt tvSS 20 = 21) := tv_cnt
  have HCL : Hid (∀ k ≤ 20, cnt tvSS k ≤ 25) := tv_cle
  obtain ⟨ss, hss⟩ : ∃ ss, ss = tvSS := ⟨_, rfl⟩
  rw [← hss] at HN0 HKP HCN HCL hhist
  clear hss
  have HH : Hid (HistAt wh ph ss) := hhist
  have HBH : Hid (Below w.heap.size w wh) := hbh
  clear hhist hbh
  go_wp2_with fail
  refine (reads_any _ ss _ HH.out).mono ?_
  rintro e wp ⟨pp, rfl, hpart, hbp⟩
  have HB : Hid (Below w.heap.size w wp) := HBH.out.trans (hbp.mono HBH.out.size)
  have hhist := HH.out.stay hbp
  clear hbp HBH
  obtain ⟨hb, ho, hv, rfl, hc, hss⟩ := hhist
  obtain ⟨pb, po, pv, rfl, pc, pss⟩ := hpart
  obtain ⟨hs0, sa', scap, rfl, hss⟩ := hss
  obtain ⟨ps0, pa', pcap, rfl, pss⟩ := pss
  rw [rff_length] at pc
  have HS : Hid (∀ i (h : i < ss.length), ∃ b off u, sa' = some ⟨b, off, none⟩ ∧ wp.cell? ⟨b, off + i, none⟩ = some u ∧ TxsAt wp u ss[i]) := hss
  have PS : Hid (∀ i (h : i < (rff ss).length), ∃ b off u, pa' = some ⟨b, off, none⟩ ∧ wp.cell? ⟨b, off + i, none⟩ = some u ∧ TxsAt wp u (rff ss)[i]) := pss
  obtain ⟨n, hn⟩ : ∃ n, n = ss.length := ⟨_, rfl⟩
  rw [← hn] at hs0 hc pc
  have HN : Hid (n = ss.length) := hn
  have hn20 : n = 20 := by rw [hn]; exact HN0.out
  have HN20 : Hid (n = 20) := hn20
  have hnle : n ≤ 20 := by omega
  clear hss pss hn ps0 hn20 HN0
  unfold small at hs0
  have hne : (( (n : Int)) != (n : Int)) = false := by simp
  go_wp2_with fail
  go_quiet (fail)
  go_wp2
  have hbq : Below wp.heap.size wp (wp.drewN nq) := below_drewN (Below.refl _ _) nq
  clear hne
  go_loopw [3, 36] (fun z i wr => ∃ k : Nat, k ≤ n ∧ i = .int .i64 k ∧ z = .int .i64 (cnt ss k) ∧ Below wp.heap.size wp wr) (fun _ i _ => n - (intOf i).toNat)
  case atStart => exact ⟨0, by omega, rfl, rfl, hbq⟩
  case round =>
    clear hbq
    obtain ⟨k, hk, rfl, rfl, hbw⟩ := hrel
    by_cases hlt : k < n
    · have hk1 : k < ss.length := by have := HN.out; omega
      have hk1' : k < (rff ss).length := by rw [rff_length]; exact hk1
      obtain ⟨b1, o1, u1, rfl, hu, ht⟩ := HS.out k hk1
      obtain ⟨b2, o2, u2, rfl, hu2, ht2⟩ := PS.out k hk1'
      rw [rff_get ss hk1 hk1'] at ht2
      have hu' := cell_stay hbw hu
      have hu2' := cell_stay hbw hu2
      have hc' := cell_stay hbw hc
      have pc' := cell_stay hbw pc
      have HK : Hid (∀ j (hj : j < ss[k].length), kp ss ss[k][j] = !tvD k j) := HKP.out k hk1
      have HCS : Hid (cnt ss (k + 1) = cnt ss k + (ss[k].filter (kp ss)).length) := cnt_succ ss hk1
      have hcle := HCL.out k (by omega)
      have hcle1 := HCL.out (k + 1) (by omega)
      obtain ⟨s, hs⟩ : ∃ s, s = ss[k] := ⟨_, rfl⟩
      rw [← hs] at ht ht2 HK HCS
      clear hs hu hu2
      obtain ⟨ht0, ta, tcap, rfl, ht⟩ := ht
      obtain ⟨q0, qa, qcap, rfl, hq⟩ := ht2
      have HT : Hid (∀ i (h : i < s.length), ∃ b off u, ta = some ⟨b, off, none⟩ ∧ TxAt wp b (off + i * 2) u s[i]) := ht
      have HQ : Hid (∀ i (h : i < (s.filter (kp ss)).length), ∃ b off u, qa = some ⟨b, off, none⟩ ∧ TxAt wp b (off + i * 2) u (s.filter (kp ss))[i]) := hq
      obtain ⟨n2, hn2⟩ : ∃ n, n = s.length := ⟨_, rfl⟩
      obtain ⟨n3, hn3⟩ : ∃ n, n = (s.filter (kp ss)).length := ⟨_, rfl⟩
      rw [← hn2] at ht0 hu'
      rw [← hn3] at q0 hu2' HCS
      have HN2 : Hid (n2 = s.length) := hn2
      have HN3 : Hid (n3 = (s.filter (kp ss)).length) := hn3
      clear ht hq hn2 hn3
      unfold small at ht0 q0
      obtain ⟨c0, hc0⟩ : ∃ c, c = cnt ss k := ⟨_, rfl⟩
      rw [← hc0] at HCS hcle
      rw [← hc0]
      rw [HCS.out] at hcle1
      clear hc0
      go_wp2
      clear hu' hu2' hc' pc'
      obtain ⟨wo, hwo⟩ : ∃ wo : World, wo = wr := ⟨_, rfl⟩
      go_loopw [7, 55] (fun z i wr => ∃ j : Nat, j ≤ n2 ∧ i = .int .i64 j ∧ z = .int .i64 ((s.take j).filter (kp ss)).length ∧ Below wp.heap.size wp wr) (fun _ i _ => n2 - (intOf i).toNat)
      case atStart => exact ⟨0, by omega, rfl, by simp, hbw⟩
      case round =>
        clear hbw hwo
        obtain ⟨j, hj, rfl, rfl, hbw⟩ := hrel
        by_cases hlt2 : j < n2
        · have hj1 : j < s.length := by have := HN2.out; omega
          obtain ⟨b3, o3, u3, rfl, h3⟩ := HT.out j hj1
          obtain ⟨g, hg⟩ : ∃ g, g = ((s.take j).filter (kp ss)).length := ⟨_, rfl⟩
          have HG : Hid (g = ((s.take j).filter (kp ss)).length) := hg
          rw [← hg]
          have hgle : g ≤ n3 := by rw [hg, HN3.out]; exact greedy_le s j
          clear hg
          have HST := greedy_step (p := kp ss) hj1
          rw [← HG.out] at HST
          have HSTEP : Hid (_ = _) := HST
          clear HST
          have hdr := HK.out j hj1
          go_wp2_with fail
          refine (tvDropped k j (by omega) (by omega) _).mono ?_
          rintro e wd ⟨rfl, hbd⟩
          have hbw2 : Below wp.heap.size wp wd := hbw.trans (hbd.mono hbw.size)
          clear hbw hbd
          cases hkp : kp ss s[j]
          · have htd : tvD k j = true := by rw [hkp] at hdr; simpa using hdr.symm
            rw [htd]
            clear hdr h3
            go_wp2
            go_roundw
            case rel => exact ⟨j + 1, by omega, by go_num, by rw [HSTEP.out, if_neg (by simp [hkp])]; rfl, hbw2⟩
            case measure => simp [intOf]; omega
          · have htd : tvD k j = false := by rw [hkp] at hdr; simpa using hdr.symm
            rw [htd]
            clear hdr
            have h3' := h3.stay hbw2
            have HEV3 : Hid (EvsAt wd u3 s[j].evs) := h3'.evs
            obtain ⟨en, ea, ec, rfl⟩ : ∃ n a c, u3 = .slice a n c := by obtain ⟨_, a, c, rfl, _⟩ := h3.evs; exact ⟨_, _, _, rfl⟩
            obtain ⟨a0, a1, _⟩ := h3'
            clear h3
            obtain ⟨hl, hq⟩ := greedy_hit hj1 hkp
            rw [← HG.out, ← HN3.out] at hl
            obtain ⟨b4, o4, u4, rfl, h4⟩ := HQ.out g (by rw [← HN3.out]; exact hl)
            have e4 : (s.filter (kp ss))[g]'(by rw [← HN3.out]; exact hl) = s[j] := by
              have := HG.out
              subst this
              exact hq
            rw [e4] at h4
            have h4' := h4.stay hbw2
            have HEV4 : Hid (EvsAt wd u4 s[j].evs) := h4'.evs
            obtain ⟨fn, fa, fc, rfl⟩ : ∃ n a c, u4 = .slice a n c := by obtain ⟨_, a, c, rfl, _⟩ := h4.evs; exact ⟨_, _, _, rfl⟩
            obtain ⟨d0, d1, _⟩ := h4'
            clear h4 hq e4
            have hgd : decide (n3 ≤ g) = false := by simp; omega
            have hgl : (g : Int) < (n3 : Int) := by omega
            obtain ⟨t, htt⟩ : ∃ t, t = s[j] := ⟨_, rfl⟩
            rw [← htt] at a1 d1 HEV3 HEV4
            clear htt
            have HTX : Hid (txEq t t = true) := (txEq_iff t t).2 rfl
            go_wp2_with fail
            go_region_held3 (fun w' => w'.cell? ⟨b4, o4 + g * 2, none⟩ = some (.slice fa fn fc) ∧ w'.cell? ⟨b4, o4 + g * 2 + 1, none⟩ = some (.bool t.com) ∧ w'.cell? ⟨b3, o3 + j * 2, none⟩ = some (.slice ea en ec) ∧ w'.cell? ⟨b3, o3 + j * 2 + 1, none⟩ = some (.bool t.com))
              (first | go_keep | (exact ⟨cell_stay hbs d0, cell_stay hbs d1, cell_stay hbs a0, cell_stay hbs a1⟩))
              (first | (go_at_call 14; refine (sameTxn_any _ _ t t _ (HEV4.out.stay (Below.refl _ _).drew) (HEV3.out.stay (Below.refl _ _).drew)).mono ?_; rintro e ws ⟨rfl, hbs⟩; rw [HTX.out]))
            go_wp2
            go_roundw
            case rel => exact ⟨j + 1, by omega, by go_num, by rw [HSTEP.out, if_pos hkp]; go_num, hbw2.trans ((((Below.refl wd.heap.size wd).drew).trans (hbs.mono (show wd.heap.size ≤ wd.drew.heap.size from Nat.le_refl _))).mono hbw2.size)⟩
            case measure => simp [intOf]; omega
        · have HFI : Hid (((s.take j).filter (kp ss)).length = n3) := by
            show _ = _
            rw [List.take_of_length_le (by have := HN2.out; omega), HN3.out]
          rw [HFI.out]
          have hnn : ((n3 : Int) != (n3 : Int)) = false := by simp
          go_wp2
          go_roundw
          case rel => exact ⟨k + 1, by omega, by go_num, by rw [HCS.out]; go_num, hbw⟩
          case measure => simp [intOf]; omega
    · have hkn : k = 20 := by have := HN20.out; omega
      have hC : cnt ss k = 21 := by rw [hkn]; exact HCN.out
      rw [hC]
      go_wp2
      go_ret
      exact ⟨rfl, HB.out.trans (hbw.mono HB.out.size)⟩
end Go.Proofs.Qxb6000864a
