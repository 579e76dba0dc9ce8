import Derived.Test.Qxb6000864aReads
import Derived.Test.Qxb6000864aPlain
import Derived.Test.Qxb6000864aDoomPlain
import Derived.Test.Qxb6000864aDoom
import Derived.Deep.RegionHeld3
import Derived.Deep.QuietTactic
import Derived.BigQuiet
namespace Go.Proofs.Qxb6000864a
open Go.RowKit
set_option maxRecDepth 100000 in
set_option maxHeartbeats 2000000 in
theorem sameSession_any (v1 v2 : Value) (s : List Tx) (w : World) (h1 : TxsAt w v1 s) (h2 : TxsAt w v2 s) :
    Calls Try.prog 22 #[v1, v2] w fun e w' => e = .returned (.bool true) ∧ Below w.heap.size w w' := by
  obtain ⟨ht0, ta, tcap, rfl, ht⟩ := h1
  obtain ⟨q0, qa, qcap, rfl, hq⟩ := h2
  have HT : Hid (∀ i (h : i < s.length), ∃ b off u, ta = some ⟨b, off, none⟩ ∧ TxAt w b (off + i * 2) u s[i]) := ht
  have HQ : Hid (∀ i (h : i < s.length), ∃ b off u, qa = some ⟨b, off, none⟩ ∧ TxAt w b (off + i * 2) u s[i]) := hq
  obtain ⟨n, hn⟩ : ∃ n, n = s.length := ⟨_, rfl⟩
  rw [← hn] at ht0 ⊢
  have HN : Hid (n = s.length) := hn
  clear ht hq hn q0
  unfold small at ht0
  have hne : (((n : Int)) != (n : Int)) = false := by simp
  go_enter Try.func22, Try.ntmps22
  go_wp2
  clear hne
  obtain ⟨wo, hwo⟩ : ∃ wo : World, wo = w := ⟨_, rfl⟩
  go_loopw [13] (fun i wr => ∃ j : Nat, j ≤ n ∧ i = .int .i64 j ∧ Below w.heap.size w wr) (fun i _ => n - (intOf i).toNat)
  case atStart => exact ⟨0, by omega, rfl, Below.refl _ _⟩
  case round =>
    clear hwo
    obtain ⟨j, hj, rfl, hbw⟩ := hrel
    by_cases hlt : j < n
    · have hj1 : j < s.length := by have := HN.out; omega
      obtain ⟨b3, o3, u3, rfl, h3⟩ := HT.out j hj1
      have h3' := h3.stay hbw
      have HEV3 : Hid (EvsAt wr u3 s[j].evs) := h3'.evs
      obtain ⟨en, ea, ec, rfl⟩ : ∃ n a c, u3 = .slice a n c := by obtain ⟨_, a, c, rfl, _⟩ := h3.evs; exact ⟨_, _, _, rfl⟩
      obtain ⟨a0, a1, _⟩ := h3'
      clear h3
      obtain ⟨b4, o4, u4, rfl, h4⟩ := HQ.out j hj1
      have h4' := h4.stay hbw
      have HEV4 : Hid (EvsAt wr u4 s[j].evs) := h4'.evs
      obtain ⟨fn, fa, fc, rfl⟩ : ∃ n a c, u4 = .slice a n c := by obtain ⟨_, a, c, rfl, _⟩ := h4.evs; exact ⟨_, _, _, rfl⟩
      obtain ⟨d0, d1, _⟩ := h4'
      clear h4
      obtain ⟨t, htt⟩ : ∃ t, t = s[j] := ⟨_, rfl⟩
      rw [← htt] at a1 d1 HEV3 HEV4
      clear htt
      have HTX : Hid (txEq t t = true) := (txEq_iff t t).2 rfl
      go_wp2_with fail
      go_region_held3 (fun w' => w'.cell? ⟨b3, o3 + j * 2, none⟩ = some (.slice ea en ec) ∧ w'.cell? ⟨b3, o3 + j * 2 + 1, none⟩ = some (.bool t.com) ∧ w'.cell? ⟨b4, o4 + j * 2, none⟩ = some (.slice fa fn fc) ∧ w'.cell? ⟨b4, o4 + j * 2 + 1, none⟩ = some (.bool t.com))
        (first | go_keep | (exact ⟨cell_stay hbs a0, cell_stay hbs a1, cell_stay hbs d0, cell_stay hbs d1⟩))
        (first | (go_at_call 14; refine (sameTxn_any _ _ t t _ (HEV3.out.stay (Below.refl _ _).drew) (HEV4.out.stay (Below.refl _ _).drew)).mono ?_; rintro e ws ⟨rfl, hbs⟩; rw [HTX.out]))
      go_wp2
      go_roundw
      case rel => exact ⟨j + 1, by omega, by go_num, hbw.trans ((((Below.refl wr.heap.size wr).drew).trans (hbs.mono (show wr.heap.size ≤ wr.drew.heap.size from Nat.le_refl _))).mono hbw.size)⟩
      case measure => simp [intOf]; omega
    · go_wp2
      go_ret
      exact ⟨rfl, hbw⟩

set_option maxRecDepth 100000 in
set_option maxHeartbeats 4000000 in
theorem drl_walk (n : Int) (hw : (Lit.int .i64 n).wf = true) (w : World) :
    Calls Try.prog 7 #[.int .i64 n] w fun e w' => e = .returned (.bool true) ∧ Below w.heap.size w w' := by
  by_cases hbig : 65536 < n
  · have hd : decide ((65536 : Int) < n) = true := by simp; omega
    go_enter Try.func7, Try.ntmps7
    go_wp2
    go_ret
    exact ⟨rfl, Below.refl _ _⟩
  have hd : decide ((65536 : Int) < n) = false := by simp; omega
  by_cases hneg : n < 0
  · have hd2 : decide (n < 0) = true := by simp; omega
    go_enter Try.func7, Try.ntmps7
    go_wp2_with fail
    refine (dr_any _ (by omega) _).mono ?_
    rintro e wh ⟨ph, rfl, hhist, hbh⟩
    have hnb : n.toNat = 0 := by omega
    rw [hnb] at hhist
    have HKE : Hid (∀ (i : Nat) s, (drSS 0)[i]? = some s → s.filter (kp (drSS 0)) = if i = 3 + 0 ∧ 2 ≤ 0 then [⟨[evRd 1 4, evRd 3 0], true⟩] else s) := fun i s h => dr_keep h
    have HRD : Hid ((drSS 0)[3 + 0]? = some (rdS 0)) := dr_getP (j := 0)
    have HLEN : Hid ((drSS 0).length = 8 + 0) := by show _ = _; simp [drSS, drPre_len, drPost]; try omega
    obtain ⟨ss, hss⟩ : ∃ ss, ss = drSS 0 := ⟨_, rfl⟩
    rw [← hss] at hhist HKE HRD HLEN
    clear hss hnb
    have HH : Hid (HistAt wh ph ss) := hhist
    have HBH : Hid (Below w.heap.size w wh) := hbh
    clear hhist hbh
    go_wp2_with fail
    refine (reads_any _ ss _ HH.out).mono ?_
    rintro e wp ⟨pp, rfl, hpart, hbp⟩
    have HB : Hid (Below w.heap.size w wp) := HBH.out.trans (hbp.mono HBH.out.size)
    have hhist := HH.out.stay hbp
    clear hbp HBH
    obtain ⟨hb, ho, hv, rfl, hc, hss⟩ := hhist
    obtain ⟨pb, po, pv, rfl, pc, pss⟩ := hpart
    obtain ⟨hs0, sa', scap, rfl, hss⟩ := hss
    obtain ⟨ps0, pa', pcap, rfl, pss⟩ := pss
    rw [rff_length] at pc
    have HS : Hid (∀ i (h : i < ss.length), ∃ b off u, sa' = some ⟨b, off, none⟩ ∧ wp.cell? ⟨b, off + i, none⟩ = some u ∧ TxsAt wp u ss[i]) := hss
    have PS : Hid (∀ i (h : i < (rff ss).length), ∃ b off u, pa' = some ⟨b, off, none⟩ ∧ wp.cell? ⟨b, off + i, none⟩ = some u ∧ TxsAt wp u (rff ss)[i]) := pss
    obtain ⟨n8, hn8⟩ : ∃ n, n = ss.length := ⟨_, rfl⟩
    rw [← hn8] at hs0 hc pc
    have HN : Hid (n8 = ss.length) := hn8
    clear hss pss hn8 ps0
    unfold small at hs0
    have hne : (((n8 : Int)) != (n8 : Int)) = false := by simp
    go_wp2_with fail
    go_quiet (fail)
    go_wp2
    have hbq : Below wp.heap.size wp (wp.drewN nq) := below_drewN (Below.refl _ _) nq
    clear hne
    go_loopw [45] (fun i wr => ∃ k : Nat, k ≤ n8 ∧ i = .int .i64 k ∧ Below wp.heap.size wp wr) (fun i _ => n8 - (intOf i).toNat)
    case atStart => exact ⟨0, by omega, rfl, hbq⟩
    case round =>
      clear hbq
      obtain ⟨k, hk, rfl, hbw⟩ := hrel
      by_cases hlt : k < n8
      · have hk1 : k < ss.length := by have := HN.out; omega
        have hk1' : k < (rff ss).length := by rw [rff_length]; exact hk1
        obtain ⟨b1, o1, u1, rfl, hu, ht⟩ := HS.out k hk1
        obtain ⟨b2, o2, u2, rfl, hu2, ht2⟩ := PS.out k hk1'
        rw [rff_get ss hk1 hk1', HKE.out k ss[k] (List.getElem?_eq_getElem hk1)] at ht2
        have hu' := cell_stay hbw hu
        have hu2' := cell_stay hbw hu2
        have hc' := cell_stay hbw hc
        have pc' := cell_stay hbw pc
        have HSK : Hid (ss[k]? = some ss[k]) := List.getElem?_eq_getElem hk1
        generalize ss[k] = s at ht ht2 HSK
        clear hu hu2
        rw [if_neg (fun h => by omega)] at ht2
        have hq : ((k : Int) == 3) = true ∨ ((k : Int) == 3) = false := by cases ((k : Int) == 3) <;> simp
        rcases hq with hq1 | hq1
        · have HT : Hid (TxsAt wr u1 s) := ht.stay hbw
          have HT2 : Hid (TxsAt wr u2 s) := ht2.stay hbw
          obtain ⟨_, ta, tcap, rfl, _⟩ := ht
          obtain ⟨_, qa, qcap, rfl, _⟩ := ht2
          go_wp2_with fail
          refine (sameSession_any _ _ s _ HT.out HT2.out).mono ?_
          rintro e ws ⟨rfl, hbs⟩
          go_wp2
          go_roundw
          case rel => exact ⟨k + 1, by omega, by go_num, hbw.trans (hbs.mono hbw.size)⟩
          case measure => simp [intOf]; omega
        · have HT : Hid (TxsAt wr u1 s) := ht.stay hbw
          have HT2 : Hid (TxsAt wr u2 s) := ht2.stay hbw
          obtain ⟨_, ta, tcap, rfl, _⟩ := ht
          obtain ⟨_, qa, qcap, rfl, _⟩ := ht2
          go_wp2_with fail
          refine (sameSession_any _ _ s _ HT.out HT2.out).mono ?_
          rintro e ws ⟨rfl, hbs⟩
          go_wp2
          go_roundw
          case rel => exact ⟨k + 1, by omega, by go_num, hbw.trans (hbs.mono hbw.size)⟩
          case measure => simp [intOf]; omega
      · go_wp2
        go_ret
        exact ⟨rfl, HB.out.trans (hbw.mono HB.out.size)⟩
  · have hd2 : decide (n < 0) = false := by simp; omega
    obtain ⟨b, rfl⟩ : ∃ b : Nat, n = b := ⟨n.toNat, by omega⟩
    go_enter Try.func7, Try.ntmps7
    go_wp2_with fail
    refine (dr_any _ (by omega) _).mono ?_
    rintro e wh ⟨ph, rfl, hhist, hbh⟩
    have hnb : ((b : Int)).toNat = b := by omega
    rw [hnb] at hhist
    have HKE : Hid (∀ (i : Nat) s, (drSS b)[i]? = some s → s.filter (kp (drSS b)) = if i = 3 + b ∧ 2 ≤ b then [⟨[evRd 1 4, evRd 3 0], true⟩] else s) := fun i s h => dr_keep h
    have HRD : Hid ((drSS b)[3 + b]? = some (rdS b)) := dr_getP (j := 0)
    have HLEN : Hid ((drSS b).length = 8 + b) := by show _ = _; simp [drSS, drPre_len, drPost]; try omega
    obtain ⟨ss, hss⟩ : ∃ ss, ss = drSS b := ⟨_, rfl⟩
    rw [← hss] at hhist HKE HRD HLEN
    clear hss hnb
    have HH : Hid (HistAt wh ph ss) := hhist
    have HBH : Hid (Below w.heap.size w wh) := hbh
    clear hhist hbh
    go_wp2_with fail
    refine (reads_any _ ss _ HH.out).mono ?_
    rintro e wp ⟨pp, rfl, hpart, hbp⟩
    have HB : Hid (Below w.heap.size w wp) := HBH.out.trans (hbp.mono HBH.out.size)
    have hhist := HH.out.stay hbp
    clear hbp HBH
    obtain ⟨hb, ho, hv, rfl, hc, hss⟩ := hhist
    obtain ⟨pb, po, pv, rfl, pc, pss⟩ := hpart
    obtain ⟨hs0, sa', scap, rfl, hss⟩ := hss
    obtain ⟨ps0, pa', pcap, rfl, pss⟩ := pss
    rw [rff_length] at pc
    have HS : Hid (∀ i (h : i < ss.length), ∃ b off u, sa' = some ⟨b, off, none⟩ ∧ wp.cell? ⟨b, off + i, none⟩ = some u ∧ TxsAt wp u ss[i]) := hss
    have PS : Hid (∀ i (h : i < (rff ss).length), ∃ b off u, pa' = some ⟨b, off, none⟩ ∧ wp.cell? ⟨b, off + i, none⟩ = some u ∧ TxsAt wp u (rff ss)[i]) := pss
    obtain ⟨n8, hn8⟩ : ∃ n, n = ss.length := ⟨_, rfl⟩
    rw [← hn8] at hs0 hc pc
    have HN : Hid (n8 = ss.length) := hn8
    clear hss pss hn8 ps0
    unfold small at hs0
    have hne : (((n8 : Int)) != (n8 : Int)) = false := by simp
    go_wp2_with fail
    go_quiet (fail)
    go_wp2
    have hbq : Below wp.heap.size wp (wp.drewN nq) := below_drewN (Below.refl _ _) nq
    clear hne
    go_loopw [45] (fun i wr => ∃ k : Nat, k ≤ n8 ∧ i = .int .i64 k ∧ Below wp.heap.size wp wr) (fun i _ => n8 - (intOf i).toNat)
    case atStart => exact ⟨0, by omega, rfl, hbq⟩
    case round =>
      clear hbq
      obtain ⟨k, hk, rfl, hbw⟩ := hrel
      by_cases hlt : k < n8
      · have hk1 : k < ss.length := by have := HN.out; omega
        have hk1' : k < (rff ss).length := by rw [rff_length]; exact hk1
        obtain ⟨b1, o1, u1, rfl, hu, ht⟩ := HS.out k hk1
        obtain ⟨b2, o2, u2, rfl, hu2, ht2⟩ := PS.out k hk1'
        rw [rff_get ss hk1 hk1', HKE.out k ss[k] (List.getElem?_eq_getElem hk1)] at ht2
        have hu' := cell_stay hbw hu
        have hu2' := cell_stay hbw hu2
        have hc' := cell_stay hbw hc
        have pc' := cell_stay hbw pc
        have HSK : Hid (ss[k]? = some ss[k]) := List.getElem?_eq_getElem hk1
        generalize ss[k] = s at ht ht2 HSK
        clear hu hu2
        by_cases hkr : k = 3 + b
        · by_cases hb2 : 2 ≤ b
          · rw [if_pos ⟨hkr, hb2⟩] at ht2
            have hsr : s = rdS b := by
              have h1 := HRD.out
              rw [← hkr, HSK.out] at h1
              exact Option.some.inj h1
            subst hsr
            have hq1 : ((k : Int) == 3 + (b : Int)) = true := by simp; omega
            have hq2 : decide ((b : Int) ≥ 2) = true := by simp; omega
            have hq3 : decide (2 ≤ b) = true := by simp; omega
            clear hkr
            obtain ⟨_, ta, tcap, rfl, ht⟩ := ht
            obtain ⟨_, qa, qcap, rfl, hq⟩ := ht2
            obtain ⟨b3, o3, u3, rfl, h3⟩ := ht 1 (by simp [rdS])
            obtain ⟨b4, o4, u4, rfl, h4⟩ := hq 0 (by simp)
            have h3' := h3.stay hbw
            have h4' := h4.stay hbw
            clear ht hq
            have HEV3 : Hid (EvsAt wr u3 [evRd 1 4, evRd 3 0]) := h3'.evs
            have HEV4 : Hid (EvsAt wr u4 [evRd 1 4, evRd 3 0]) := h4'.evs
            obtain ⟨en, ea, ec, rfl⟩ : ∃ n a c, u3 = .slice a n c := by obtain ⟨_, a, c, rfl, _⟩ := h3.evs; exact ⟨_, _, _, rfl⟩
            obtain ⟨fn, fa, fc, rfl⟩ : ∃ n a c, u4 = .slice a n c := by obtain ⟨_, a, c, rfl, _⟩ := h4.evs; exact ⟨_, _, _, rfl⟩
            have a0 : wr.cell? ⟨b3, o3 + 2, none⟩ = some (.slice ea en ec) := h3'.c0
            have a1 : wr.cell? ⟨b3, o3 + 2 + 1, none⟩ = some (.bool true) := h3'.c1
            have d0 : wr.cell? ⟨b4, o4, none⟩ = some (.slice fa fn fc) := h4'.c0
            have d1 : wr.cell? ⟨b4, o4 + 1, none⟩ = some (.bool true) := h4'.c1
            clear h3 h4 h3' h4'
            have hr2 : (rdS b).length = 2 := rfl
            rw [hr2] at hu'
            simp only [List.length_singleton] at hu2'
            have HTX : Hid (txEq ⟨[evRd 1 4, evRd 3 0], true⟩ ⟨[evRd 1 4, evRd 3 0], true⟩ = true) := (txEq_iff _ _).2 rfl
            go_wp2_with fail
            go_region_held3 (fun w' => w'.cell? ⟨b4, o4, none⟩ = some (.slice fa fn fc) ∧ w'.cell? ⟨b4, o4 + 1, none⟩ = some (.bool true) ∧ w'.cell? ⟨b3, o3 + 2, none⟩ = some (.slice ea en ec) ∧ w'.cell? ⟨b3, o3 + 2 + 1, none⟩ = some (.bool true))
              (first | go_keep | (exact ⟨cell_stay hbs d0, cell_stay hbs d1, cell_stay hbs a0, cell_stay hbs a1⟩))
              (first | (go_at_call 14; refine (sameTxn_any _ _ ⟨[evRd 1 4, evRd 3 0], true⟩ ⟨[evRd 1 4, evRd 3 0], true⟩ _ (HEV4.out.stay (Below.refl _ _).drew) (HEV3.out.stay (Below.refl _ _).drew)).mono ?_; rintro e ws ⟨rfl, hbs⟩; rw [HTX.out]))
            go_wp2
            go_roundw
            case rel => exact ⟨k + 1, by omega, by go_num, hbw.trans ((((Below.refl wr.heap.size wr).drew).trans (hbs.mono (show wr.heap.size ≤ wr.drew.heap.size from Nat.le_refl _))).mono hbw.size)⟩
            case measure => simp [intOf]; omega
          · rw [if_neg (fun h => hb2 h.2)] at ht2
            have hq1 : ((k : Int) == 3 + (b : Int)) = true := by simp; omega
            have hq2 : decide ((b : Int) ≥ 2) = false := by simp; omega
            have hq3 : decide (2 ≤ b) = false := by simp; omega
            clear hkr
            have HT : Hid (TxsAt wr u1 s) := ht.stay hbw
            have HT2 : Hid (TxsAt wr u2 s) := ht2.stay hbw
            obtain ⟨_, ta, tcap, rfl, _⟩ := ht
            obtain ⟨_, qa, qcap, rfl, _⟩ := ht2
            go_wp2_with fail
            refine (sameSession_any _ _ s _ HT.out HT2.out).mono ?_
            rintro e ws ⟨rfl, hbs⟩
            go_wp2
            go_roundw
            case rel => exact ⟨k + 1, by omega, by go_num, hbw.trans (hbs.mono hbw.size)⟩
            case measure => simp [intOf]; omega
        · rw [if_neg (fun h => hkr h.1)] at ht2
          have hq1 : ((k : Int) == 3 + (b : Int)) = false := by simp; omega
          have HT : Hid (TxsAt wr u1 s) := ht.stay hbw
          have HT2 : Hid (TxsAt wr u2 s) := ht2.stay hbw
          obtain ⟨_, ta, tcap, rfl, _⟩ := ht
          obtain ⟨_, qa, qcap, rfl, _⟩ := ht2
          go_wp2_with fail
          refine (sameSession_any _ _ s _ HT.out HT2.out).mono ?_
          rintro e ws ⟨rfl, hbs⟩
          go_wp2
          go_roundw
          case rel => exact ⟨k + 1, by omega, by go_num, hbw.trans (hbs.mono hbw.size)⟩
          case measure => simp [intOf]; omega
      · go_wp2
        go_ret
        exact ⟨rfl, HB.out.trans (hbw.mono HB.out.size)⟩
end Go.Proofs.Qxb6000864a
