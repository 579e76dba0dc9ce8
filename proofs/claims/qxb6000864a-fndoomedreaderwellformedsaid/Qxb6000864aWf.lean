import Derived.Test.Qxb6000864aWfRegion
namespace Go.Proofs.Qxb6000864a
open Go.RowKit
theorem make_rows0 {P : Program} (t e : TypeId) (z : Array Value) (size bytes : Nat) (ht : P.underlying t = some (.slice e)) (hinfo : (P.info? e).map (fun i => (i.zero, i.size, i.bytes)) = some (some (.agg z), size, bytes)) (n : Nat) (hb : bytes * n ≤ 281474976710656) (h63 : n ≤ 9223372036854775807) (w : World) :
    (Instr.makeSlice t (.int .i64 0) (.int .i64 (n : Int))).run P w = .ok (.slice (some ⟨w.heap.size, 0, none⟩) 0 n) (w.alloc (.cells (madeCells z (n * size)) e)) := by
  obtain ⟨i, hi, hzz⟩ := Option.map_eq_some_iff.1 hinfo
  simp only [Prod.mk.injEq] at hzz
  obtain ⟨hz, hs, hbb⟩ := hzz
  have hb' : (i.bytes : Int) * (n : Int) ≤ 281474976710656 := by
    have h : ((i.bytes * n : Nat) : Int) ≤ 281474976710656 := by rw [hbb]; omega
    rwa [Int.natCast_mul] at h
  have hr := run_make (P := P) w t e i _ ht hi hz .i64 .i64 0 n (by omega) (by omega) hb' (by omega)
  simp only [Int.toNat_natCast, hs] at hr
  exact hr
theorem wrapIn {x : Int} (h1 : -9223372036854775808 ≤ x) (h2 : x ≤ 9223372036854775807) : IntKind.i64.wrap x = x := by
  rw [IntKind.wrap_i64]
  omega
/-- the row that the call owns holds the pairs l. -/
def Own (w wq : World) (g c : Nat) (l : List (Int × Int)) : Prop := wq.ownsRow w.heap.size 68 2 (.slice (some ⟨g, 0, none⟩) l.length c) l.length (kvC l) ∧ Below w.heap.size w wq
theorem Own.step {w wr wq : World} {g c g' c' : Nat} {l : List (Int × Int)} {x1 x2 : Int} {len : Nat} (h : Own w wr g c l) (hl : l.length = len) (ho : wq.ownsRow w.heap.size 68 2 (.slice (some ⟨g', 0, none⟩) (len + 1) c') (len + 1) (kvC l ++ [.int .i64 x1, .int .i64 x2])) (hg : wr.grownBy wq (some g)) : Own w wq g' c' (l ++ [(x1, x2)]) := by
  subst hl
  refine ⟨by rw [kvC_append, kvC_one, List.length_append]; exact ho, ?_⟩
  have hb := h.2
  have hg1 : w.heap.size ≤ g := (h.1.lt g rfl).1
  exact ⟨hg.os.trans hb.os, hg.tape.trans hb.tape, hg.output.trans hb.output, Nat.le_trans hb.size hg.size, fun j hj => (hg.block j (by have := hb.size; omega) (by simp; omega)).trans (hb.block j hj)⟩
set_option maxRecDepth 100000 in
set_option maxHeartbeats 8000000 in
theorem wf_any (p : Value) (ss : List (List Tx)) (w : World) (h : HistAt w p ss) (hW : WF ss) :
    Calls Try.prog 21 #[p] w fun e w' => e = .returned (.bool true) ∧ Below w.heap.size w w' := by
  obtain ⟨hb, ho, v, rfl, hcell, hsess⟩ := h
  obtain ⟨hs0, sa, sc, rfl, hs⟩ := hsess
  have HS : Hid (∀ i (h : i < ss.length), ∃ b off u, sa = some ⟨b, off, none⟩ ∧ w.cell? ⟨b, off + i, none⟩ = some u ∧ TxsAt w u ss[i]) := hs
  have HW : Hid (WF ss) := hW
  have HN : Hid ((wH ss).length ≤ 1048576) := hW.len
  obtain ⟨n, hn⟩ : ∃ n, n = ss.length := ⟨_, rfl⟩
  rw [← hn] at hcell hs0
  have HL : Hid (n = ss.length) := hn
  clear hs hW hn
  unfold small at hs0
  have hlt0 := cell_lt hcell
  simp only at hlt0
  have HB0 : Hid (hb < w.heap.size) := hlt0
  clear hlt0
  go_enter Try.func21, Try.ntmps21
  go_wp2
  go_loopw [3, 28] (fun c i wr => ∃ k : Nat, k ≤ n ∧ i = .int .i64 k ∧ c = .int .i64 ((wH (ss.take k)).length : Nat) ∧ Below w.heap.size w wr) (fun _ i _ => n - (intOf i).toNat)
  case atStart => exact ⟨0, by omega, rfl, rfl, Below.refl _ _⟩
  case round =>
    obtain ⟨k, hk, rfl, rfl, hbw⟩ := hrel
    by_cases hlt : k < n
    · have hk1 : k < ss.length := by have := HL.out; omega
      obtain ⟨b1, o1, u, rfl, hu, ht⟩ := HS.out k hk1
      have HM : Hid (ss[k] ∈ ss) := List.getElem_mem hk1
      have HP : Hid ((wH (ss.take k)).length + (wS ss[k]).length ≤ 1048576) := wH_room hk1 HN.out
      have HQ : Hid (wH (ss.take (k + 1)) = wH (ss.take k) ++ wS ss[k]) := wH_succ hk1
      generalize ss[k] = s at ht HM HP HQ
      obtain ⟨ht0, ta, tc, rfl, ht⟩ := ht
      have HT : Hid (∀ i (h : i < s.length), ∃ b off u, ta = some ⟨b, off, none⟩ ∧ TxAt w b (off + i * 2) u s[i]) := ht
      obtain ⟨n2, hn2⟩ : ∃ n2, n2 = s.length := ⟨_, rfl⟩
      rw [← hn2] at hu ht0
      have HL2 : Hid (n2 = s.length) := hn2
      clear ht hn2
      unfold small at ht0
      generalize hP0 : (wH (ss.take k)).length = P at HP
      have HPe : Hid ((wH (ss.take k)).length = P) := hP0
      clear hP0
      have hc1 := cell_stay hbw hcell
      have hc2 := cell_stay hbw hu
      have HBW : Hid (Below w.heap.size w wr) := hbw
      clear hbw
      go_wp2
      clear hc1 hc2
      go_loopw [3, 40] (fun c i wr => ∃ j : Nat, j ≤ n2 ∧ i = .int .i64 j ∧ c = .int .i64 ((P + (wS (s.take j)).length : Nat) : Int) ∧ Below w.heap.size w wr) (fun _ i _ => n2 - (intOf i).toNat)
      case atStart => exact ⟨0, by omega, rfl, rfl, HBW.out⟩
      case round =>
        clear HBW
        obtain ⟨j, hj, rfl, rfl, hbw⟩ := hrel
        by_cases hlt2 : j < n2
        · have hj1 : j < s.length := by have := HL2.out; omega
          obtain ⟨b2, o2, u2, rfl, hT2⟩ := HT.out j hj1
          have HM2 : Hid (s[j] ∈ s) := List.getElem_mem hj1
          have HP2 : Hid (P + (wS (s.take j)).length + (wE s[j].evs).length ≤ 1048576) := wS_room hj1 HP.out
          have HQ2 : Hid (wS (s.take (j + 1)) = wS (s.take j) ++ wE s[j].evs) := wS_succ hj1
          generalize s[j] = t at hT2 HM2 HP2 HQ2
          have hcom : t.com = true := HW.out.com _ HM.out _ HM2.out
          obtain ⟨es, cm⟩ := t
          simp only at hcom
          subst hcom
          obtain ⟨ca, cb, hev⟩ := hT2
          simp only at ca cb hev
          obtain ⟨he0, ea, ec, rfl, he⟩ := hev
          have HE : Hid (∀ i (h : i < es.length), ∃ b off, ea = some ⟨b, off, none⟩ ∧ EvAt w b (off + i * 4) es[i]) := he
          obtain ⟨n3, hn3⟩ : ∃ n3, n3 = es.length := ⟨_, rfl⟩
          rw [← hn3] at ca he0
          have HL3 : Hid (n3 = es.length) := hn3
          clear he hn3
          unfold small at he0
          generalize hP0 : P + (wS (s.take j)).length = P2 at HP2
          have HPe2 : Hid (P + (wS (s.take j)).length = P2) := hP0
          clear hP0
          have hc1 := cell_stay hbw ca
          have hc2 := cell_stay hbw cb
          have HBW : Hid (Below w.heap.size w wr) := hbw
          clear hbw
          go_wp2
          clear hc1 hc2
          have hsz := HBW.out.size
          go_loopw [3, 53] (fun c i wq => ∃ m : Nat, m ≤ n3 ∧ i = .int .i64 m ∧ c = .int .i64 ((P2 + (wE (es.take m)).length : Nat) : Int) ∧ wq.cell? ⟨wr.heap.size, 0, none⟩ = some (.slice ea n3 ec) ∧ Below w.heap.size w wq) (fun _ i _ => n3 - (intOf i).toNat)
          case atStart => exact ⟨0, by omega, rfl, rfl, by simp, HBW.out.alloc (by omega) _⟩
          case round =>
            clear HBW
            obtain ⟨m, hm, rfl, rfl, hc7, hbw⟩ := hrel
            by_cases hlt3 : m < n3
            · have hm1 : m < es.length := by have := HL3.out; omega
              obtain ⟨b3, o3, rfl, hE3⟩ := HE.out m hm1
              have HM3 : Hid (es[m] ∈ es) := List.getElem_mem hm1
              have HP3 : Hid (P2 + (wE (es.take m)).length ≤ 1048576) := wE_room HP2.out
              have HQ3 : Hid (wE (es.take (m + 1)) = wE (es.take m) ++ (if es[m].wr then [(es[m].key, es[m].num)] else [])) := wE_succ hm1
              generalize es[m] = e at hE3 HM3 HQ3
              have HEW := HW.out.wr _ HM.out _ HM2.out _ HM3.out
              have HER := HW.out.rd _ HM.out _ HM2.out _ HM3.out
              obtain ⟨ew, ek, en, ei⟩ := e
              obtain ⟨d0, d1, d2, d3, _, _⟩ := hE3.stay hbw
              simp only at d0 d1 d2 d3 HEW HER
              clear hE3
              have hsz2 := hbw.size
              have l1 := cell_lt d0
              have l7 := cell_lt hc7
              simp only at l1 l7
              generalize hP0 : P2 + (wE (es.take m)).length = P3 at HP3
              have HPe3 : Hid (P2 + (wE (es.take m)).length = P3) := hP0
              clear hP0
              have hP3 : P3 ≤ 1048576 := HP3.out
              have HBW : Hid (Below w.heap.size w wr) := hbw
              clear hbw
              cases ew
              · have hei : ei = (en == 0) := HER rfl
                subst hei
                clear HEW HER
                go_wp2
                go_roundw
                case rel => exact ⟨m + 1, by omega, by go_num, by rw [HQ3.out, ← HPe3.out]; simp, cell_alloc hc7 _, HBW.out.alloc (by omega) _⟩
                case measure => simp [intOf]; omega
              · obtain ⟨hei, hen⟩ := HEW rfl
                subst hei
                clear HEW HER
                go_wp2
                go_roundw
                case rel => exact ⟨m + 1, by omega, by go_num, by rw [HQ3.out, List.length_append, ← Nat.add_assoc, HPe3.out]; simp, cell_alloc hc7 _, HBW.out.alloc (by omega) _⟩
                case measure => simp [intOf]; omega
            · have HBW : Hid (Below w.heap.size w wr) := hbw
              have hme : m = n3 := by omega
              have HME : Hid (m = n3) := hme
              clear hbw hc7 hme
              go_wp2
              go_roundw
              case rel => exact ⟨j + 1, by omega, by go_num, by rw [HQ2.out, List.length_append, ← Nat.add_assoc, HPe2.out, HME.out, HL3.out, List.take_length], HBW.out⟩
              case measure => simp [intOf]; omega
        · have HBW : Hid (Below w.heap.size w wr) := hbw
          have hje : j = n2 := by omega
          have HJE : Hid (j = n2) := hje
          clear hbw hje
          go_wp2
          go_roundw
          case rel => exact ⟨k + 1, by omega, by go_num, by rw [HQ.out, List.length_append, HPe.out, HJE.out, HL2.out, List.take_length], HBW.out⟩
          case measure => simp [intOf]; omega
    · have HBW : Hid (Below w.heap.size w wr) := hbw
      have hke : k = n := by omega
      have HKE : Hid (wH (ss.take k) = wH ss) := by show _ = _; rw [hke, HL.out, List.take_length]
      rw [HKE.out]
      clear hbw hke HKE hk
      generalize hN0 : (wH ss).length = N at HN
      have HNe : Hid ((wH ss).length = N) := hN0
      clear hN0
      have hN := HN.out
      have hmk := make_rows0 (P := Try.prog) 66 68 #[.int .i64 0, .int .i64 0] 2 16 Try.underlying66 info68 N (by omega) (by omega)
      have hc1 := cell_stay HBW.out hcell
      have l1 := cell_lt hc1
      simp only at l1
      go_wp2
      clear hmk hc1 l1 hlt
      go_loopw [10, 92] (fun q i wq => ∃ k g c : Nat, k ≤ n ∧ i = .int .i64 k ∧ q = .slice (some ⟨g, 0, none⟩) (wH (ss.take k)).length c ∧ Own w wq g c (wH (ss.take k))) (fun _ i _ => n - (intOf i).toNat)
      case atStart => exact ⟨0, wr.heap.size, N, by omega, rfl, rfl, World.ownsRow_made _ _ _ HBW.out.size (by unfold maxLen; omega) (size_madeCells _ _), HBW.out.alloc HBW.out.size _⟩
      case round =>
        clear HBW
        obtain ⟨k, g, c, hk, rfl, rfl, hO⟩ := hrel
        by_cases hlt : k < n
        · have hk1 : k < ss.length := by have := HL.out; omega
          obtain ⟨b1, o1, u, rfl, hu, ht⟩ := HS.out k hk1
          have HM : Hid (ss[k] ∈ ss) := List.getElem_mem hk1
          have HP : Hid ((wH (ss.take k)).length + (wS ss[k]).length ≤ 1048576) := wH_room hk1 (by rw [HNe.out]; exact HN.out)
          have HQ : Hid (wH (ss.take (k + 1)) = wH (ss.take k) ++ wS ss[k]) := wH_succ hk1
          generalize ss[k] = s at ht HM HP HQ
          obtain ⟨ht0, ta, tc, rfl, ht⟩ := ht
          have HT : Hid (∀ i (h : i < s.length), ∃ b off u, ta = some ⟨b, off, none⟩ ∧ TxAt w b (off + i * 2) u s[i]) := ht
          obtain ⟨n2, hn2⟩ : ∃ n2, n2 = s.length := ⟨_, rfl⟩
          rw [← hn2] at hu ht0
          have HL2 : Hid (n2 = s.length) := hn2
          clear ht hn2
          unfold small at ht0
          generalize hP0 : wH (ss.take k) = P at HP HQ hO
          have HPe : Hid (wH (ss.take k) = P) := hP0
          clear hP0
          have hc1 := cell_stay hO.2 hcell
          have hc2 := cell_stay hO.2 hu
          have HO : Hid (Own w wr g c P) := hO
          clear hO
          generalize hlen : P.length = len
          go_wp2
          clear hc1 hc2
          subst hlen
          go_loopw [10, 104] (fun q i wq => ∃ j g c : Nat, j ≤ n2 ∧ i = .int .i64 j ∧ q = .slice (some ⟨g, 0, none⟩) (P ++ wS (s.take j)).length c ∧ Own w wq g c (P ++ wS (s.take j))) (fun _ i _ => n2 - (intOf i).toNat)
          case atStart => exact ⟨0, g, c, by omega, rfl, by simp [wS], by simpa [wS] using HO.out⟩
          case round =>
            clear HO
            obtain ⟨j, g, c, hj, rfl, rfl, hO⟩ := hrel
            by_cases hlt2 : j < n2
            · have hj1 : j < s.length := by have := HL2.out; omega
              obtain ⟨b2, o2, u2, rfl, hT2⟩ := HT.out j hj1
              have HM2 : Hid (s[j] ∈ s) := List.getElem_mem hj1
              have HP2 : Hid (P.length + (wS (s.take j)).length + (wE s[j].evs).length ≤ 1048576) := wS_room hj1 HP.out
              have HQ2 : Hid (wS (s.take (j + 1)) = wS (s.take j) ++ wE s[j].evs) := wS_succ hj1
              generalize s[j] = t at hT2 HM2 HP2 HQ2
              obtain ⟨es, cm⟩ := t
              obtain ⟨ca, cb, hev⟩ := hT2
              simp only at ca cb hev
              obtain ⟨he0, ea, ec, rfl, he⟩ := hev
              have HE : Hid (∀ i (h : i < es.length), ∃ b off, ea = some ⟨b, off, none⟩ ∧ EvAt w b (off + i * 4) es[i]) := he
              obtain ⟨n3, hn3⟩ : ∃ n3, n3 = es.length := ⟨_, rfl⟩
              rw [← hn3] at ca he0
              have HL3 : Hid (n3 = es.length) := hn3
              clear he hn3
              unfold small at he0
              have HP2' : Hid ((P ++ wS (s.take j)).length + (wE es).length ≤ 1048576) := by have := HP2.out; show _ ≤ _; rw [List.length_append]; exact this
              clear HP2
              generalize hP0 : P ++ wS (s.take j) = P2 at HP2' hO
              have HPe2 : Hid (P ++ wS (s.take j) = P2) := hP0
              clear hP0
              have hc1 := cell_stay hO.2 ca
              have HO : Hid (Own w wr g c P2) := hO
              clear hO
              generalize hlen : P2.length = len
              go_wp2
              clear hc1
              subst hlen
              go_loopw [10, 114] (fun q i wq => ∃ m g c : Nat, m ≤ n3 ∧ i = .int .i64 m ∧ q = .slice (some ⟨g, 0, none⟩) (P2 ++ wE (es.take m)).length c ∧ Own w wq g c (P2 ++ wE (es.take m))) (fun _ i _ => n3 - (intOf i).toNat)
              case atStart => exact ⟨0, g, c, by omega, rfl, by simp [wE], by simpa [wE] using HO.out⟩
              case round =>
                clear HO
                obtain ⟨m, g, c, hm, rfl, rfl, hO⟩ := hrel
                by_cases hlt3 : m < n3
                · have hm1 : m < es.length := by have := HL3.out; omega
                  obtain ⟨b3, o3, rfl, hE3⟩ := HE.out m hm1
                  have HP3 : Hid ((P2 ++ wE (es.take m)).length ≤ 1048576) := by show _ ≤ _; rw [List.length_append]; exact wE_room HP2'.out
                  have HQ3 : Hid (wE (es.take (m + 1)) = wE (es.take m) ++ (if es[m].wr then [(es[m].key, es[m].num)] else [])) := wE_succ hm1
                  generalize es[m] = e at hE3 HQ3
                  obtain ⟨ew, ek, en, ei⟩ := e
                  obtain ⟨d0, d1, d2, d3, _, _⟩ := hE3.stay hO.2
                  simp only at d0 d1 d2 d3
                  clear hE3
                  generalize hP0 : P2 ++ wE (es.take m) = P3 at HP3 hO
                  have HPe3 : Hid (P2 ++ wE (es.take m) = P3) := hP0
                  clear hP0
                  have HO : Hid (Own w wr g c P3) := hO
                  clear hO
                  generalize hlen : P3.length = len
                  have HLn : Hid (P3.length = len) := hlen
                  clear hlen
                  cases ew
                  · go_wp2
                    go_roundw
                    case rel => exact ⟨m + 1, g, c, by omega, by go_num, by rw [HQ3.out, ← HLn.out, ← HPe3.out]; simp, by rw [HQ3.out]; simpa [HPe3.out] using HO.out⟩
                    case measure => simp [intOf]; omega
                  · have hown : Hid (wr.ownsRow w.heap.size 68 2 (.slice (some ⟨g, 0, none⟩) len c) len (kvC P3)) := by have := HO.out.1; rw [HLn.out] at this; exact this
                    have hlen3 : len ≤ 1048576 := by rw [← HLn.out]; exact HP3.out
                    go_wp2_with fail
                    refine wp_onlyN ?_
                    refine region38L (by kernel_rfl) rfl rfl rfl hlt3 d1 d2 hown.out hlen3 HO.out.2.size ?_
                    intro v0 v1 v2 v3 v4 v5 v6 v7 v8 v9 v10 v11 v12 v13 v14 w1 g' c' ho' hg'
                    have HO2 : Hid (Own w w1 g' c' (P3 ++ [(ek, en)])) := Own.step HO.out HLn.out ho' hg'
                    clear HO hown ho' hg' d0 d1 d2 d3
                    go_wp2
                    go_roundw
                    case rel => exact ⟨m + 1, g', c', by omega, by go_num, by rw [HQ3.out, ← HLn.out, ← HPe3.out]; simp [Nat.add_assoc], by rw [HQ3.out, ← List.append_assoc, HPe3.out]; exact HO2.out⟩
                    case measure => simp [intOf]; omega
                · have HO : Hid (Own w wr g c (P2 ++ wE (es.take m))) := hO
                  have hme : m = n3 := by omega
                  have HME : Hid (P2 ++ wE (es.take m) = P ++ wS (s.take (j + 1))) := by show _ = _; rw [HQ2.out, hme, HL3.out, List.take_length, ← List.append_assoc, HPe2.out]
                  clear hO hme
                  generalize hlen : (P2 ++ wE (es.take m)).length = len
                  have HLn : Hid ((P2 ++ wE (es.take m)).length = len) := hlen
                  clear hlen
                  go_wp2
                  go_roundw
                  case rel => exact ⟨j + 1, g, c, by omega, by go_num, by rw [← HLn.out, HME.out], by rw [← HME.out]; exact HO.out⟩
                  case measure => simp [intOf]; omega
            · have HO : Hid (Own w wr g c (P ++ wS (s.take j))) := hO
              have hje : j = n2 := by omega
              have HJE : Hid (P ++ wS (s.take j) = wH (ss.take (k + 1))) := by show _ = _; rw [HQ.out, hje, HL2.out, List.take_length]
              clear hO hje
              generalize hlen : (P ++ wS (s.take j)).length = len
              have HLn : Hid ((P ++ wS (s.take j)).length = len) := hlen
              clear hlen
              go_wp2
              go_roundw
              case rel => exact ⟨k + 1, g, c, by omega, by go_num, by rw [← HLn.out, HJE.out], by rw [← HJE.out]; exact HO.out⟩
              case measure => simp [intOf]; omega
        · have hke : k = n := by omega
          have hfull : wH (ss.take k) = wH ss := by rw [hke, HL.out, List.take_length]
          rw [hfull] at hO
          rw [hfull, HNe.out]
          obtain ⟨hrow, hgb⟩ := kv_of_owns hO.1 rfl
          have HO : Hid (KvRow wr g (wH ss) ∧ w.heap.size ≤ g ∧ Below w.heap.size w wr) := ⟨hrow, hgb, hO.2⟩
          clear hke hfull hO hk hrow hgb
          go_wp2_with fail
          refine (sort_any w.heap.size g c N (wH ss) _ HO.out.1 HNe.out.symm HN.out HO.out.2.1).mono ?_
          rintro e w1 ⟨g1, c1, ys, rfl, hrow, hperm, hsrt, hbl⟩
          have HY : Hid (KvRow w1 g1 ys ∧ Srt ys ∧ ys.Nodup ∧ ys.length = N) := ⟨hrow, hsrt, hperm.nodup_iff.2 HW.out.nd, by rw [hperm.length_eq]; exact HNe.out⟩
          have HPm : Hid (ys.Perm (wH ss)) := hperm
          have HBW : Hid (Below w.heap.size w w1) := HO.out.2.2.trans hbl
          clear hrow hsrt hperm hbl HO hlt
          go_wp2
          go_loopw [16] (fun i wq => ∃ k : Nat, 1 ≤ k ∧ k ≤ N + 1 ∧ i = .int .i64 k ∧ Below w1.heap.size w1 wq) (fun i _ => N + 1 - (intOf i).toNat)
          case atStart => exact ⟨1, by omega, by omega, rfl, Below.refl _ _⟩
          case round =>
            obtain ⟨k, hk0, hk, rfl, hbw⟩ := hrel
            by_cases hlt : k < N
            · obtain ⟨k', hk'⟩ : ∃ k', k' + 1 = k := ⟨k - 1, by omega⟩
              have hkm : IntKind.i64.wrap ((k : Int) - 1) = (k' : Int) := by rw [show (k : Int) - 1 = (k' : Int) by omega]; exact wrapIn (by omega) (by omega)
              have HK1 : Hid (k' + 1 = k) := hk'
              have i1 : k' < ys.length := by rw [HY.out.2.2.2]; omega
              have i2 : k < ys.length := by rw [HY.out.2.2.2]; exact hlt
              have hkk : k' < N := by omega
              have HKV := srt_lt HY.out.2.1 HY.out.2.2.1 i1 i2 (by omega)
              obtain ⟨p0, p1⟩ := (HY.out.1.stay hbw).cells i1
              obtain ⟨q0, q1⟩ := (HY.out.1.stay hbw).cells i2
              generalize ys[k'] = x at HKV p0 p1
              generalize ys[k] = y at HKV q0 q1
              obtain ⟨x1, x2⟩ := x
              obtain ⟨y1, y2⟩ := y
              have HBQ : Hid (Below w1.heap.size w1 wr) := hbw
              clear hbw i1 i2 hk'
              simp only at p0 p1 q0 q1
              go_wp2_with fail
              go_region_held3 (fun w' => w'.cell? ⟨g1, k' * 2, none⟩ = some (.int .i64 x1) ∧ w'.cell? ⟨g1, k' * 2 + 1, none⟩ = some (.int .i64 x2) ∧ w'.cell? ⟨g1, k * 2, none⟩ = some (.int .i64 y1) ∧ w'.cell? ⟨g1, k * 2 + 1, none⟩ = some (.int .i64 y2))
                (first | go_keep | (exact ⟨cell_stay hbs p0, cell_stay hbs p1, cell_stay hbs q0, cell_stay hbs q1⟩))
                (first | (go_at_call 30; refine (kvLess_any x1 x2 y1 y2 _).mono ?_; rintro e ws ⟨rfl, hbs⟩))
              have hbs2 : Hid (Below w1.heap.size w1 ws) := HBQ.out.trans ((((Below.refl wr.heap.size wr).drew).trans (hbs.mono (show wr.heap.size ≤ wr.drew.heap.size from Nat.le_refl _))).mono HBQ.out.size)
              clear hbs p0 p1 q0 q1 HBQ hkm
              go_wp2
              go_roundw
              case rel => exact ⟨k + 1, by omega, by omega, by go_num, hbs2.out⟩
              case measure => simp [intOf]; omega
            · have HBQ : Hid (Below w1.heap.size w1 wr) := hbw
              have hc1 := cell_stay hbw (cell_stay HBW.out hcell)
              clear hbw
              go_wp2
              clear hc1 hlt hk hk0
              go_loopw [164] (fun i wq => ∃ k : Nat, k ≤ n ∧ i = .int .i64 k ∧ Below w1.heap.size w1 wq) (fun i _ => n - (intOf i).toNat)
              case atStart => exact ⟨0, by omega, rfl, HBQ.out⟩
              case round =>
                clear HBQ
                obtain ⟨k, hk, rfl, hbw⟩ := hrel
                by_cases hlt : k < n
                · have hk1 : k < ss.length := by have := HL.out; omega
                  obtain ⟨b1, o1, u, rfl, hu, ht⟩ := HS.out k hk1
                  have HM : Hid (ss[k] ∈ ss) := List.getElem_mem hk1
                  generalize ss[k] = s at ht HM
                  obtain ⟨ht0, ta, tc, rfl, ht⟩ := ht
                  have HT : Hid (∀ i (h : i < s.length), ∃ b off u, ta = some ⟨b, off, none⟩ ∧ TxAt w b (off + i * 2) u s[i]) := ht
                  obtain ⟨n2, hn2⟩ : ∃ n2, n2 = s.length := ⟨_, rfl⟩
                  rw [← hn2] at hu ht0
                  have HL2 : Hid (n2 = s.length) := hn2
                  clear ht hn2
                  unfold small at ht0
                  have hc1 := cell_stay hbw (cell_stay HBW.out hcell)
                  have hc2 := cell_stay hbw (cell_stay HBW.out hu)
                  have HBQ : Hid (Below w1.heap.size w1 wr) := hbw
                  clear hbw
                  go_wp2
                  clear hc1 hc2
                  go_loopw [176] (fun i wq => ∃ j : Nat, j ≤ n2 ∧ i = .int .i64 j ∧ Below w1.heap.size w1 wq) (fun i _ => n2 - (intOf i).toNat)
                  case atStart => exact ⟨0, by omega, rfl, HBQ.out⟩
                  case round =>
                    clear HBQ
                    obtain ⟨j, hj, rfl, hbw⟩ := hrel
                    by_cases hlt2 : j < n2
                    · have hj1 : j < s.length := by have := HL2.out; omega
                      obtain ⟨b2, o2, u2, rfl, hT2⟩ := HT.out j hj1
                      have HM2 : Hid (s[j] ∈ s) := List.getElem_mem hj1
                      generalize s[j] = t at hT2 HM2
                      obtain ⟨es, cm⟩ := t
                      obtain ⟨ca, cb, hev⟩ := hT2
                      simp only at ca cb hev
                      obtain ⟨he0, ea, ec, rfl, he⟩ := hev
                      have HE : Hid (∀ i (h : i < es.length), ∃ b off, ea = some ⟨b, off, none⟩ ∧ EvAt w b (off + i * 4) es[i]) := he
                      obtain ⟨n3, hn3⟩ : ∃ n3, n3 = es.length := ⟨_, rfl⟩
                      rw [← hn3] at ca he0
                      have HL3 : Hid (n3 = es.length) := hn3
                      clear he hn3
                      unfold small at he0
                      have hc1 := cell_stay hbw (cell_stay HBW.out ca)
                      have HBQ : Hid (Below w1.heap.size w1 wr) := hbw
                      clear hbw
                      go_wp2
                      clear hc1
                      go_loopw [186] (fun i wq => ∃ m : Nat, m ≤ n3 ∧ i = .int .i64 m ∧ Below w1.heap.size w1 wq) (fun i _ => n3 - (intOf i).toNat)
                      case atStart => exact ⟨0, by omega, rfl, HBQ.out⟩
                      case round =>
                        clear HBQ
                        obtain ⟨m, hm, rfl, hbw⟩ := hrel
                        by_cases hlt3 : m < n3
                        · have hm1 : m < es.length := by have := HL3.out; omega
                          obtain ⟨b3, o3, rfl, hE3⟩ := HE.out m hm1
                          have HM3 : Hid (es[m] ∈ es) := List.getElem_mem hm1
                          generalize es[m] = e at hE3 HM3
                          have HES := HW.out.src _ HM.out _ HM2.out _ HM3.out
                          obtain ⟨ew, ek, en, ei⟩ := e
                          obtain ⟨d0, d1, d2, d3, _, _⟩ := (hE3.stay HBW.out).stay hbw
                          simp only at d0 d1 d2 d3 HES
                          clear hE3
                          have hsz2 := hbw.size
                          have HBQ : Hid (Below w1.heap.size w1 wr) := hbw
                          have l1 := cell_lt d0
                          simp only at l1
                          clear hbw
                          cases ew
                          · cases ei
                            · obtain ⟨idx, hix, hxe⟩ := List.getElem_of_mem (HPm.out.mem_iff.2 (HES rfl rfl))
                              have HX : Hid (∀ z (hz : z < ys.length), kvL ys[z] (ek, en) = decide (z < idx)) := by have := srt_find HY.out.2.1 HY.out.2.2.1 hix; rw [hxe] at this; exact this
                              have HXE : Hid (∃ hix : idx < ys.length, ys[idx] = (ek, en)) := ⟨hix, hxe⟩
                              clear HES hix hxe
                              have hbl : Hid (∀ o, Below w1.heap.size w1 (wr.alloc o)) := fun o => HBQ.out.alloc hsz2 o
                              go_wp2_with fail
                              refine (hasKV_any g1 c1 N idx ys ek en _ (HY.out.1.stay (hbl.out _)) HY.out.2.2.2.symm HN.out HXE.out.1 HXE.out.2 HX.out).mono ?_
                              rintro e w2 ⟨rfl, hb2⟩
                              have HB2 : Hid (Below w1.heap.size w1 w2) := (hbl.out _).trans (hb2.mono (hbl.out _).size)
                              clear hb2 hbl d0 d1 d2 d3
                              go_wp2
                              go_roundw
                              case rel => exact ⟨m + 1, by omega, by go_num, HB2.out⟩
                              case measure => simp [intOf]; omega
                            · clear HES
                              go_wp2
                              go_roundw
                              case rel => exact ⟨m + 1, by omega, by go_num, HBQ.out.alloc hsz2 _⟩
                              case measure => simp [intOf]; omega
                          · clear HES
                            go_wp2
                            go_roundw
                            case rel => exact ⟨m + 1, by omega, by go_num, HBQ.out.alloc hsz2 _⟩
                            case measure => simp [intOf]; omega
                        · have HBQ : Hid (Below w1.heap.size w1 wr) := hbw
                          clear hbw
                          go_wp2
                          go_roundw
                          case rel => exact ⟨j + 1, by omega, by go_num, HBQ.out⟩
                          case measure => simp [intOf]; omega
                    · have HBQ : Hid (Below w1.heap.size w1 wr) := hbw
                      clear hbw
                      go_wp2
                      go_roundw
                      case rel => exact ⟨k + 1, by omega, by go_num, HBQ.out⟩
                      case measure => simp [intOf]; omega
                · have HBQ : Hid (Below w1.heap.size w1 wr) := hbw
                  clear hbw
                  go_wp2
                  go_ret
                  exact ⟨rfl, HBW.out.trans (HBQ.out.mono HBW.out.size)⟩
end Go.Proofs.Qxb6000864a
