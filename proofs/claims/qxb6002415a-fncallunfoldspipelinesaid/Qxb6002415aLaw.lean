import Derived.Test.Qxb6002415aStages
import Derived.Deep.DeepCutAuto
import Derived.Deep.CutBlock
import Derived.OpenShut
namespace Go.Proofs.Qxb6002415a
open Go.RowKit
def IsRow (k : IntKind) (w : World) (a : Option Addr) (len cap : Nat) (zs : List Int) : Prop :=
  (a = none ∧ len = 0 ∧ cap = 0 ∧ zs = []) ∨
  ∃ x, a = some x ∧ len ≤ cap ∧ cap ≤ maxLen ∧ zs.length = cap ∧ (∀ i, i < zs.length → w.cell? (x.add i) = some (.int k (zs.getD i 0))) ∧ ∀ n ∈ zs, (Lit.int k n).wf = true
theorem node_of {w : World} {nb i : Nat} {xs : List Int} {v : Value} (h : NodesAt w nb xs) (hi : i < xs.length) (hc : w.cell? ⟨nb, i, none⟩ = some v) : NodeAt w v xs[i] ((i : Int) + 1) := by
  obtain ⟨v', hc', hn⟩ := h i hi
  rw [hc] at hc'
  injection hc' with e
  subst e
  exact hn
theorem node_guard {w : World} {v : Value} {k st : Int} (h : NodeAt w v k st) : ∀ x y w, (eqGuard .eql 29 x y v .nilIface).run Try.prog w = .ok () w := by
  obtain ⟨b, _, ⟨_, rfl, h4⟩ | ⟨_, rfl, h4, _⟩ | ⟨_, rfl, h4⟩⟩ := h <;> exact fun _ _ _ => rfl
theorem wrapIn {x : Int} (h1 : -9223372036854775808 ≤ x) (h2 : x ≤ 9223372036854775807) : IntKind.i64.wrap x = x := by
  rw [IntKind.wrap_i64]
  omega
theorem blk_some (a : Addr) (w : World) : (binOp .eql 29 (.iface 25 (.pointer (some a))) .nilIface).run Try.prog w = .ok (.bool false) w := rfl
/-- the copy of ops: n bytes. -/
def CpAt (w : World) (ca : Option Addr) (n : Nat) (zs : List Int) : Prop :=
  zs.length = n ∧ (∀ z ∈ zs, 0 ≤ z ∧ z ≤ 255) ∧ ∀ i, i < n → ∃ cb, ca = some ⟨cb, 0, none⟩ ∧ w.cell? ⟨cb, i, none⟩ = some (.int .u8 (zs.getD i 0))
set_option maxRecDepth 100000 in
set_option maxHeartbeats 8000000 in
theorem law_walk (a0 : Option Addr) (n cap0 : Nat) (z0 : List Int) (pad : ByteArray) (w : World) (w0 : IsRow .u8 w a0 n cap0 z0) (w1 : pad.size ≤ maxLen) :
    Calls Try.prog 3 #[.slice a0 n cap0, .string pad] w fun e w' => e = .returned (.bool true) ∧ Below w.heap.size w w' := by
  have hn : n ≤ maxLen := by
    rcases w0 with ⟨_, rfl, _⟩ | ⟨_, _, h1, h2, _⟩
    · exact Nat.zero_le _
    · omega
  have HBY : Hid (∀ w, Calls Try.prog 4 #[.slice a0 n cap0, .string pad] w fun e w' => e = .returned (.bool (decide (n + pad.size ≤ 1048576))) ∧ w' = w) := fun w => zzBytes_any a0 n cap0 pad w hn w1
  have HW0 : Hid (IsRow .u8 w a0 n cap0 z0) := w0
  clear w0
  unfold maxLen at w1 hn
  by_cases hsum : n + pad.size ≤ 1048576
  · have hd1 : decide (n + pad.size ≤ 1048576) = true := by simpa using hsum
    rw [hd1] at HBY
    clear hd1
    by_cases hn64 : n ≤ 64
    · by_cases hp : pad.size ≤ 65536
      · have q22 : ∀ (w : World) (a : Option Addr) (n c n' c' : Nat), (binOp .neq 22 (.slice a n c) (.slice none n' c')).run Try.prog w = .ok (.bool (!a.isNone)) w := fun w a n c n' c' => run_neq_slice_nil_any w _ _ a n c n' c' Try.underlying22
        go_enter Try.func3, Try.ntmps3
        go_wp2_with fail
        refine (HBY.out _).mono ?_
        rintro e w' ⟨rfl, rfl⟩
        go_upto_if 46 with fail
        go_cut [5] (fun q wc => ∃ ca cc zs, q = .slice ca n cc ∧ CpAt wc ca n zs ∧ Below w'.heap.size w' wc)
        case first =>
          rcases HW0.out with ⟨rfl, rfl, rfl, _⟩ | ⟨x, rfl, hl0, hm0, hz0, hcz, hwz⟩
          · go_wp2
            go_meet
            case rel => exact ⟨none, 0, [], rfl, ⟨rfl, fun z h => by simp at h, fun i h => absurd h (by omega)⟩, Below.refl _ _⟩
          · have HZ0 : Hid (z0.length = cap0) := hz0
            have HCZ : Hid (∀ i, i < z0.length → w'.cell? (x.add i) = some (.int .u8 (z0.getD i 0))) := hcz
            have HWZ : Hid (∀ n ∈ z0, (Lit.int .u8 n).wf = true) := hwz
            clear hz0 hcz hwz
            have hmk := run_make_row' (P := Try.prog) 22 5 (.int .u8 0) 1 Try.underlying22 info5 rfl .i64 .i64 n (by omega) (by omega)
            go_wp2
            clear hmk
            go_loopw [6] (fun i wr => ∃ (k : Nat) (xs : List Int), k ≤ n ∧ i = .int .i64 k ∧ xs.length = n ∧ (∀ z ∈ xs, 0 ≤ z ∧ z ≤ 255) ∧ URow wr w'.heap.size xs ∧ Below w'.heap.size w' wr) (fun i _ => n - (intOf i).toNat)
            case atStart => exact ⟨0, List.replicate n 0, by omega, rfl, by simp, fun z hz => by rw [List.eq_of_mem_replicate hz]; omega, URow.made w' n, below_alloc w' _⟩
            case round =>
              obtain ⟨k, xs, hk, rfl, hx, h255, hU, hbw⟩ := hrel
              have HX : Hid (xs.length = n) := hx
              have H255 : Hid (∀ z ∈ xs, 0 ≤ z ∧ z ≤ 255) := h255
              have HU : Hid (URow wr w'.heap.size xs) := hU
              have HBW : Hid (Below w'.heap.size w' wr) := hbw
              clear h255 hbw
              by_cases hlt : k < n
              · have hkx : k < xs.length := by omega
                have c0 := hU.cell hkx
                have f0 := hU.frozen k
                have hkz : k < z0.length := by have := HZ0.out; omega
                have cz := cell_stay HBW.out (HCZ.out k hkz)
                have hzw := HWZ.out (z0.getD k 0) (by simp [List.getD, hkz])
                generalize z0.getD k 0 = z at cz hzw
                have HZW : Hid (0 ≤ z ∧ z ≤ 255) := bounds_u8 hzw
                clear hU hx hzw
                go_wp2
                case roundEnd => exact ⟨⟨k + 1, xs.set k z, by omega, by go_num, by rw [List.length_set]; exact HX.out, fun y hy => (List.mem_or_eq_of_mem_set hy).elim (H255.out y) (fun e => by rw [e]; exact HZW.out), HU.out.set hkx z, HBW.out.setCell (Nat.le_refl _) _⟩, by simp [intOf]; omega⟩
              · clear hU hx
                go_wp2
                go_meet
                case rel => exact ⟨some ⟨w'.heap.size, 0, none⟩, n, xs, rfl, ⟨HX.out, H255.out, fun i hi => ⟨w'.heap.size, rfl, HU.out.cell (by rw [HX.out]; exact hi)⟩⟩, HBW.out⟩
        case rest =>
          obtain ⟨ca, cc, zs, rfl, hCp, hbc⟩ := hcut
          have HCP : Hid (CpAt wc ca n zs) := hCp
          have HBC : Hid (Below w'.heap.size w' wc) := hbc
          clear hCp hbc HBY HW0
          have hmk := run_make_row' (P := Try.prog) 22 5 (.int .u8 0) 1 Try.underlying22 info5 rfl .i64 .i64 n (by omega) (by omega)
          go_wp2
          clear hmk
          go_loopw [9] (fun i wr => ∃ (k : Nat) (xs : List Int), k ≤ n ∧ i = .int .i64 k ∧ xs.length = n ∧ (∀ z ∈ xs, z = 0 ∨ z = 1 ∨ z = 2) ∧ URow wr wc.heap.size xs ∧ Below wc.heap.size wc wr) (fun i _ => n - (intOf i).toNat)
          case atStart => exact ⟨0, List.replicate n 0, by omega, rfl, by simp, fun z hz => .inl (List.eq_of_mem_replicate hz), URow.made wc n, below_alloc wc _⟩
          case round =>
            obtain ⟨k, xs, hk, rfl, hx, h3, hU, hbw⟩ := hrel
            have HX : Hid (xs.length = n) := hx
            have H3 : Hid (∀ z ∈ xs, z = 0 ∨ z = 1 ∨ z = 2) := h3
            have HU : Hid (URow wr wc.heap.size xs) := hU
            have HBW : Hid (Below wc.heap.size wc wr) := hbw
            clear h3 hbw
            by_cases hlt : k < n
            · have hkx : k < xs.length := by omega
              have c0 := hU.cell hkx
              have f0 := hU.frozen k
              obtain ⟨cb, rfl, cz⟩ := HCP.out.2.2 k hlt
              have cz' := cell_stay HBW.out cz
              have hzw := HCP.out.2.1 (zs.getD k 0) (by have := HCP.out.1; simp [List.getD, this, hlt])
              generalize zs.getD k 0 = z at cz cz' hzw
              obtain ⟨hz1, hz2⟩ := hzw
              clear hU hx cz
              go_wp2
              case roundEnd => exact ⟨⟨k + 1, xs.set k (z % 3), by omega, by go_num, by rw [List.length_set]; exact HX.out, fun y hy => (List.mem_or_eq_of_mem_set hy).elim (H3.out y) (fun e => by omega), HU.out.set hkx _, HBW.out.setCell (Nat.le_refl _) _⟩, by simp [intOf]; omega⟩
            · clear hU hx
              go_wp2_with fail
              refine (zzSrc_any pad (n + 1) _ hp (by omega)).mono ?_
              rintro e ws ⟨src, rfl, hsrc, hbs⟩
              have HSRC : Hid (src.size = n + 1) := hsrc
              have HUS : Hid (URow ws wc.heap.size xs) := HU.out.stay hbs
              have HBS : Hid (Below w'.heap.size w' ws) := (HBC.out.trans (HBW.out.mono HBC.out.size)).trans (hbs.mono (Nat.le_trans HBC.out.size HBW.out.size))
              clear hsrc hbs HU HBW HCP HBC
              go_wp2_with fail
              refine (zzRoot_any wc.heap.size n n xs src _ HUS.out HX.out.symm hn64 (fun i hi => H3.out _ (List.getElem_mem hi))).mono ?_
              rintro e wb ⟨rb, nb, nc, rfl, hnc, hncm, hroot, hnodes, hbb⟩
              have HRT : Hid (BlkAt wb rb src src.size (some ⟨nb, 0, none⟩) n nc false) := hroot
              have HND : Hid (NodesAt wb nb xs) := hnodes
              have HUB : Hid (URow wb wc.heap.size xs) := HUS.out.stay hbb
              have HBB : Hid (Below w'.heap.size w' wb) := HBS.out.trans (hbb.mono HBS.out.size)
              clear hroot hnodes hbb HUS HBS
              have hmk : ∀ w, (Instr.makeSlice 27 (.int .i64 0) (.int .i64 ((n : Int) + 1))).run Try.prog w = .ok (.slice (some ⟨w.heap.size, 0, none⟩) 0 (n + 1)) (w.alloc (.cells (madeCells #[.int .i64 0] (n + 1)) 3)) := make_row0 (P := Try.prog) 27 3 (.int .i64 0) 8 Try.underlying27 info3 rfl (n + 1) (by omega) (by omega)
              obtain ⟨i0, hi0, hz0, hz1, hz2⟩ := info_parts info3
              go_wp2
              clear hmk hlt
              go_loopw [12, 13, 14, 15] (fun q1 q2 q3 q4 wr => ∃ (i g1 c1 g2 c2 bg : Nat) (S E : List Nat), i ≤ n ∧ q1 = .slice (some ⟨g1, 0, none⟩) S.length c1 ∧ q2 = .slice (some ⟨g2, 0, none⟩) E.length c2 ∧ q3 = .int .i64 bg ∧ q4 = .int .i64 i ∧ PS xs i S E bg ∧ Two wb wr g1 c1 g2 c2 S E) (fun _ _ _ i _ => n - (intOf i).toNat)
              case atStart => exact ⟨0, wb.heap.size, n + 1, wb.heap.size + 1, n + 1, 0, [], [], by omega, rfl, rfl, rfl, rfl, PS.start xs, Two.start wb (n + 1) (by omega)⟩
              case round =>
                obtain ⟨i, g1, c1, g2, c2, bg, S, E, hi, rfl, rfl, rfl, rfl, hPS, hTw⟩ := hrel
                have HPS : Hid (PS xs i S E bg) := hPS
                have HTW : Hid (Two wb wr g1 c1 g2 c2 S E) := hTw
                have hEl := hPS.len
                have hfew := hPS.few
                have hbgl : bg ≤ i := by rw [hPS.bgl]; exact lastN_le xs i
                have hwbs := hTw.bel.size
                clear hPS hTw
                generalize hSl : S.length = ln
                rw [hSl] at hEl hfew
                rw [hEl]
                have HSL : Hid (S.length = ln ∧ E.length = ln) := ⟨hSl, hEl⟩
                clear hSl hEl
                have ho1 : Hid (wr.ownsRow wb.heap.size 3 1 (.slice (some ⟨g1, 0, none⟩) ln c1) ln (S.map nV)) := by have := HTW.out.r1; rw [HSL.out.1] at this; exact this
                have ho2 : Hid (wr.ownsRow wb.heap.size 3 1 (.slice (some ⟨g2, 0, none⟩) ln c2) ln (E.map nV)) := by have := HTW.out.r2; rw [HSL.out.2] at this; exact this
                by_cases hlt : i < n
                · have hix : i < xs.length := by have := HX.out; omega
                  have ck := (HUB.out.stay HTW.out.bel).cell hix
                  by_cases hx1 : xs.getD i 0 = 1
                  · have HX1 : Hid (xs.getD i 0 = 1) := hx1
                    rw [hx1] at ck
                    clear hx1
                    go_wp2_with (first | (at_builtin; refine wpList_append_lies _ rfl _ _ 27 rfl wb.heap.size 3 i0 _ 1 8 Try.underlying27 hi0 hz0 hz1 hz2 rfl (by decide) (.slice (some ⟨g1, 0, none⟩) ln c1) ln (S.map nV) rfl (ho1.out.alloc _) ⟨wr.heap.size, 0, none⟩ 1 1 [.int .i64 (bg : Int)] rfl rfl (World.news_of_block (cs := #[.int .i64 (bg : Int)]) (t := 3) (fr := (0, 0)) (heap_alloc_new wr _)) (by simp [Value.oneCell']) (by decide) (by unfold maxLen; omega) (by omega) (by simp; omega) (wr.heap.size + 1) (by simp) ?_; intro ga ca1 wa hown hgrow hat hltg; have HTW1 : Hid (Two wb wa ga ca1 g2 c2 (S ++ [bg]) E) := HTW.out.app1 HSL.out.1 hown hgrow (by simpa [Value.ownBlock] using hat); have ho3 : Hid (wa.ownsRow wb.heap.size 3 1 (.slice (some ⟨g2, 0, none⟩) ln c2) ln (E.map nV)) := (by have := HTW1.out.r2; rw [HSL.out.2] at this; exact this); have hwa : wb.heap.size ≤ wa.heap.size := HTW1.out.bel.size; clear hown hgrow hat hltg) | (at_builtin; refine wpList_append_lies _ rfl _ _ 27 rfl wb.heap.size 3 i0 _ 1 8 Try.underlying27 hi0 hz0 hz1 hz2 rfl (by decide) (.slice (some ⟨g2, 0, none⟩) ln c2) ln (E.map nV) rfl (ho3.out.alloc _) ⟨wa.heap.size, 0, none⟩ 1 1 [.int .i64 (i : Int)] rfl rfl (World.news_of_block (cs := #[.int .i64 (i : Int)]) (t := 3) (fr := (0, 0)) (heap_alloc_new wa _)) (by simp [Value.oneCell']) (by decide) (by unfold maxLen; omega) (by omega) (by simp; omega) (wa.heap.size + 1) (by simp) ?_; intro gb cb2 wz hown hgrow hat hltg; have HTW2 : Hid (Two wb wz ga ca1 gb cb2 (S ++ [bg]) (E ++ [i])) := HTW1.out.app2 HSL.out.2 hown hgrow (by simpa [Value.ownBlock] using hat); clear hown hgrow hat hltg))
                    go_roundw
                    case rel => exact ⟨i + 1, ga, ca1, gb, cb2, i + 1, S ++ [bg], E ++ [i], by omega, by rw [List.length_append, HSL.out.1]; rfl, by rw [List.length_append, HSL.out.2]; rfl, by go_num, by go_num, HPS.out.pipe HX1.out, HTW2.out⟩
                    case measure => simp [intOf]; omega
                  · have HX1 : Hid (¬ xs.getD i 0 = 1) := hx1
                    have hx1b : (xs.getD i 0 == 1) = false := by simpa using hx1
                    clear hx1
                    generalize xs.getD i 0 = x at ck hx1b
                    go_wp2
                    go_roundw
                    case rel => exact ⟨i + 1, g1, c1, g2, c2, bg, S, E, by omega, by rw [HSL.out.1], by rw [HSL.out.2], rfl, by go_num, HPS.out.other HX1.out, HTW.out⟩
                    case measure => simp [intOf]; omega
                · have hin : i = n := by omega
                  subst hin
                  go_wp2_with (first | (at_builtin; refine wpList_append_lies _ rfl _ _ 27 rfl wb.heap.size 3 i0 _ 1 8 Try.underlying27 hi0 hz0 hz1 hz2 rfl (by decide) (.slice (some ⟨g1, 0, none⟩) ln c1) ln (S.map nV) rfl (ho1.out.alloc _) ⟨wr.heap.size, 0, none⟩ 1 1 [.int .i64 (bg : Int)] rfl rfl (World.news_of_block (cs := #[.int .i64 (bg : Int)]) (t := 3) (fr := (0, 0)) (heap_alloc_new wr _)) (by simp [Value.oneCell']) (by decide) (by unfold maxLen; omega) (by omega) (by simp; omega) (wr.heap.size + 1) (by simp) ?_; intro ga ca1 wa hown hgrow hat hltg; have HTW1 : Hid (Two wb wa ga ca1 g2 c2 (S ++ [bg]) E) := HTW.out.app1 HSL.out.1 hown hgrow (by simpa [Value.ownBlock] using hat); have ho3 : Hid (wa.ownsRow wb.heap.size 3 1 (.slice (some ⟨g2, 0, none⟩) ln c2) ln (E.map nV)) := (by have := HTW1.out.r2; rw [HSL.out.2] at this; exact this); have hwa : wb.heap.size ≤ wa.heap.size := HTW1.out.bel.size; clear hown hgrow hat hltg) | (at_builtin; refine wpList_append_lies _ rfl _ _ 27 rfl wb.heap.size 3 i0 _ 1 8 Try.underlying27 hi0 hz0 hz1 hz2 rfl (by decide) (.slice (some ⟨g2, 0, none⟩) ln c2) ln (E.map nV) rfl (ho3.out.alloc _) ⟨wa.heap.size, 0, none⟩ 1 1 [.int .i64 (i : Int)] rfl rfl (World.news_of_block (cs := #[.int .i64 (i : Int)]) (t := 3) (fr := (0, 0)) (heap_alloc_new wa _)) (by simp [Value.oneCell']) (by decide) (by unfold maxLen; omega) (by omega) (by simp; omega) (wa.heap.size + 1) (by simp) ?_; intro gb cb2 wz hown hgrow hat hltg; have HTW2 : Hid (Two wb wz ga ca1 gb cb2 (S ++ [bg]) (E ++ [i])) := HTW1.out.app2 HSL.out.2 hown hgrow (by simpa [Value.ownBlock] using hat); clear hown hgrow hat hltg))
                  have HFIN : Hid (Fin xs i (S ++ [bg]) (E ++ [i])) := HPS.out.done
                  have HSL2 : Hid ((S ++ [bg]).length = ln + 1 ∧ (E ++ [i]).length = ln + 1) := ⟨by rw [List.length_append, HSL.out.1]; rfl, by rw [List.length_append, HSL.out.2]; rfl⟩
                  have HRZ : Hid (BlkAt wz rb src src.size (some ⟨nb, 0, none⟩) i nc false) := HRT.out.stay HTW2.out.bel
                  have HNZ : Hid (NodesAt wz nb xs) := HND.out.stay HTW2.out.bel
                  have HBZ : Hid (Below w'.heap.size w' wz) := HBB.out.trans (HTW2.out.bel.mono HBB.out.size)
                  generalize S ++ [bg] = SS at HFIN HTW2 HSL2
                  generalize E ++ [i] = EE at HFIN HTW2 HSL2
                  clear HPS HTW HSL ho1 ho2 ho3 HTW1 hwa hwbs hbgl HRT HND HUB HBB hi hlt hk H3 hi0 hz0 hz1 hz2 i0 q22
                  go_loopw [17, 18] (fun q z wr => ∃ (j cb tt : Nat) (pp : Bool), j < ln + 1 ∧ q = .pointer (some ⟨cb, 0, none⟩) ∧ z = .int .i64 j ∧ BlkAt wr cb src tt (some ⟨nb, 0, none⟩) (EE.getD j 0) nc pp ∧ Below wz.heap.size wz wr) (fun _ z _ => (intOf z).toNat)
                  case atStart => exact ⟨ln, rb, src.size, false, by omega, rfl, rfl, by have := HFIN.out.fin; rw [HSL2.out.1] at this; rw [show ln = ln + 1 - 1 by omega, this]; exact HRZ.out, Below.refl _ _⟩
                  case round =>
                    obtain ⟨j, cb, tt, pp, hj, rfl, rfl, hBk, hbw⟩ := hrel
                    have HBK : Hid (BlkAt wr cb src tt (some ⟨nb, 0, none⟩) (EE.getD j 0) nc pp) := hBk
                    have HBW : Hid (Below wz.heap.size wz wr) := hbw
                    clear hBk hbw
                    have hj1 : j < SS.length := by rw [HSL2.out.1]; exact hj
                    have hmi : EE.getD j 0 ≤ i := HFIN.out.le j hj1
                    have hlst := HFIN.out.lst j hj1
                    have hsle : SS.getD j 0 ≤ EE.getD j 0 := by rw [hlst]; exact lastN_le _ _
                    have hge : decide ((0 : Int) ≤ (j : Int)) = true := by simp
                    go_wp2_with fail
                    refine (call_any cb tt nb (EE.getD j 0) nc src pp xs _ HBK.out (HNZ.out.stay HBW.out) (by have := HX.out; omega) (by omega) (by omega) hncm).mono ?_
                    rintro e w1' ⟨hout, hb1⟩
                    rw [← hlst] at hout
                    clear hlst
                    have HB1 : Hid (Below wz.heap.size wz w1') := HBW.out.trans (hb1.mono HBW.out.size)
                    have HBr : Hid (Below wr.heap.size wr w1') := hb1
                    have HTx : Hid (Two wb w1' ga ca1 gb cb2 SS EE) := HTW2.out.below HB1.out
                    have HR1 : Hid (BlkAt w1' rb src src.size (some ⟨nb, 0, none⟩) i nc false) := HRZ.out.stay HB1.out
                    have HN1 : Hid (NodesAt w1' nb xs) := HNZ.out.stay HB1.out
                    have ks := HTx.out.cell1 hj1
                    have ke := HTx.out.cell2 (show j < EE.length by rw [HSL2.out.2]; exact hj)
                    have ks0 := HTx.out.cell1 (show 0 < SS.length by omega)
                    have ke0 := HTx.out.cell2 (show 0 < EE.length by rw [HSL2.out.2]; omega)
                    have HONE := HFIN.out.one hj1
                    have HTWO := HFIN.out.two
                    have HS0 := HFIN.out.s0
                    have HNX := HFIN.out.nxt
                    rw [HSL2.out.1] at HTWO HNX
                    clear hb1 hj1
                    obtain ⟨m, hm⟩ : ∃ m, m = EE.getD j 0 := ⟨_, rfl⟩
                    obtain ⟨st, hst⟩ : ∃ st, st = SS.getD j 0 := ⟨_, rfl⟩
                    obtain ⟨e0, he0⟩ : ∃ e0, e0 = EE.getD 0 0 := ⟨_, rfl⟩
                    obtain ⟨s0, hs0⟩ : ∃ s0, s0 = SS.getD 0 0 := ⟨_, rfl⟩
                    rw [← hm] at hout ke hmi hsle HBK
                    rw [← hst] at hout ks hsle HONE
                    rw [← he0] at ke0 HONE HTWO
                    rw [← hs0] at ks0 HONE HTWO HS0
                    by_cases hsm : st = m
                    · obtain ⟨eb, rfl⟩ := hout.1 (.inl hsm)
                      have hq : ((m : Int) == (st : Int)) = true := by simp [hsm]
                      have herr := err_some eb
                      clear hout hsm HONE HTWO HS0 HNX hm hst he0 hs0
                      go_wp2_with fail
                      go_quiet (fail)
                      go_wp2_with fail
                      refine (intact_any rb src _ (by exact HR1.out.c0) (by exact HR1.out.c1) (by exact HR1.out.c2) (by exact HR1.out.c3) (by exact HR1.out.c6)).mono ?_
                      rintro e w2 ⟨rfl, q, rfl⟩
                      go_wp2
                      go_ret
                      exact ⟨rfl, HBZ.out.trans ((below_drewN HB1.out _).mono HBZ.out.size)⟩
                    by_cases hs1 : st = 1
                    · obtain ⟨eb, rfl⟩ := hout.1 (.inr hs1)
                      obtain ⟨hj1, h00⟩ := HONE hs1
                      have hq : ((m : Int) == (st : Int)) = false := by simp; omega
                      have hjq : ((j : Int) == 1) = true := by simp [hj1]
                      have hq0 : ((e0 : Int) == (s0 : Int)) = true := by simp [h00]
                      have herr := err_some eb
                      clear hout hsm hs1 hj1 h00 HONE HTWO HS0 HNX hm hst he0 hs0
                      go_wp2_with fail
                      go_quiet (fail)
                      go_wp2_with fail
                      refine (intact_any rb src _ (by exact HR1.out.c0) (by exact HR1.out.c1) (by exact HR1.out.c2) (by exact HR1.out.c3) (by exact HR1.out.c6)).mono ?_
                      rintro e w2 ⟨rfl, q, rfl⟩
                      go_wp2
                      go_ret
                      exact ⟨rfl, HBZ.out.trans ((below_drewN HB1.out _).mono HBZ.out.size)⟩
                    clear HONE
                    have hq : ((m : Int) == (st : Int)) = false := by simp; omega
                    obtain ⟨r, hr⟩ : ∃ r, m = st + r + 1 := ⟨m - st - 1, by omega⟩
                    obtain ⟨d, hd⟩ : ∃ d, d = m - st := ⟨_, rfl⟩
                    have hw1 : IntKind.i64.wrap ((st : Int) + 1) = (st : Int) + 1 := wrapIn (by omega) (by omega)
                    have hw2 : IntKind.i64.wrap ((m : Int) - (st : Int)) = (d : Int) := by rw [wrapIn (by omega) (by omega)]; omega
                    have hw3 : IntKind.i64.wrap ((d : Int) - 1) = (r : Int) := by rw [wrapIn (by omega) (by omega)]; omega
                    have hw2' : (m : Int) - (st : Int) = (d : Int) := by omega
                    have hw3' : (d : Int) - 1 = (r : Int) := by omega
                    have hr64 : r ≤ 64 := by omega
                    have hst64 : st ≤ 64 := by omega
                    have HRM : Hid (m = st + r + 1) := hr
                    have hsm' : Hid (¬ st = m ∧ ¬ st = 1) := ⟨hsm, hs1⟩
                    have herr := err_none
                    clear hsm hs1 hd
                    have HJB : Hid (((j : Int) == 1) = false ∨ (((j : Int) == 1) = true ∧ ((e0 : Int) == (s0 : Int)) = false)) := by
                      by_cases h1 : j = 1
                      · refine .inr ⟨by simp [h1], ?_⟩
                        have : ¬ e0 = s0 := fun h => hsm'.out.2 (by rw [hst, h1]; exact HTWO (by omega) h)
                        simp
                        omega
                      · refine .inl ?_
                        simp
                        omega
                    by_cases hj0 : j = 0
                    · have hst0 : st = 0 := by rw [hst, hj0]; omega
                      obtain ⟨v, ao, ac, hao, cv, rfl⟩ := hout.2.1 hst0 (by omega)
                      have hm1 : m - 1 = r := by omega
                      rw [hm1]
                      have HAO : Hid (0 < r → ao = 1) := fun h => hao (by omega)
                      obtain ⟨kd, hnv⟩ : ∃ kd, NodeAt w1' v kd ((st : Int) + 1) := by
                        have := node_of (HNZ.out.stay HBW.out) (by have := HX.out; omega) cv
                        rw [hst0]
                        exact ⟨_, NodeIn.stay this HBr.out⟩
                      have hjq : ((j : Int) == 1) = false := by simp; omega
                      have hjz : ((j : Int) == 0) = true := by simp; omega
                      have hjp : decide (0 < j) = false := by simp; omega
                      have HST0 : Hid (st = 0) := hst0
                      have hvn := node_some hnv
                      have hvg := node_guard hnv
                      have HNV : Hid (NodeAt w1' v kd ((st : Int) + 1)) := hnv
                      clear hout HTWO HS0 HNX hm hst he0 hs0 hr hst0 hm1 hao hnv HJB hj0
                      go_wp2_with fail
                      go_quiet (fail)
                      go_wp2_with fail
                      go_quiet (first | (go_at_call 9; refine (zzEnd_any (NodeIn.stay HNV.out (below_drewN (Below.refl _ _) _))).mono ?_; rintro e w'' ⟨rfl, rfl⟩; exact ⟨rfl, _, rfl⟩))
                      go_wp2_with fail
                      go_quiet (fail)
                      go_wp2_with fail
                      clear hw1 hw2 hw3 hw2' hw3' hvn hvg HNV
                      go_loopw [25] (fun z wr => ∃ t q : Nat, t ≤ r ∧ z = .int .i64 t ∧ wr = w1'.drewN q) (fun z _ => r - (intOf z).toNat)
                      case atStart => exact ⟨0, _, by omega, rfl, rfl⟩
                      case round =>
                        obtain ⟨t, q, ht, rfl, rfl⟩ := hrel
                        by_cases hlt : t < r
                        · obtain rfl := HAO.out (by omega)
                          have hix : 1 + t < xs.length := by have := HX.out; have := HRM.out; omega
                          obtain ⟨vt, cvt, _⟩ := HN1.out (1 + t) hix
                          obtain ⟨kd2, hnt⟩ : ∃ kd, NodeAt w1' vt kd ((st : Int) + 2 + (t : Int)) := by
                            have := node_of HN1.out hix cvt
                            rw [show (st : Int) + 2 + (t : Int) = ((1 + t : Nat) : Int) + 1 by have := HST0.out; omega]
                            exact ⟨_, this⟩
                          have hvn := node_some hnt
                          have hvg := node_guard hnt
                          have HNT : Hid (NodeAt w1' vt kd2 ((st : Int) + 2 + (t : Int))) := hnt
                          have hw4 : IntKind.i64.wrap ((st : Int) + 2) = (st : Int) + 2 := wrapIn (by omega) (by omega)
                          have hw5 : IntKind.i64.wrap ((st : Int) + 2 + (t : Int)) = (st : Int) + 2 + (t : Int) := wrapIn (by omega) (by omega)
                          clear hnt
                          go_wp2_with fail
                          go_quiet (first | (go_at_call 9; refine (zzEnd_any (NodeIn.stay HNT.out (below_drewN (Below.refl _ _) _))).mono ?_; rintro e w'' ⟨rfl, rfl⟩; exact ⟨rfl, _, rfl⟩))
                          go_wp2
                          go_roundw
                          case rel => exact ⟨t + 1, _, by omega, by go_num, rfl⟩
                          case measure => simp [intOf]; omega
                        · go_wp2_with fail
                          refine (intact_any rb src _ (by exact HR1.out.c0) (by exact HR1.out.c1) (by exact HR1.out.c2) (by exact HR1.out.c3) (by exact HR1.out.c6)).mono ?_
                          rintro e w2 ⟨rfl, q', rfl⟩
                          go_wp2
                          go_ret
                          exact ⟨rfl, HBZ.out.trans ((below_drewN HB1.out _).mono HBZ.out.size)⟩
                    · obtain ⟨jp, hjp⟩ : ∃ jp, j = jp + 1 := ⟨j - 1, by omega⟩
                      have hnx := HNX jp (by omega)
                      rw [← hjp, ← hst] at hnx
                      have ke2 := HTx.out.cell2 (show jp < EE.length by rw [HSL2.out.2]; omega)
                      obtain ⟨p, hp⟩ : ∃ p, p = EE.getD jp 0 := ⟨_, rfl⟩
                      rw [← hp] at hnx ke2
                      have HPE : Hid (p = EE.getD jp 0) := hp
                      have HJP : Hid (j = jp + 1) := hjp
                      have hjm : (j : Int) - 1 = (jp : Int) := by omega
                      have hst1 : 1 < st := by have := hsm'.out; omega
                      have hstm : st < m := by have := hsm'.out; omega
                      obtain ⟨v, pb, ab, ac, cv, rfl, hpbk, ca0, cat⟩ := hout.2.2 hst1 hstm
                      have hms : m - st = r + 1 := by omega
                      have hsp : st - 1 = p := by omega
                      rw [hms] at cat
                      rw [hms]
                      rw [hsp] at hpbk
                      have HCAT : Hid (∀ t, t < r → w1'.cell? ⟨ab, t + 1, none⟩ = w1'.cell? ⟨nb, st + 1 + t, none⟩) := fun t ht => by
                        obtain ⟨u, cu, _⟩ := (HNZ.out.stay HBW.out) (st + 1 + t) (by have := HX.out; omega)
                        rw [cat t (by omega), cu]
                        exact (cell_stay HBr.out cu).symm
                      have HPB : Hid (BlkAt w1' pb src p (some ⟨nb, 0, none⟩) p nc true) := hpbk
                      obtain ⟨kd, hnv⟩ : ∃ kd, NodeAt w1' v kd ((st : Int) + 1) := ⟨_, NodeIn.stay (node_of (HNZ.out.stay HBW.out) (by have := HX.out; omega) cv) HBr.out⟩
                      have hjz : ((j : Int) == 0) = false := by simp; omega
                      have hjp0 : decide ((0 : Int) < (j : Int)) = true := by simp; omega
                      have hvn := node_some hnv
                      have hvg := node_guard hnv
                      have HNV : Hid (NodeAt w1' v kd ((st : Int) + 1)) := hnv
                      have hps : p ≤ src.size := by have := HSRC.out; omega
                      have hpj : jp < ln + 1 := by omega
                      clear hout HTWO HS0 HNX hm hst he0 hs0 hr hnv hj0 hjp hp hnx hst1 hstm hms hsp cat hpbk cv
                      rcases HJB.out with hjq | ⟨hjq, hq0⟩
                      · clear HJB
                        go_wp2_with fail
                        go_quiet (fail)
                        go_wp2_with fail
                        go_quiet (first | (go_at_call 9; refine (zzEnd_any (NodeIn.stay HNV.out (below_drewN (Below.refl _ _) _))).mono ?_; rintro e w'' ⟨rfl, rfl⟩; exact ⟨rfl, _, rfl⟩))
                        go_wp2_with fail
                        go_quiet (fail)
                        go_wp2_with fail
                        clear hw1 hw2 hw3 hw2' hw3' hvn hvg HNV
                        go_loopw [25] (fun z wr => ∃ t q : Nat, t ≤ r ∧ z = .int .i64 t ∧ wr = w1'.drewN q) (fun z _ => r - (intOf z).toNat)
                        case atStart => exact ⟨0, _, by omega, rfl, rfl⟩
                        case round =>
                          obtain ⟨t, q, ht, rfl, rfl⟩ := hrel
                          by_cases hlt : t < r
                          · have hix : st + 1 + t < xs.length := by have := HX.out; have := HRM.out; omega
                            obtain ⟨vt, cvt, _⟩ := HN1.out (st + 1 + t) hix
                            obtain ⟨kd2, hnt⟩ : ∃ kd, NodeAt w1' vt kd ((st : Int) + 2 + (t : Int)) := by
                              have := node_of HN1.out hix cvt
                              rw [show (st : Int) + 2 + (t : Int) = ((st + 1 + t : Nat) : Int) + 1 by omega]
                              exact ⟨_, this⟩
                            have cat1 : w1'.cell? ⟨ab, t + 1, none⟩ = some vt := by rw [HCAT.out t (by omega)]; exact cvt
                            have cat2 : w1'.cell? ⟨ab, 1 + t, none⟩ = some vt := by rw [Nat.add_comm]; exact cat1
                            have hvn := node_some hnt
                            have hvg := node_guard hnt
                            have HNT : Hid (NodeAt w1' vt kd2 ((st : Int) + 2 + (t : Int))) := hnt
                            have hw4 : IntKind.i64.wrap ((st : Int) + 2) = (st : Int) + 2 := wrapIn (by omega) (by omega)
                            have hw5 : IntKind.i64.wrap ((st : Int) + 2 + (t : Int)) = (st : Int) + 2 + (t : Int) := wrapIn (by omega) (by omega)
                            clear hnt cvt
                            go_wp2_with fail
                            go_quiet (first | (go_at_call 9; refine (zzEnd_any (NodeIn.stay HNT.out (below_drewN (Below.refl _ _) _))).mono ?_; rintro e w'' ⟨rfl, rfl⟩; exact ⟨rfl, _, rfl⟩))
                            go_wp2
                            go_roundw
                            case rel => exact ⟨t + 1, _, by omega, by go_num, rfl⟩
                            case measure => simp [intOf]; omega
                          · have hpe := blk_some ⟨pb, 0, none⟩
                            go_wp2_with fail
                            refine (asBlock_any pb _).mono ?_
                            rintro e w2 ⟨rfl, rfl⟩
                            go_wp2_with fail
                            go_quiet (first | (go_at_call 11; refine (piped_any pb true _ (by exact HPB.out.c6)).mono ?_; rintro e w'' ⟨rfl, rfl⟩; exact ⟨rfl, _, rfl⟩) | (go_at_call 12; refine (blockLine_any pb 0 7 _ (by exact HPB.out.c3)).mono ?_; rintro e w'' ⟨rfl, rfl⟩; exact ⟨rfl, _, rfl⟩) | (go_at_call 13; refine (text_any pb p src _ (by exact HPB.out.c0) (by exact HPB.out.c1) (by exact HPB.out.c2) hps).mono ?_; rintro e w'' ⟨rfl, m', rfl⟩; exact ⟨rfl, _, by rw [World.drewN_drewN, Nat.add_assoc]⟩) | (go_at_call 9; refine (zzEnd_block pb p _ (by exact HPB.out.c4)).mono ?_; rintro e w'' ⟨rfl, rfl⟩; exact ⟨rfl, _, rfl⟩))
                            go_wp2
                            go_roundw
                            case rel => exact ⟨jp, pb, p, true, by have := HJP.out; omega, rfl, by go_num, by rw [← HPE.out]; exact HPB.out.stay (below_drewN (Below.refl _ _) _), below_drewN HB1.out _⟩
                            case measure => have := HJP.out; simp [intOf]; omega

                      · clear HJB
                        go_wp2_with fail
                        go_quiet (fail)
                        go_wp2_with fail
                        go_quiet (first | (go_at_call 9; refine (zzEnd_any (NodeIn.stay HNV.out (below_drewN (Below.refl _ _) _))).mono ?_; rintro e w'' ⟨rfl, rfl⟩; exact ⟨rfl, _, rfl⟩))
                        go_wp2_with fail
                        go_quiet (fail)
                        go_wp2_with fail
                        clear hw1 hw2 hw3 hw2' hw3' hvn hvg HNV
                        go_loopw [25] (fun z wr => ∃ t q : Nat, t ≤ r ∧ z = .int .i64 t ∧ wr = w1'.drewN q) (fun z _ => r - (intOf z).toNat)
                        case atStart => exact ⟨0, _, by omega, rfl, rfl⟩
                        case round =>
                          obtain ⟨t, q, ht, rfl, rfl⟩ := hrel
                          by_cases hlt : t < r
                          · have hix : st + 1 + t < xs.length := by have := HX.out; have := HRM.out; omega
                            obtain ⟨vt, cvt, _⟩ := HN1.out (st + 1 + t) hix
                            obtain ⟨kd2, hnt⟩ : ∃ kd, NodeAt w1' vt kd ((st : Int) + 2 + (t : Int)) := by
                              have := node_of HN1.out hix cvt
                              rw [show (st : Int) + 2 + (t : Int) = ((st + 1 + t : Nat) : Int) + 1 by omega]
                              exact ⟨_, this⟩
                            have cat1 : w1'.cell? ⟨ab, t + 1, none⟩ = some vt := by rw [HCAT.out t (by omega)]; exact cvt
                            have cat2 : w1'.cell? ⟨ab, 1 + t, none⟩ = some vt := by rw [Nat.add_comm]; exact cat1
                            have hvn := node_some hnt
                            have hvg := node_guard hnt
                            have HNT : Hid (NodeAt w1' vt kd2 ((st : Int) + 2 + (t : Int))) := hnt
                            have hw4 : IntKind.i64.wrap ((st : Int) + 2) = (st : Int) + 2 := wrapIn (by omega) (by omega)
                            have hw5 : IntKind.i64.wrap ((st : Int) + 2 + (t : Int)) = (st : Int) + 2 + (t : Int) := wrapIn (by omega) (by omega)
                            clear hnt cvt
                            go_wp2_with fail
                            go_quiet (first | (go_at_call 9; refine (zzEnd_any (NodeIn.stay HNT.out (below_drewN (Below.refl _ _) _))).mono ?_; rintro e w'' ⟨rfl, rfl⟩; exact ⟨rfl, _, rfl⟩))
                            go_wp2
                            go_roundw
                            case rel => exact ⟨t + 1, _, by omega, by go_num, rfl⟩
                            case measure => simp [intOf]; omega
                          · have hpe := blk_some ⟨pb, 0, none⟩
                            go_wp2_with fail
                            refine (asBlock_any pb _).mono ?_
                            rintro e w2 ⟨rfl, rfl⟩
                            go_wp2_with fail
                            go_quiet (first | (go_at_call 11; refine (piped_any pb true _ (by exact HPB.out.c6)).mono ?_; rintro e w'' ⟨rfl, rfl⟩; exact ⟨rfl, _, rfl⟩) | (go_at_call 12; refine (blockLine_any pb 0 7 _ (by exact HPB.out.c3)).mono ?_; rintro e w'' ⟨rfl, rfl⟩; exact ⟨rfl, _, rfl⟩) | (go_at_call 13; refine (text_any pb p src _ (by exact HPB.out.c0) (by exact HPB.out.c1) (by exact HPB.out.c2) hps).mono ?_; rintro e w'' ⟨rfl, m', rfl⟩; exact ⟨rfl, _, by rw [World.drewN_drewN, Nat.add_assoc]⟩) | (go_at_call 9; refine (zzEnd_block pb p _ (by exact HPB.out.c4)).mono ?_; rintro e w'' ⟨rfl, rfl⟩; exact ⟨rfl, _, rfl⟩))
                            go_wp2
                            go_roundw
                            case rel => exact ⟨jp, pb, p, true, by have := HJP.out; omega, rfl, by go_num, by rw [← HPE.out]; exact HPB.out.stay (below_drewN (Below.refl _ _) _), below_drewN HB1.out _⟩
                            case measure => have := HJP.out; simp [intOf]; omega
      · go_enter Try.func3, Try.ntmps3
        go_wp2_with fail
        refine (HBY.out _).mono ?_
        rintro e w' ⟨rfl, rfl⟩
        go_wp2
        go_ret
        exact ⟨rfl, Below.refl _ _⟩
    · go_enter Try.func3, Try.ntmps3
      go_wp2_with fail
      refine (HBY.out _).mono ?_
      rintro e w' ⟨rfl, rfl⟩
      go_wp2
      go_ret
      exact ⟨rfl, Below.refl _ _⟩
  · have hd1 : decide (n + pad.size ≤ 1048576) = false := by simpa using hsum
    rw [hd1] at HBY
    clear hd1
    go_enter Try.func3, Try.ntmps3
    go_wp2_with fail
    refine (HBY.out _).mono ?_
    rintro e w' ⟨rfl, rfl⟩
    go_wp2
    go_ret
    exact ⟨rfl, Below.refl _ _⟩
end Go.Proofs.Qxb6002415a
