import Derived.Test.Qxb6000864aSortPlain
namespace Go.Proofs.Qxb6000864a
open Go.RowKit
theorem KvRow.lt {w : World} {b : Nat} {xs : List (Int × Int)} (h : KvRow w b xs) : b < w.heap.size := by
  obtain ⟨g, m, hm, h1, _⟩ := h
  exact h1.lt
theorem KvRow.frozen {w : World} {b : Nat} {xs : List (Int × Int)} (h : KvRow w b xs) (j : Nat) : w.frozen? ⟨b, j, none⟩ = false := by
  obtain ⟨g, m, hm, h1, _⟩ := h
  exact h1.frozen j
theorem KvRow.set {w : World} {b k : Nat} {ys : List (Int × Int)} {v1 v2 : Int} (h : KvRow w b ys) (hk : k < ys.length) : KvRow ((w.setCell ⟨b, k * 2, none⟩ (.int .i64 v1)).setCell ⟨b, k * 2 + 1, none⟩ (.int .i64 v2)) b (ys.set k (v1, v2)) := by
  obtain ⟨g, m, hm, h1, h2⟩ := h
  refine ⟨_, m, by rw [List.length_set]; exact hm, (h1.set _ _).set _ _, fun j hj => ?_⟩
  have hj' : j < ys.length := by simpa using hj
  by_cases e : j = k
  · subst e
    refine ⟨?_, ?_⟩
    · rw [if_neg (by omega), if_pos rfl]; simp
    · rw [if_pos rfl]; simp
  · obtain ⟨e1, e2⟩ := h2 j hj'
    rw [List.getElem_set_ne (fun h => e h.symm)]
    refine ⟨?_, ?_⟩
    · rw [if_neg (by omega), if_neg (by omega)]; exact e1
    · rw [if_neg (by omega), if_neg (by omega)]; exact e2
theorem KvRow.other {w : World} {b b' : Nat} {p q : Nat} {u v : Value} {ys : List (Int × Int)} (h : KvRow w b ys) (hne : b ≠ b') : KvRow ((w.setCell ⟨b', p, none⟩ u).setCell ⟨b', q, none⟩ v) b ys := by
  obtain ⟨g, m, hm, h1, h2⟩ := h
  exact ⟨g, m, hm, h1.of_block (by rw [Below.heap_setCell _ _ _ _ (by simpa using hne), Below.heap_setCell _ _ _ _ (by simpa using hne)]), h2⟩
/-- the two rows of the sort: a holds xs, buf holds ys. -/
structure Two (B : Nat) (w0 : World) (ba bb : Nat) (xs ys : List (Int × Int)) (w : World) : Prop where
  ra : KvRow w ba xs
  rb : KvRow w bb ys
  ne : ba ≠ bb
  la : B ≤ ba
  lb : B ≤ bb
  bel : Below B w0 w
theorem Two.stay {B : Nat} {w0 w w' : World} {ba bb : Nat} {xs ys : List (Int × Int)} (h : Two B w0 ba bb xs ys w) (hb : Below w.heap.size w w') (hB : B ≤ w.heap.size) : Two B w0 ba bb xs ys w' :=
  ⟨h.ra.stay hb, h.rb.stay hb, h.ne, h.la, h.lb, h.bel.trans (hb.mono hB)⟩
theorem Two.set {B : Nat} {w0 w : World} {ba bb k : Nat} {xs ys : List (Int × Int)} {v1 v2 : Int} (h : Two B w0 ba bb xs ys w) (hk : k < ys.length) : Two B w0 ba bb xs (ys.set k (v1, v2)) ((w.setCell ⟨bb, k * 2, none⟩ (.int .i64 v1)).setCell ⟨bb, k * 2 + 1, none⟩ (.int .i64 v2)) :=
  ⟨h.ra.other h.ne, h.rb.set hk, h.ne, h.la, h.lb, (h.bel.setCell h.lb _).setCell h.lb _⟩
theorem Two.B {B : Nat} {w0 w : World} {ba bb : Nat} {xs ys : List (Int × Int)} (h : Two B w0 ba bb xs ys w) : B ≤ w.heap.size := by
  have := h.ra.lt
  have := h.la
  omega
theorem info68 : (Try.prog.info? 68).map (fun i => (i.zero, i.size, i.bytes)) = some (some (.agg #[.int .i64 0, .int .i64 0]), 2, 16) := by kernel_rfl
theorem kv_made (w : World) (n : Nat) : KvRow (w.alloc (.cells (madeCells #[.int .i64 0, .int .i64 0] (n * 2)) 68)) w.heap.size (List.replicate n (0, 0)) := by
  refine ⟨_, n * 2, by rw [List.length_replicate]; exact Nat.le_refl _, rowIs_rows w _ _ _, fun j hj => ?_⟩
  have h1 : (j * 2) % (#[Value.int .i64 0, .int .i64 0] : Array Value).size = 0 := by show j * 2 % 2 = 0; omega
  have h2 : (j * 2 + 1) % (#[Value.int .i64 0, .int .i64 0] : Array Value).size = 1 := by show (j * 2 + 1) % 2 = 1; omega
  simp only [h1, h2, List.getElem_replicate]
  exact ⟨rfl, rfl⟩

set_option maxRecDepth 100000 in
set_option maxHeartbeats 8000000 in
theorem sort_any (B ba ca n : Nat) (xs0 : List (Int × Int)) (w : World) (h : KvRow w ba xs0) (hn : n = xs0.length) (hn1 : n ≤ 1048576) (hB : B ≤ ba) :
    Calls Try.prog 29 #[.slice (some ⟨ba, 0, none⟩) n ca] w fun e w' => ∃ b' c' ys, e = .returned (.slice (some ⟨b', 0, none⟩) n c') ∧ KvRow w' b' ys ∧ ys.Perm xs0 ∧ Srt ys ∧ Below B w w' := by
  have HR : Hid (KvRow w ba xs0) := h
  have HN : Hid (n = xs0.length) := hn
  have hlt0 := h.lt
  clear h hn
  have hmk := make_rows (P := Try.prog) 66 68 #[.int .i64 0, .int .i64 0] 2 16 Try.underlying66 info68 n (by omega) (by omega)
  go_enter Try.func29, Try.ntmps29
  go_wp2
  clear hmk
  go_loopw [0, 4, 5] (fun a bf z wr => ∃ ba bb ca cb wd xs ys, a = .slice (some ⟨ba, 0, none⟩) n ca ∧ bf = .slice (some ⟨bb, 0, none⟩) n cb ∧ z = .int .i64 (wd : Nat) ∧ 1 ≤ wd ∧ wd ≤ 2 * n + 1 ∧ Two B w ba bb xs ys wr ∧ xs.length = n ∧ ys.length = n ∧ xs.Perm xs0 ∧ ∀ t, Srt (seg xs (t * wd) ((t + 1) * wd))) (fun _ _ z _ => n - (intOf z).toNat)
  case atStart =>
    refine ⟨ba, w.heap.size, ca, n, 1, xs0, List.replicate n (0, 0), rfl, rfl, rfl, by omega, by omega, ⟨HR.out.stay ((Below.refl _ _).alloc (Nat.le_refl _) _), kv_made w n, by omega, hB, by omega, ((Below.refl _ _).alloc (Nat.le_refl _) _).mono (by omega)⟩, HN.out.symm, by simp, List.Perm.refl _, fun t => ?_⟩
    have hl : (seg xs0 (t * 1) ((t + 1) * 1)).length ≤ 1 := by unfold seg; simp; omega
    generalize seg xs0 (t * 1) ((t + 1) * 1) = l at hl
    match l, hl with
    | [], _ => simp [Srt]
    | [_], _ => simp [Srt]
  case round =>
    clear HR hlt0
    obtain ⟨ba, bb, ca, cb, wd, xs, ys, rfl, rfl, rfl, hw1, hw2, hT, hxl, hyl, hperm, hsrt⟩ := hrel
    have HT : Hid (Two B w ba bb xs ys wr) := hT
    have HXL : Hid (xs.length = n) := hxl
    have HYL : Hid (ys.length = n) := hyl
    have HP : Hid (xs.Perm xs0) := hperm
    have HS : Hid (∀ t, Srt (seg xs (t * wd) ((t + 1) * wd))) := hsrt
    clear hT hxl hyl hperm hsrt
    by_cases hlt : wd < n
    · go_wp2
      go_loopw [6] (fun z wr => ∃ c ys, z = .int .i64 ((c * (2 * wd) : Nat) : Int) ∧ c * (2 * wd) ≤ n + 2 * wd ∧ PI xs wd c ys ∧ Two B w ba bb xs ys wr) (fun z _ => n + 2 * wd - (intOf z).toNat)
      case atStart => exact ⟨0, ys, by simp, by omega, PI.start (by rw [HXL.out, HYL.out]), HT.out⟩
      case round =>
        clear HT
        obtain ⟨c, ys, rfl, hc, hPI, hT⟩ := hrel
        have HT : Hid (Two B w ba bb xs ys wr) := hT
        have HPI : Hid (PI xs wd c ys) := hPI
        clear hT hPI HYL
        obtain ⟨lo, hlo⟩ : ∃ lo, lo = c * (2 * wd) := ⟨_, rfl⟩
        have HLO : Hid (lo = c * (2 * wd)) := hlo
        rw [← hlo] at hc ⊢
        clear hlo
        by_cases hll : lo < n
        · by_cases hm : n < lo + wd
          · skip
            have hm2 : n < lo + 2 * wd := by omega
            go_wp2
            go_loopw [9, 10, 11] (fun a b z wr => ∃ (i j k : Nat) (ys' : List (Int × Int)), a = .int .i64 i ∧ b = .int .i64 j ∧ z = .int .i64 k ∧ MI xs ys lo n n i j k ys' ∧ Two B w ba bb xs ys' wr) (fun a b _ _ => (n - (intOf a).toNat) + (n - (intOf b).toNat))
            case atStart => exact ⟨lo, n, lo, ys, rfl, rfl, rfl, MI.start HPI.out.len (by omega) (by omega) (by rw [HXL.out]; omega), HT.out⟩
            case round =>
              clear HT
              obtain ⟨i, j, k, ys', rfl, rfl, rfl, hM, hT'⟩ := hrel
              have m1 := hM.h1
              have m2 := hM.h2
              have m3 := hM.h3
              have m4 := hM.h4
              have m5 := hM.sum
              have HM : Hid (MI xs ys lo n n i j k ys') := hM
              have HT : Hid (Two B w ba bb xs ys' wr) := hT'
              have hkl : k < n ∨ n ≤ k := Nat.lt_or_ge k n
              clear hM hT'
              by_cases hc1 : i < n
              · by_cases hc2 : j < n
                · exact absurd hc2 (by omega)
                · skip
                  clear hkl
                  have hdj : i = n ∨ j = n := by omega
                  go_wp2
                  go_loopw [9, 11] (fun a z wr => ∃ (i k : Nat) (ys' : List (Int × Int)), a = .int .i64 i ∧ z = .int .i64 k ∧ MI xs ys lo n n i j k ys' ∧ (i = n ∨ j = n) ∧ Two B w ba bb xs ys' wr) (fun a _ _ => n - (intOf a).toNat)
                  case atStart => exact ⟨i, k, ys', rfl, rfl, HM.out, hdj, HT.out⟩
                  case round =>
                    clear HM HT hdj m1 m2 m3 m4 m5 hc1
                    obtain ⟨i, k, ys', rfl, rfl, hM, hdj, hT'⟩ := hrel
                    have m1 := hM.h1
                    have m2 := hM.h2
                    have m3 := hM.h3
                    have m4 := hM.h4
                    have m5 := hM.sum
                    have HM : Hid (MI xs ys lo n n i j k ys') := hM
                    have HT : Hid (Two B w ba bb xs ys' wr) := hT'
                    clear hM hT'
                    by_cases hc1 : i < n
                    · have hi1 : i < xs.length := by rw [HXL.out]; omega
                      have hjh : j = n := by omega
                      have hkn : k < n := by omega
                      have hk1 : k < ys'.length := by rw [HM.out.len, HXL.out]; exact hkn
                      have hin : i < n := by omega
                      obtain ⟨p0, p1⟩ := HT.out.ra.cells hi1
                      have HL := MI.left HM.out hc1 hi1 (.inl hjh)
                      have HJH : Hid (j = _) := hjh
                      clear hjh hdj
                      generalize xs[i] = xi at p0 p1 HL
                      obtain ⟨i1, i2⟩ := xi
                      have HLL : Hid (MI _ _ _ _ _ _ _ _ _) := HL
                      clear HL
                      obtain ⟨r0, r1⟩ := HT.out.rb.cells hk1
                      have f0 := HT.out.rb.frozen (k * 2)
                      have f1 := HT.out.rb.frozen (k * 2 + 1)
                      have hnb := HT.out.ne
                      generalize ys'[k] = yk at r0 r1
                      go_wp2
                      go_roundw
                      case rel => exact ⟨i + 1, k + 1, _, by go_num, by go_num, HLL.out, .inr HJH.out, HT.out.set hk1⟩
                      case measure => simp [intOf]; omega
                    · have him : i = n := by omega
                      clear hdj
                      have HM2 : Hid (MI xs ys lo n n n j k ys') := by have := HM.out; rwa [him] at this
                      have m6 : k = j := by omega
                      clear HM m1 m2 m5 him
                      go_wp2
                      go_loopw [10, 11] (fun a z wr => ∃ (j k : Nat) (ys' : List (Int × Int)), a = .int .i64 j ∧ z = .int .i64 k ∧ MI xs ys lo n n n j k ys' ∧ Two B w ba bb xs ys' wr) (fun a _ _ => n - (intOf a).toNat)
                      case atStart => exact ⟨j, k, ys', rfl, rfl, HM2.out, HT.out⟩
                      case round =>
                        clear HM2 HT m3 m4 m6
                        obtain ⟨j, k, ys', rfl, rfl, hM, hT'⟩ := hrel
                        have m3 := hM.h3
                        have m4 := hM.h4
                        have m5 := hM.sum
                        have HM : Hid (MI xs ys lo n n n j k ys') := hM
                        have HT : Hid (Two B w ba bb xs ys' wr) := hT'
                        clear hM hT'
                        by_cases hc2 : j < n
                        · exact absurd hc2 (by omega)
                        · go_wp2
                          go_roundw
                          case rel => exact ⟨c + 1, ys', by rw [Nat.add_mul, Nat.one_mul, ← HLO.out]; go_num, by rw [Nat.add_mul, Nat.one_mul, ← HLO.out]; omega, PI.step HPI.out HS.out (by rw [HXL.out, ← HLO.out]; omega) (by rw [HXL.out, ← HLO.out]; omega) (HLO.out ▸ HM.out) (by omega), HT.out⟩
                          case measure => simp [intOf]; omega
              · skip
                clear hkl
                have hdj : i = n ∨ j = n := by omega
                go_wp2
                go_loopw [9, 11] (fun a z wr => ∃ (i k : Nat) (ys' : List (Int × Int)), a = .int .i64 i ∧ z = .int .i64 k ∧ MI xs ys lo n n i j k ys' ∧ (i = n ∨ j = n) ∧ Two B w ba bb xs ys' wr) (fun a _ _ => n - (intOf a).toNat)
                case atStart => exact ⟨i, k, ys', rfl, rfl, HM.out, hdj, HT.out⟩
                case round =>
                  clear HM HT hdj m1 m2 m3 m4 m5 hc1
                  obtain ⟨i, k, ys', rfl, rfl, hM, hdj, hT'⟩ := hrel
                  have m1 := hM.h1
                  have m2 := hM.h2
                  have m3 := hM.h3
                  have m4 := hM.h4
                  have m5 := hM.sum
                  have HM : Hid (MI xs ys lo n n i j k ys') := hM
                  have HT : Hid (Two B w ba bb xs ys' wr) := hT'
                  clear hM hT'
                  by_cases hc1 : i < n
                  · have hi1 : i < xs.length := by rw [HXL.out]; omega
                    have hjh : j = n := by omega
                    have hkn : k < n := by omega
                    have hk1 : k < ys'.length := by rw [HM.out.len, HXL.out]; exact hkn
                    have hin : i < n := by omega
                    obtain ⟨p0, p1⟩ := HT.out.ra.cells hi1
                    have HL := MI.left HM.out hc1 hi1 (.inl hjh)
                    have HJH : Hid (j = _) := hjh
                    clear hjh hdj
                    generalize xs[i] = xi at p0 p1 HL
                    obtain ⟨i1, i2⟩ := xi
                    have HLL : Hid (MI _ _ _ _ _ _ _ _ _) := HL
                    clear HL
                    obtain ⟨r0, r1⟩ := HT.out.rb.cells hk1
                    have f0 := HT.out.rb.frozen (k * 2)
                    have f1 := HT.out.rb.frozen (k * 2 + 1)
                    have hnb := HT.out.ne
                    generalize ys'[k] = yk at r0 r1
                    go_wp2
                    go_roundw
                    case rel => exact ⟨i + 1, k + 1, _, by go_num, by go_num, HLL.out, .inr HJH.out, HT.out.set hk1⟩
                    case measure => simp [intOf]; omega
                  · have him : i = n := by omega
                    clear hdj
                    have HM2 : Hid (MI xs ys lo n n n j k ys') := by have := HM.out; rwa [him] at this
                    have m6 : k = j := by omega
                    clear HM m1 m2 m5 him
                    go_wp2
                    go_loopw [10, 11] (fun a z wr => ∃ (j k : Nat) (ys' : List (Int × Int)), a = .int .i64 j ∧ z = .int .i64 k ∧ MI xs ys lo n n n j k ys' ∧ Two B w ba bb xs ys' wr) (fun a _ _ => n - (intOf a).toNat)
                    case atStart => exact ⟨j, k, ys', rfl, rfl, HM2.out, HT.out⟩
                    case round =>
                      clear HM2 HT m3 m4 m6
                      obtain ⟨j, k, ys', rfl, rfl, hM, hT'⟩ := hrel
                      have m3 := hM.h3
                      have m4 := hM.h4
                      have m5 := hM.sum
                      have HM : Hid (MI xs ys lo n n n j k ys') := hM
                      have HT : Hid (Two B w ba bb xs ys' wr) := hT'
                      clear hM hT'
                      by_cases hc2 : j < n
                      · exact absurd hc2 (by omega)
                      · go_wp2
                        go_roundw
                        case rel => exact ⟨c + 1, ys', by rw [Nat.add_mul, Nat.one_mul, ← HLO.out]; go_num, by rw [Nat.add_mul, Nat.one_mul, ← HLO.out]; omega, PI.step HPI.out HS.out (by rw [HXL.out, ← HLO.out]; omega) (by rw [HXL.out, ← HLO.out]; omega) (HLO.out ▸ HM.out) (by omega), HT.out⟩
                        case measure => simp [intOf]; omega
          · by_cases hh : n < lo + 2 * wd
            · skip
              obtain ⟨mid, hmid⟩ : ∃ mid, mid = lo + wd := ⟨_, rfl⟩
              have hmi : Hid ((lo : Int) + (wd : Int) = (mid : Int)) := by show _ = _; omega
              have HMD : Hid (mid = lo + wd) := hmid
              clear hmid
              go_wp2
              rw [hmi.out]
              have hml : lo ≤ mid := by have := HMD.out; omega
              have hmn : mid ≤ n := by have := HMD.out; omega
              go_loopw [9, 10, 11] (fun a b z wr => ∃ (i j k : Nat) (ys' : List (Int × Int)), a = .int .i64 i ∧ b = .int .i64 j ∧ z = .int .i64 k ∧ MI xs ys lo mid n i j k ys' ∧ Two B w ba bb xs ys' wr) (fun a b _ _ => (mid - (intOf a).toNat) + (n - (intOf b).toNat))
              case atStart => exact ⟨lo, mid, lo, ys, rfl, rfl, rfl, MI.start HPI.out.len (by omega) (by omega) (by rw [HXL.out]; omega), HT.out⟩
              case round =>
                clear HT
                obtain ⟨i, j, k, ys', rfl, rfl, rfl, hM, hT'⟩ := hrel
                have m1 := hM.h1
                have m2 := hM.h2
                have m3 := hM.h3
                have m4 := hM.h4
                have m5 := hM.sum
                have HM : Hid (MI xs ys lo mid n i j k ys') := hM
                have HT : Hid (Two B w ba bb xs ys' wr) := hT'
                have hkl : k < n ∨ n ≤ k := Nat.lt_or_ge k n
                clear hM hT'
                by_cases hc1 : i < mid
                · by_cases hc2 : j < n
                  · have hi1 : i < xs.length := by rw [HXL.out]; omega
                    have hj1 : j < xs.length := by rw [HXL.out]; omega
                    have hkn : k < n := by omega
                    have hk1 : k < ys'.length := by rw [HM.out.len, HXL.out]; exact hkn
                    have hin : i < n := by omega
                    have hjn : j < n := by omega
                    obtain ⟨p0, p1⟩ := HT.out.ra.cells hi1
                    obtain ⟨q0, q1⟩ := HT.out.ra.cells hj1
                    have HL := MI.left HM.out hc1 hi1
                    have HRR := MI.right HM.out hc2 hj1
                    generalize hxi : xs[i] = xi at p0 p1 HL HRR
                    generalize hxj : xs[j] = xj at q0 q1 HL HRR
                    obtain ⟨i1, i2⟩ := xi
                    obtain ⟨j1, j2⟩ := xj
                    have HLL : Hid (j = _ ∨ _ → _) := HL
                    have HRL : Hid (i = _ ∨ _ → _) := HRR
                    have HXI : Hid (xs[i] = _) := hxi
                    have HXJ : Hid (xs[j] = _) := hxj
                    clear HL HRR hxi hxj hkl
                    go_wp2_with fail
                    go_region_held3 (fun w' => w'.cell? ⟨ba, j * 2, none⟩ = some (.int .i64 j1) ∧ w'.cell? ⟨ba, j * 2 + 1, none⟩ = some (.int .i64 j2) ∧ w'.cell? ⟨ba, i * 2, none⟩ = some (.int .i64 i1) ∧ w'.cell? ⟨ba, i * 2 + 1, none⟩ = some (.int .i64 i2))
                      (first | go_keep | (exact ⟨cell_stay hbs q0, cell_stay hbs q1, cell_stay hbs p0, cell_stay hbs p1⟩))
                      (first | (go_at_call 30; refine (kvLess_any j1 j2 i1 i2 _).mono ?_; rintro e ws ⟨rfl, hbs⟩))
                    have hbs2 : Below wr.heap.size wr ws := ((Below.refl wr.heap.size wr).drew).trans (hbs.mono (show wr.heap.size ≤ wr.drew.heap.size from Nat.le_refl _))
                    have HT2 : Hid (Two B w ba bb xs ys' ws) := HT.out.stay hbs2 HT.out.B
                    clear hbs hbs2 p0 p1 q0 q1 HT
                    obtain ⟨r0, r1⟩ := HT2.out.rb.cells hk1
                    have f0 := HT2.out.rb.frozen (k * 2)
                    have f1 := HT2.out.rb.frozen (k * 2 + 1)
                    have hnb := HT2.out.ne
                    generalize ys'[k] = yk at r0 r1
                    obtain ⟨p0, p1⟩ := HT2.out.ra.cells hi1
                    obtain ⟨q0, q1⟩ := HT2.out.ra.cells hj1
                    rw [HXI.out] at p0 p1
                    rw [HXJ.out] at q0 q1
                    cases hkv : kvL (j1, j2) (i1, i2)
                    · go_wp2
                      exact ⟨⟨.int .i64 ((i + 1 : Nat) : Int), .int .i64 (j : Int), .int .i64 ((k + 1 : Nat) : Int), ⟨i + 1, rfl, j, rfl, k + 1, rfl, _, HLL.out (.inr ⟨hj1, by first | exact hkv | (rw [HXJ.out]; exact hkv) | (rw [HXI.out]; exact hkv) | (rw [HXJ.out, HXI.out]; exact hkv)⟩), HT2.out.set hk1⟩, by go_num, rfl, by go_num⟩, by simp [intOf]; omega⟩
                    · go_wp2
                      exact ⟨⟨.int .i64 (i : Int), .int .i64 ((j + 1 : Nat) : Int), .int .i64 ((k + 1 : Nat) : Int), ⟨i, rfl, j + 1, rfl, k + 1, rfl, _, HRL.out (.inr ⟨hi1, by first | exact hkv | (rw [HXJ.out]; exact hkv) | (rw [HXI.out]; exact hkv) | (rw [HXJ.out, HXI.out]; exact hkv)⟩), HT2.out.set hk1⟩, rfl, by go_num, by go_num⟩, by simp [intOf]; omega⟩
                  · skip
                    clear hkl
                    have hdj : i = mid ∨ j = n := by omega
                    go_wp2
                    go_loopw [9, 11] (fun a z wr => ∃ (i k : Nat) (ys' : List (Int × Int)), a = .int .i64 i ∧ z = .int .i64 k ∧ MI xs ys lo mid n i j k ys' ∧ (i = mid ∨ j = n) ∧ Two B w ba bb xs ys' wr) (fun a _ _ => mid - (intOf a).toNat)
                    case atStart => exact ⟨i, k, ys', rfl, rfl, HM.out, hdj, HT.out⟩
                    case round =>
                      clear HM HT hdj m1 m2 m3 m4 m5 hc1
                      obtain ⟨i, k, ys', rfl, rfl, hM, hdj, hT'⟩ := hrel
                      have m1 := hM.h1
                      have m2 := hM.h2
                      have m3 := hM.h3
                      have m4 := hM.h4
                      have m5 := hM.sum
                      have HM : Hid (MI xs ys lo mid n i j k ys') := hM
                      have HT : Hid (Two B w ba bb xs ys' wr) := hT'
                      clear hM hT'
                      by_cases hc1 : i < mid
                      · have hi1 : i < xs.length := by rw [HXL.out]; omega
                        have hjh : j = n := by omega
                        have hkn : k < n := by omega
                        have hk1 : k < ys'.length := by rw [HM.out.len, HXL.out]; exact hkn
                        have hin : i < n := by omega
                        obtain ⟨p0, p1⟩ := HT.out.ra.cells hi1
                        have HL := MI.left HM.out hc1 hi1 (.inl hjh)
                        have HJH : Hid (j = _) := hjh
                        clear hjh hdj
                        generalize xs[i] = xi at p0 p1 HL
                        obtain ⟨i1, i2⟩ := xi
                        have HLL : Hid (MI _ _ _ _ _ _ _ _ _) := HL
                        clear HL
                        obtain ⟨r0, r1⟩ := HT.out.rb.cells hk1
                        have f0 := HT.out.rb.frozen (k * 2)
                        have f1 := HT.out.rb.frozen (k * 2 + 1)
                        have hnb := HT.out.ne
                        generalize ys'[k] = yk at r0 r1
                        go_wp2
                        go_roundw
                        case rel => exact ⟨i + 1, k + 1, _, by go_num, by go_num, HLL.out, .inr HJH.out, HT.out.set hk1⟩
                        case measure => simp [intOf]; omega
                      · have him : i = mid := by omega
                        clear hdj
                        have HM2 : Hid (MI xs ys lo mid n mid j k ys') := by have := HM.out; rwa [him] at this
                        have m6 : k = j := by omega
                        clear HM m1 m2 m5 him
                        go_wp2
                        go_loopw [10, 11] (fun a z wr => ∃ (j k : Nat) (ys' : List (Int × Int)), a = .int .i64 j ∧ z = .int .i64 k ∧ MI xs ys lo mid n mid j k ys' ∧ Two B w ba bb xs ys' wr) (fun a _ _ => n - (intOf a).toNat)
                        case atStart => exact ⟨j, k, ys', rfl, rfl, HM2.out, HT.out⟩
                        case round =>
                          clear HM2 HT m3 m4 m6
                          obtain ⟨j, k, ys', rfl, rfl, hM, hT'⟩ := hrel
                          have m3 := hM.h3
                          have m4 := hM.h4
                          have m5 := hM.sum
                          have HM : Hid (MI xs ys lo mid n mid j k ys') := hM
                          have HT : Hid (Two B w ba bb xs ys' wr) := hT'
                          clear hM hT'
                          by_cases hc2 : j < n
                          · have hj1 : j < xs.length := by rw [HXL.out]; omega
                            have hkn : k < n := by omega
                            have hk1 : k < ys'.length := by rw [HM.out.len, HXL.out]; exact hkn
                            have hjn : j < n := by omega
                            obtain ⟨p0, p1⟩ := HT.out.ra.cells hj1
                            have HL := MI.right HM.out hc2 hj1 (.inl rfl)
                            generalize xs[j] = xj at p0 p1 HL
                            obtain ⟨i1, i2⟩ := xj
                            have HLL : Hid (MI _ _ _ _ _ _ _ _ _) := HL
                            clear HL
                            obtain ⟨r0, r1⟩ := HT.out.rb.cells hk1
                            have f0 := HT.out.rb.frozen (k * 2)
                            have f1 := HT.out.rb.frozen (k * 2 + 1)
                            have hnb := HT.out.ne
                            generalize ys'[k] = yk at r0 r1
                            go_wp2
                            go_roundw
                            case rel => exact ⟨j + 1, k + 1, _, by go_num, by go_num, HLL.out, HT.out.set hk1⟩
                            case measure => simp [intOf]; omega
                          · go_wp2
                            go_roundw
                            case rel => exact ⟨c + 1, ys', by rw [Nat.add_mul, Nat.one_mul, ← HLO.out]; go_num, by rw [Nat.add_mul, Nat.one_mul, ← HLO.out]; omega, PI.step HPI.out HS.out (by have := HMD.out; rw [HXL.out, ← HLO.out]; omega) (by rw [HXL.out, ← HLO.out]; omega) (HLO.out ▸ HM.out) (by omega), HT.out⟩
                            case measure => simp [intOf]; omega
                · skip
                  clear hkl
                  have hdj : i = mid ∨ j = n := by omega
                  go_wp2
                  go_loopw [9, 11] (fun a z wr => ∃ (i k : Nat) (ys' : List (Int × Int)), a = .int .i64 i ∧ z = .int .i64 k ∧ MI xs ys lo mid n i j k ys' ∧ (i = mid ∨ j = n) ∧ Two B w ba bb xs ys' wr) (fun a _ _ => mid - (intOf a).toNat)
                  case atStart => exact ⟨i, k, ys', rfl, rfl, HM.out, hdj, HT.out⟩
                  case round =>
                    clear HM HT hdj m1 m2 m3 m4 m5 hc1
                    obtain ⟨i, k, ys', rfl, rfl, hM, hdj, hT'⟩ := hrel
                    have m1 := hM.h1
                    have m2 := hM.h2
                    have m3 := hM.h3
                    have m4 := hM.h4
                    have m5 := hM.sum
                    have HM : Hid (MI xs ys lo mid n i j k ys') := hM
                    have HT : Hid (Two B w ba bb xs ys' wr) := hT'
                    clear hM hT'
                    by_cases hc1 : i < mid
                    · have hi1 : i < xs.length := by rw [HXL.out]; omega
                      have hjh : j = n := by omega
                      have hkn : k < n := by omega
                      have hk1 : k < ys'.length := by rw [HM.out.len, HXL.out]; exact hkn
                      have hin : i < n := by omega
                      obtain ⟨p0, p1⟩ := HT.out.ra.cells hi1
                      have HL := MI.left HM.out hc1 hi1 (.inl hjh)
                      have HJH : Hid (j = _) := hjh
                      clear hjh hdj
                      generalize xs[i] = xi at p0 p1 HL
                      obtain ⟨i1, i2⟩ := xi
                      have HLL : Hid (MI _ _ _ _ _ _ _ _ _) := HL
                      clear HL
                      obtain ⟨r0, r1⟩ := HT.out.rb.cells hk1
                      have f0 := HT.out.rb.frozen (k * 2)
                      have f1 := HT.out.rb.frozen (k * 2 + 1)
                      have hnb := HT.out.ne
                      generalize ys'[k] = yk at r0 r1
                      go_wp2
                      go_roundw
                      case rel => exact ⟨i + 1, k + 1, _, by go_num, by go_num, HLL.out, .inr HJH.out, HT.out.set hk1⟩
                      case measure => simp [intOf]; omega
                    · have him : i = mid := by omega
                      clear hdj
                      have HM2 : Hid (MI xs ys lo mid n mid j k ys') := by have := HM.out; rwa [him] at this
                      have m6 : k = j := by omega
                      clear HM m1 m2 m5 him
                      go_wp2
                      go_loopw [10, 11] (fun a z wr => ∃ (j k : Nat) (ys' : List (Int × Int)), a = .int .i64 j ∧ z = .int .i64 k ∧ MI xs ys lo mid n mid j k ys' ∧ Two B w ba bb xs ys' wr) (fun a _ _ => n - (intOf a).toNat)
                      case atStart => exact ⟨j, k, ys', rfl, rfl, HM2.out, HT.out⟩
                      case round =>
                        clear HM2 HT m3 m4 m6
                        obtain ⟨j, k, ys', rfl, rfl, hM, hT'⟩ := hrel
                        have m3 := hM.h3
                        have m4 := hM.h4
                        have m5 := hM.sum
                        have HM : Hid (MI xs ys lo mid n mid j k ys') := hM
                        have HT : Hid (Two B w ba bb xs ys' wr) := hT'
                        clear hM hT'
                        by_cases hc2 : j < n
                        · have hj1 : j < xs.length := by rw [HXL.out]; omega
                          have hkn : k < n := by omega
                          have hk1 : k < ys'.length := by rw [HM.out.len, HXL.out]; exact hkn
                          have hjn : j < n := by omega
                          obtain ⟨p0, p1⟩ := HT.out.ra.cells hj1
                          have HL := MI.right HM.out hc2 hj1 (.inl rfl)
                          generalize xs[j] = xj at p0 p1 HL
                          obtain ⟨i1, i2⟩ := xj
                          have HLL : Hid (MI _ _ _ _ _ _ _ _ _) := HL
                          clear HL
                          obtain ⟨r0, r1⟩ := HT.out.rb.cells hk1
                          have f0 := HT.out.rb.frozen (k * 2)
                          have f1 := HT.out.rb.frozen (k * 2 + 1)
                          have hnb := HT.out.ne
                          generalize ys'[k] = yk at r0 r1
                          go_wp2
                          go_roundw
                          case rel => exact ⟨j + 1, k + 1, _, by go_num, by go_num, HLL.out, HT.out.set hk1⟩
                          case measure => simp [intOf]; omega
                        · go_wp2
                          go_roundw
                          case rel => exact ⟨c + 1, ys', by rw [Nat.add_mul, Nat.one_mul, ← HLO.out]; go_num, by rw [Nat.add_mul, Nat.one_mul, ← HLO.out]; omega, PI.step HPI.out HS.out (by have := HMD.out; rw [HXL.out, ← HLO.out]; omega) (by rw [HXL.out, ← HLO.out]; omega) (HLO.out ▸ HM.out) (by omega), HT.out⟩
                          case measure => simp [intOf]; omega
            · skip
              obtain ⟨mid, hmid⟩ : ∃ mid, mid = lo + wd := ⟨_, rfl⟩
              obtain ⟨hi, hhi⟩ : ∃ hi, hi = lo + 2 * wd := ⟨_, rfl⟩
              have hmi : Hid ((lo : Int) + (wd : Int) = (mid : Int)) := by show _ = _; omega
              have hhj : Hid ((lo : Int) + 2 * (wd : Int) = (hi : Int)) := by show _ = _; omega
              have HMD : Hid (mid = lo + wd) := hmid
              have HHD : Hid (hi = lo + 2 * wd) := hhi
              clear hmid hhi
              go_wp2
              rw [hmi.out, hhj.out]
              have hml : lo ≤ mid := by have := HMD.out; omega
              have hmh : mid ≤ hi := by have := HMD.out; have := HHD.out; omega
              have hhn : hi ≤ n := by have := HHD.out; omega
              have hmn : mid ≤ n := by omega
              go_loopw [9, 10, 11] (fun a b z wr => ∃ (i j k : Nat) (ys' : List (Int × Int)), a = .int .i64 i ∧ b = .int .i64 j ∧ z = .int .i64 k ∧ MI xs ys lo mid hi i j k ys' ∧ Two B w ba bb xs ys' wr) (fun a b _ _ => (mid - (intOf a).toNat) + (hi - (intOf b).toNat))
              case atStart => exact ⟨lo, mid, lo, ys, rfl, rfl, rfl, MI.start HPI.out.len (by omega) (by omega) (by rw [HXL.out]; omega), HT.out⟩
              case round =>
                clear HT
                obtain ⟨i, j, k, ys', rfl, rfl, rfl, hM, hT'⟩ := hrel
                have m1 := hM.h1
                have m2 := hM.h2
                have m3 := hM.h3
                have m4 := hM.h4
                have m5 := hM.sum
                have HM : Hid (MI xs ys lo mid hi i j k ys') := hM
                have HT : Hid (Two B w ba bb xs ys' wr) := hT'
                have hkl : k < n ∨ n ≤ k := Nat.lt_or_ge k n
                clear hM hT'
                by_cases hc1 : i < mid
                · by_cases hc2 : j < hi
                  · have hi1 : i < xs.length := by rw [HXL.out]; omega
                    have hj1 : j < xs.length := by rw [HXL.out]; omega
                    have hkn : k < n := by omega
                    have hk1 : k < ys'.length := by rw [HM.out.len, HXL.out]; exact hkn
                    have hin : i < n := by omega
                    have hjn : j < n := by omega
                    obtain ⟨p0, p1⟩ := HT.out.ra.cells hi1
                    obtain ⟨q0, q1⟩ := HT.out.ra.cells hj1
                    have HL := MI.left HM.out hc1 hi1
                    have HRR := MI.right HM.out hc2 hj1
                    generalize hxi : xs[i] = xi at p0 p1 HL HRR
                    generalize hxj : xs[j] = xj at q0 q1 HL HRR
                    obtain ⟨i1, i2⟩ := xi
                    obtain ⟨j1, j2⟩ := xj
                    have HLL : Hid (j = _ ∨ _ → _) := HL
                    have HRL : Hid (i = _ ∨ _ → _) := HRR
                    have HXI : Hid (xs[i] = _) := hxi
                    have HXJ : Hid (xs[j] = _) := hxj
                    clear HL HRR hxi hxj hkl
                    go_wp2_with fail
                    go_region_held3 (fun w' => w'.cell? ⟨ba, j * 2, none⟩ = some (.int .i64 j1) ∧ w'.cell? ⟨ba, j * 2 + 1, none⟩ = some (.int .i64 j2) ∧ w'.cell? ⟨ba, i * 2, none⟩ = some (.int .i64 i1) ∧ w'.cell? ⟨ba, i * 2 + 1, none⟩ = some (.int .i64 i2))
                      (first | go_keep | (exact ⟨cell_stay hbs q0, cell_stay hbs q1, cell_stay hbs p0, cell_stay hbs p1⟩))
                      (first | (go_at_call 30; refine (kvLess_any j1 j2 i1 i2 _).mono ?_; rintro e ws ⟨rfl, hbs⟩))
                    have hbs2 : Below wr.heap.size wr ws := ((Below.refl wr.heap.size wr).drew).trans (hbs.mono (show wr.heap.size ≤ wr.drew.heap.size from Nat.le_refl _))
                    have HT2 : Hid (Two B w ba bb xs ys' ws) := HT.out.stay hbs2 HT.out.B
                    clear hbs hbs2 p0 p1 q0 q1 HT
                    obtain ⟨r0, r1⟩ := HT2.out.rb.cells hk1
                    have f0 := HT2.out.rb.frozen (k * 2)
                    have f1 := HT2.out.rb.frozen (k * 2 + 1)
                    have hnb := HT2.out.ne
                    generalize ys'[k] = yk at r0 r1
                    obtain ⟨p0, p1⟩ := HT2.out.ra.cells hi1
                    obtain ⟨q0, q1⟩ := HT2.out.ra.cells hj1
                    rw [HXI.out] at p0 p1
                    rw [HXJ.out] at q0 q1
                    cases hkv : kvL (j1, j2) (i1, i2)
                    · go_wp2
                      exact ⟨⟨.int .i64 ((i + 1 : Nat) : Int), .int .i64 (j : Int), .int .i64 ((k + 1 : Nat) : Int), ⟨i + 1, rfl, j, rfl, k + 1, rfl, _, HLL.out (.inr ⟨hj1, by first | exact hkv | (rw [HXJ.out]; exact hkv) | (rw [HXI.out]; exact hkv) | (rw [HXJ.out, HXI.out]; exact hkv)⟩), HT2.out.set hk1⟩, by go_num, rfl, by go_num⟩, by simp [intOf]; omega⟩
                    · go_wp2
                      exact ⟨⟨.int .i64 (i : Int), .int .i64 ((j + 1 : Nat) : Int), .int .i64 ((k + 1 : Nat) : Int), ⟨i, rfl, j + 1, rfl, k + 1, rfl, _, HRL.out (.inr ⟨hi1, by first | exact hkv | (rw [HXJ.out]; exact hkv) | (rw [HXI.out]; exact hkv) | (rw [HXJ.out, HXI.out]; exact hkv)⟩), HT2.out.set hk1⟩, rfl, by go_num, by go_num⟩, by simp [intOf]; omega⟩
                  · skip
                    clear hkl
                    have hdj : i = mid ∨ j = hi := by omega
                    go_wp2
                    go_loopw [9, 11] (fun a z wr => ∃ (i k : Nat) (ys' : List (Int × Int)), a = .int .i64 i ∧ z = .int .i64 k ∧ MI xs ys lo mid hi i j k ys' ∧ (i = mid ∨ j = hi) ∧ Two B w ba bb xs ys' wr) (fun a _ _ => mid - (intOf a).toNat)
                    case atStart => exact ⟨i, k, ys', rfl, rfl, HM.out, hdj, HT.out⟩
                    case round =>
                      clear HM HT hdj m1 m2 m3 m4 m5 hc1
                      obtain ⟨i, k, ys', rfl, rfl, hM, hdj, hT'⟩ := hrel
                      have m1 := hM.h1
                      have m2 := hM.h2
                      have m3 := hM.h3
                      have m4 := hM.h4
                      have m5 := hM.sum
                      have HM : Hid (MI xs ys lo mid hi i j k ys') := hM
                      have HT : Hid (Two B w ba bb xs ys' wr) := hT'
                      clear hM hT'
                      by_cases hc1 : i < mid
                      · have hi1 : i < xs.length := by rw [HXL.out]; omega
                        have hjh : j = hi := by omega
                        have hkn : k < n := by omega
                        have hk1 : k < ys'.length := by rw [HM.out.len, HXL.out]; exact hkn
                        have hin : i < n := by omega
                        obtain ⟨p0, p1⟩ := HT.out.ra.cells hi1
                        have HL := MI.left HM.out hc1 hi1 (.inl hjh)
                        have HJH : Hid (j = _) := hjh
                        clear hjh hdj
                        generalize xs[i] = xi at p0 p1 HL
                        obtain ⟨i1, i2⟩ := xi
                        have HLL : Hid (MI _ _ _ _ _ _ _ _ _) := HL
                        clear HL
                        obtain ⟨r0, r1⟩ := HT.out.rb.cells hk1
                        have f0 := HT.out.rb.frozen (k * 2)
                        have f1 := HT.out.rb.frozen (k * 2 + 1)
                        have hnb := HT.out.ne
                        generalize ys'[k] = yk at r0 r1
                        go_wp2
                        go_roundw
                        case rel => exact ⟨i + 1, k + 1, _, by go_num, by go_num, HLL.out, .inr HJH.out, HT.out.set hk1⟩
                        case measure => simp [intOf]; omega
                      · have him : i = mid := by omega
                        clear hdj
                        have HM2 : Hid (MI xs ys lo mid hi mid j k ys') := by have := HM.out; rwa [him] at this
                        have m6 : k = j := by omega
                        clear HM m1 m2 m5 him
                        go_wp2
                        go_loopw [10, 11] (fun a z wr => ∃ (j k : Nat) (ys' : List (Int × Int)), a = .int .i64 j ∧ z = .int .i64 k ∧ MI xs ys lo mid hi mid j k ys' ∧ Two B w ba bb xs ys' wr) (fun a _ _ => hi - (intOf a).toNat)
                        case atStart => exact ⟨j, k, ys', rfl, rfl, HM2.out, HT.out⟩
                        case round =>
                          clear HM2 HT m3 m4 m6
                          obtain ⟨j, k, ys', rfl, rfl, hM, hT'⟩ := hrel
                          have m3 := hM.h3
                          have m4 := hM.h4
                          have m5 := hM.sum
                          have HM : Hid (MI xs ys lo mid hi mid j k ys') := hM
                          have HT : Hid (Two B w ba bb xs ys' wr) := hT'
                          clear hM hT'
                          by_cases hc2 : j < hi
                          · have hj1 : j < xs.length := by rw [HXL.out]; omega
                            have hkn : k < n := by omega
                            have hk1 : k < ys'.length := by rw [HM.out.len, HXL.out]; exact hkn
                            have hjn : j < n := by omega
                            obtain ⟨p0, p1⟩ := HT.out.ra.cells hj1
                            have HL := MI.right HM.out hc2 hj1 (.inl rfl)
                            generalize xs[j] = xj at p0 p1 HL
                            obtain ⟨i1, i2⟩ := xj
                            have HLL : Hid (MI _ _ _ _ _ _ _ _ _) := HL
                            clear HL
                            obtain ⟨r0, r1⟩ := HT.out.rb.cells hk1
                            have f0 := HT.out.rb.frozen (k * 2)
                            have f1 := HT.out.rb.frozen (k * 2 + 1)
                            have hnb := HT.out.ne
                            generalize ys'[k] = yk at r0 r1
                            go_wp2
                            go_roundw
                            case rel => exact ⟨j + 1, k + 1, _, by go_num, by go_num, HLL.out, HT.out.set hk1⟩
                            case measure => simp [intOf]; omega
                          · go_wp2
                            go_roundw
                            case rel => exact ⟨c + 1, ys', by rw [Nat.add_mul, Nat.one_mul, ← HLO.out]; go_num, by rw [Nat.add_mul, Nat.one_mul, ← HLO.out]; omega, PI.step HPI.out HS.out (by have := HMD.out; rw [HXL.out, ← HLO.out]; omega) (by have := HHD.out; rw [HXL.out, ← HLO.out]; omega) (HLO.out ▸ HM.out) (by omega), HT.out⟩
                            case measure => simp [intOf]; omega
                · skip
                  clear hkl
                  have hdj : i = mid ∨ j = hi := by omega
                  go_wp2
                  go_loopw [9, 11] (fun a z wr => ∃ (i k : Nat) (ys' : List (Int × Int)), a = .int .i64 i ∧ z = .int .i64 k ∧ MI xs ys lo mid hi i j k ys' ∧ (i = mid ∨ j = hi) ∧ Two B w ba bb xs ys' wr) (fun a _ _ => mid - (intOf a).toNat)
                  case atStart => exact ⟨i, k, ys', rfl, rfl, HM.out, hdj, HT.out⟩
                  case round =>
                    clear HM HT hdj m1 m2 m3 m4 m5 hc1
                    obtain ⟨i, k, ys', rfl, rfl, hM, hdj, hT'⟩ := hrel
                    have m1 := hM.h1
                    have m2 := hM.h2
                    have m3 := hM.h3
                    have m4 := hM.h4
                    have m5 := hM.sum
                    have HM : Hid (MI xs ys lo mid hi i j k ys') := hM
                    have HT : Hid (Two B w ba bb xs ys' wr) := hT'
                    clear hM hT'
                    by_cases hc1 : i < mid
                    · have hi1 : i < xs.length := by rw [HXL.out]; omega
                      have hjh : j = hi := by omega
                      have hkn : k < n := by omega
                      have hk1 : k < ys'.length := by rw [HM.out.len, HXL.out]; exact hkn
                      have hin : i < n := by omega
                      obtain ⟨p0, p1⟩ := HT.out.ra.cells hi1
                      have HL := MI.left HM.out hc1 hi1 (.inl hjh)
                      have HJH : Hid (j = _) := hjh
                      clear hjh hdj
                      generalize xs[i] = xi at p0 p1 HL
                      obtain ⟨i1, i2⟩ := xi
                      have HLL : Hid (MI _ _ _ _ _ _ _ _ _) := HL
                      clear HL
                      obtain ⟨r0, r1⟩ := HT.out.rb.cells hk1
                      have f0 := HT.out.rb.frozen (k * 2)
                      have f1 := HT.out.rb.frozen (k * 2 + 1)
                      have hnb := HT.out.ne
                      generalize ys'[k] = yk at r0 r1
                      go_wp2
                      go_roundw
                      case rel => exact ⟨i + 1, k + 1, _, by go_num, by go_num, HLL.out, .inr HJH.out, HT.out.set hk1⟩
                      case measure => simp [intOf]; omega
                    · have him : i = mid := by omega
                      clear hdj
                      have HM2 : Hid (MI xs ys lo mid hi mid j k ys') := by have := HM.out; rwa [him] at this
                      have m6 : k = j := by omega
                      clear HM m1 m2 m5 him
                      go_wp2
                      go_loopw [10, 11] (fun a z wr => ∃ (j k : Nat) (ys' : List (Int × Int)), a = .int .i64 j ∧ z = .int .i64 k ∧ MI xs ys lo mid hi mid j k ys' ∧ Two B w ba bb xs ys' wr) (fun a _ _ => hi - (intOf a).toNat)
                      case atStart => exact ⟨j, k, ys', rfl, rfl, HM2.out, HT.out⟩
                      case round =>
                        clear HM2 HT m3 m4 m6
                        obtain ⟨j, k, ys', rfl, rfl, hM, hT'⟩ := hrel
                        have m3 := hM.h3
                        have m4 := hM.h4
                        have m5 := hM.sum
                        have HM : Hid (MI xs ys lo mid hi mid j k ys') := hM
                        have HT : Hid (Two B w ba bb xs ys' wr) := hT'
                        clear hM hT'
                        by_cases hc2 : j < hi
                        · have hj1 : j < xs.length := by rw [HXL.out]; omega
                          have hkn : k < n := by omega
                          have hk1 : k < ys'.length := by rw [HM.out.len, HXL.out]; exact hkn
                          have hjn : j < n := by omega
                          obtain ⟨p0, p1⟩ := HT.out.ra.cells hj1
                          have HL := MI.right HM.out hc2 hj1 (.inl rfl)
                          generalize xs[j] = xj at p0 p1 HL
                          obtain ⟨i1, i2⟩ := xj
                          have HLL : Hid (MI _ _ _ _ _ _ _ _ _) := HL
                          clear HL
                          obtain ⟨r0, r1⟩ := HT.out.rb.cells hk1
                          have f0 := HT.out.rb.frozen (k * 2)
                          have f1 := HT.out.rb.frozen (k * 2 + 1)
                          have hnb := HT.out.ne
                          generalize ys'[k] = yk at r0 r1
                          go_wp2
                          go_roundw
                          case rel => exact ⟨j + 1, k + 1, _, by go_num, by go_num, HLL.out, HT.out.set hk1⟩
                          case measure => simp [intOf]; omega
                        · go_wp2
                          go_roundw
                          case rel => exact ⟨c + 1, ys', by rw [Nat.add_mul, Nat.one_mul, ← HLO.out]; go_num, by rw [Nat.add_mul, Nat.one_mul, ← HLO.out]; omega, PI.step HPI.out HS.out (by have := HMD.out; rw [HXL.out, ← HLO.out]; omega) (by have := HHD.out; rw [HXL.out, ← HLO.out]; omega) (HLO.out ▸ HM.out) (by omega), HT.out⟩
                          case measure => simp [intOf]; omega
        · have HD : Hid (_ ∧ _) := HPI.out.done (by rw [HXL.out, ← HLO.out]; omega)
          go_wp2
          go_roundw
          case rel =>
            refine ⟨bb, ba, cb, ca, wd * 2, ys, xs, rfl, rfl, by go_num, by omega, by omega, ⟨HT.out.rb, HT.out.ra, HT.out.ne.symm, HT.out.lb, HT.out.la, HT.out.bel⟩, by rw [HPI.out.len, HXL.out], HXL.out, HD.out.1.trans HP.out, fun t => ?_⟩
            have := HD.out.2 t
            rwa [Nat.mul_comm wd 2]
          case measure => simp [intOf]; omega
    · go_wp2
      go_ret
      refine ⟨ba, ca, xs, rfl, HT.out.ra, HP.out, ?_, HT.out.bel⟩
      have := HS.out 0
      unfold seg at this
      rwa [Nat.zero_mul, List.drop_zero, List.take_of_length_le (by rw [HXL.out]; omega)] at this
end Go.Proofs.Qxb6000864a
