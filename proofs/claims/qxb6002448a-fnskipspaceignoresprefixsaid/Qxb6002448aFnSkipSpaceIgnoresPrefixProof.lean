import Derived.Test.Qxb6002448aRows
import Derived.WalkKit
import Derived.ProofKit
import Derived.OpenShut
import Derived.ShutString
import Derived.ChangeOld
import Derived.Below
import Derived.WalkSpells
import Derived.WalkLawsBesides
import Derived.Deep.OwnRows
namespace Go.Proofs.Qxb6002448a.fnSkipSpaceIgnoresPrefix
open Go.ChangeShapes Go.WideShapes Go.ChangeAt Go.RowKit
open Go.ChangeMaps (open_string shut_string)
set_option linter.unusedVariables false

theorem own : ownKnob Try.prog.godebug = none := by kernel_rfl
theorem laidOut : laidOutB Try.prog = true := by kernel_rfl

/-- WHAT THE WALK IS TOLD OF A SLICE OF INTEGERS THAT CAME IN: it is nil; or it leads to a row of 'cap' cells, the numbers 'zs' (the first 'len' are its elements, the rest its spare room), each fitting its kind. -/
def IsRow (k : IntKind) (w : World) (a : Option Addr) (len cap : Nat) (zs : List Int) : Prop :=
  (a = none ∧ len = 0 ∧ cap = 0 ∧ zs = []) ∨
  ∃ x, a = some x ∧ len ≤ cap ∧ cap ≤ maxLen ∧ zs.length = cap ∧ (∀ i, i < zs.length → w.cell? (x.add i) = some (.int k (zs.getD i 0))) ∧ ∀ n ∈ zs, (Lit.int k n).wf = true

/-- the slice value v holds the bytes zs. -/
def BAt (w : World) (v : Value) (zs : List Int) : Prop :=
  zs.length ≤ maxLen ∧ ∃ a cap, v = .slice a zs.length cap ∧ ∀ i (h : i < zs.length), ∃ b off, a = some ⟨b, off, none⟩ ∧ w.cell? ⟨b, off + i, none⟩ = some (.int .u8 zs[i])
theorem cell_lt {w : World} {a : Addr} {v : Value} (h : w.cell? a = some v) : a.block < w.heap.size := by
  unfold World.cell? at h
  split at h
  · rename_i h1; exact (Array.getElem?_eq_some_iff.1 h1).1
  · cases h
theorem cell_stay {w w' : World} (hb : Below w.heap.size w w') {a : Addr} {v : Value} (h : w.cell? a = some v) : w'.cell? a = some v := by
  rw [hb.cell (cell_lt h)]; exact h
theorem BAt.stay {w w' : World} (hb : Below w.heap.size w w') {v : Value} {zs : List Int} (h : BAt w v zs) : BAt w' v zs := by
  obtain ⟨h0, a, cap, hv, h⟩ := h
  refine ⟨h0, a, cap, hv, fun i hi => ?_⟩
  obtain ⟨b, off, ha, h⟩ := h i hi
  exact ⟨b, off, ha, cell_stay hb h⟩
def isSp (z : Int) : Bool := z == 32 || z == 9 || z == 10 || z == 13
/-- how many spaces lead. -/
def lead : List Int → Nat
  | [] => 0
  | z :: r => if isSp z = true then lead r + 1 else 0
theorem lead_le : ∀ l : List Int, lead l ≤ l.length
  | [] => Nat.le_refl _
  | z :: r => by
    unfold lead
    split
    · have := lead_le r; simp; omega
    · omega
theorem lead_drop {zs : List Int} {k : Nat} (h : k < zs.length) : lead (zs.drop k) = if isSp zs[k] = true then lead (zs.drop (k + 1)) + 1 else 0 := by
  rw [List.drop_eq_getElem_cons h]; rfl
set_option maxHeartbeats 1000000 in
theorem skip_any (v : Value) (zs : List Int) (i : Nat) (w : World) (hv : BAt w v zs) (hi : i ≤ zs.length) :
    Calls Try.prog 18 #[v, .int .i64 i] w fun e w' => e = .returned (.int .i64 ((i + lead (zs.drop i) : Nat) : Int)) ∧ w' = w := by
  obtain ⟨h0, a, cap, rfl, hc⟩ := hv
  have HC : Hid (∀ i (h : i < zs.length), ∃ b off, a = some ⟨b, off, none⟩ ∧ w.cell? ⟨b, off + i, none⟩ = some (.int .u8 zs[i])) := hc
  obtain ⟨n, hn⟩ : ∃ n, n = zs.length := ⟨_, rfl⟩
  have HN : Hid (n = zs.length) := hn
  rw [← hn] at h0 hi ⊢
  obtain ⟨r, hr⟩ : ∃ r, r = i + lead (zs.drop i) := ⟨_, rfl⟩
  have HR : Hid (r = i + lead (zs.drop i)) := hr
  rw [← hr]
  clear hc hn hr
  unfold maxLen at h0
  go_enter Try.func18, Try.ntmps18
  go_wp2
  go_loop [1] (fun t => ∃ k : Nat, k ≤ n ∧ t = .int .i64 k ∧ k + lead (zs.drop k) = r) (fun t => n - (intOf t).toNat)
  case atStart => exact ⟨i, hi, rfl, HR.out.symm⟩
  case round =>
    obtain ⟨k, hk, rfl, he⟩ := hrel
    have HE : Hid (k + lead (zs.drop k) = r) := he
    clear he
    by_cases hlt : k < n
    · have hk1 : k < zs.length := by have := HN.out; omega
      obtain ⟨b, o, rfl, hcell⟩ := HC.out k hk1
      have HL : Hid (_ = _) := lead_drop hk1
      obtain ⟨z, hz⟩ : ∃ z, z = zs[k] := ⟨_, rfl⟩
      rw [← hz] at hcell HL
      clear hz
      have hl1 : (k : Int) < (n : Int) := by omega
      go_wp2
      all_goals first
        | (go_round
           case rel => exact ⟨k + 1, by omega, by go_num, by
             have h1 : isSp z = true := by unfold isSp; simp_all
             have h2 := HL.out
             rw [if_pos h1] at h2
             have h3 := HE.out
             omega⟩
           case measure => simp [intOf]; omega)
        | (go_ret
           have h1 : isSp z = false := by unfold isSp; simp_all
           have h2 := HL.out
           rw [if_neg (by rw [h1]; simp)] at h2
           have h3 := HE.out
           have h4 : r = k := by omega
           exact ⟨by rw [h4]; rfl, rfl⟩)
    · have hl1 : decide ((k : Int) < (n : Int)) = false := by simp; omega
      have HF : Hid (r = k) := by
        show _ = _
        rw [← HE.out, List.drop_of_length_le (by have := HN.out; omega)]; rfl
      go_wp2
      go_ret
      exact ⟨by rw [HF.out]; rfl, rfl⟩
theorem zzskip_any (v : Value) (zs : List Int) (i : Nat) (w : World) (hv : BAt w v zs) (hi : i ≤ zs.length) :
    Calls Try.prog 10 #[v, .int .i64 i] w fun e w' => e = .returned (.int .i64 ((i + lead (zs.drop i) : Nat) : Int)) ∧ w' = w := by
  have HV : Hid (BAt w v zs) := hv
  obtain ⟨n, a, c, rfl⟩ : ∃ n a c, v = .slice a n c := by obtain ⟨_, a, c, rfl, _⟩ := hv; exact ⟨_, _, _, rfl⟩
  obtain ⟨r, hr⟩ : ∃ r, r = i + lead (zs.drop i) := ⟨_, rfl⟩
  have HR : Hid (r = i + lead (zs.drop i)) := hr
  rw [← hr]
  clear hv hr
  go_enter Try.func10, Try.ntmps10
  go_wp2_with fail
  refine (skip_any _ zs i _ HV.out hi).mono ?_
  rintro e w' ⟨rfl, rfl⟩
  rw [← HR.out]
  go_wp2
  go_ret
  exact ⟨rfl, rfl⟩
theorem info5 : (Try.prog.info? 5).map (fun i => (i.zero, i.size, i.bytes)) = some (some (.int .u8 0), 1, 1) := by kernel_rfl
/-- a row that the call itself has laid. -/
theorem BAt_row {w : World} {B n : Nat} {t : TypeId} {f : Nat → Value} {zs : List Int} (h : w.rowIs B t n f) (hn : n = zs.length) (hm : n ≤ maxLen) (hf : ∀ j (hj : j < zs.length), f j = .int .u8 zs[j]) : BAt w (.slice (some ⟨B, 0, none⟩) n n) zs := by
  refine ⟨by omega, _, n, by rw [hn], fun i hi => ⟨B, 0, rfl, ?_⟩⟩
  rw [Nat.zero_add, ← hf i hi]
  exact h.cell (by omega)
set_option maxHeartbeats 1000000 in
theorem clone_any (v : Value) (zs : List Int) (w : World) (hv : BAt w v zs) (hs : zs.length ≤ 1048576) :
    Calls Try.prog 9 #[v] w fun e w' => ∃ v', e = .returned v' ∧ BAt w' v' zs ∧ Below w.heap.size w w' := by
  obtain ⟨h0, a, cap, rfl, hc⟩ := hv
  have HC : Hid (∀ i (h : i < zs.length), ∃ b off, a = some ⟨b, off, none⟩ ∧ w.cell? ⟨b, off + i, none⟩ = some (.int .u8 zs[i])) := hc
  have hq := fun W => Lib.run_eql_slice_nil (P := Try.prog) W 22 5 a zs.length cap 0 0 Try.underlying22
  clear h0
  cases a with
  | none =>
    have hz : zs = [] := by
      cases zs with
      | nil => rfl
      | cons z r => obtain ⟨_, _, h, _⟩ := hc 0 (by simp); cases h
    subst hz
    clear hc HC hq
    have hq := fun W => Lib.run_eql_slice_nil (P := Try.prog) W 22 5 none 0 cap 0 0 Try.underlying22
    show Calls Try.prog 9 #[.slice none 0 cap] w _
    go_enter Try.func9, Try.ntmps9
    go_wp2
    go_ret
    exact ⟨_, rfl, ⟨by simp, none, 0, rfl, fun i h => absurd h (by simp)⟩, Below.refl _ _⟩
  | some ad =>
    obtain ⟨n, hn⟩ : ∃ n, n = zs.length := ⟨_, rfl⟩
    have HN : Hid (n = zs.length) := hn
    rw [← hn] at hs hq ⊢
    clear hc hn
    have hmk := run_make_row' (P := Try.prog) 22 5 (.int .u8 0) 1 Try.underlying22 info5 rfl .i64 .i64 n (by omega) (by omega)
    go_enter Try.func9, Try.ntmps9
    go_wp2
    clear hmk hq
    go_loopw [4] (fun i wr => ∃ k : Nat, k ≤ n ∧ i = .int .i64 k ∧ (∃ f, wr.rowIs w.heap.size 5 n f ∧ ∀ j (hj : j < zs.length), j < k → f j = .int .u8 zs[j]) ∧ Below w.heap.size w wr) (fun i _ => n - (intOf i).toNat)
    case atStart => exact ⟨0, by omega, rfl, ⟨_, World.rowIs_made _ _ _ _, fun j _ h => absurd h (by omega)⟩, (Below.refl _ _).alloc (Nat.le_refl _) _⟩
    case round =>
      obtain ⟨k, hk, rfl, ⟨f, hrow, hf⟩, hbw⟩ := hrel
      by_cases hlt : k < n
      · have hk1 : k < zs.length := by have := HN.out; omega
        obtain ⟨b, o, hab, hcell⟩ := HC.out k hk1
        cases hab
        have hcell' := cell_stay hbw hcell
        have HZ : Hid (∀ z : Int, z = zs[k] → z = zs[k]) := fun z h => h
        obtain ⟨z, hz⟩ : ∃ z, z = zs[k] := ⟨_, rfl⟩
        rw [← hz] at hcell hcell'
        have HZK : Hid (z = zs[k]) := hz
        clear hz hcell HZ
        have l1 := cell_lt hcell'
        have r0 := hrow.cell hlt
        have f0 := hrow.frozen k
        have l2 := hrow.lt
        have HRW : Hid (wr.rowIs w.heap.size 5 n f) := hrow
        have HF : Hid (∀ j (hj : j < zs.length), j < k → f j = .int .u8 zs[j]) := hf
        clear hrow hf
        go_wp2
        go_roundw
        case rel => exact ⟨k + 1, by omega, by go_num, ⟨_, HRW.out.set k _, fun j hj hjk => by
          by_cases h : j = k
          · subst h; rw [if_pos rfl, ← HZK.out]
          · rw [if_neg h]; exact HF.out j hj (by omega)⟩, hbw.setCell (Nat.le_refl _) _⟩
        case measure => simp [intOf]; omega
      · have HB : Hid (BAt wr (.slice (some ⟨w.heap.size, 0, none⟩) n n) zs) := BAt_row hrow HN.out (by unfold maxLen; omega) (fun j hj => hf j hj (by have := HN.out; omega))
        clear hrow hf
        go_wp2
        go_ret
        exact ⟨_, rfl, HB.out, hbw⟩
set_option maxHeartbeats 400000 in
theorem zz13_any (n1 n2 c1 c2 : Nat) (a1 a2 : Option Addr) (x : Int) (h1 : n1 ≤ maxLen) (h2 : n2 ≤ maxLen) (w : World) :
    Calls Try.prog 13 #[.slice a1 n1 c1, .slice a2 n2 c2, .int .i64 x] w fun e w' => ((e = .returned (.bool true) ∧ n1 + n2 ≤ 1048576) ∨ e = .returned (.bool false)) ∧ w' = w := by
  unfold maxLen at h1 h2
  go_enter Try.func13, Try.ntmps13
  go_wp2
  all_goals (go_ret; first | exact ⟨.inr rfl, rfl⟩ | exact ⟨.inl ⟨rfl, by omega⟩, rfl⟩)
theorem lead_app (p b : List Int) (i : Nat) : lead ((p ++ b).drop (p.length + i)) = lead (b.drop i) := by
  rw [List.drop_append, List.drop_of_length_le (show p.length ≤ p.length + i by omega)]
  simp
set_option maxRecDepth 100000 in
set_option maxHeartbeats 2000000 in
theorem walk1 (v1 v2 : Value) (ps bs : List Int) (a2 : Int) (w : World) (h1 : BAt w v1 ps) (h2 : BAt w v2 bs) (w2 : (Lit.int .i64 a2).wf = true) :
    Calls Try.prog 5 #[v1, v2, .int .i64 a2] w fun e w' => e = .returned (.bool true) ∧ Below w.heap.size w w' := by
  have H1 : Hid (BAt w v1 ps) := h1
  have H2 : Hid (BAt w v2 bs) := h2
  obtain ⟨m1, aa1, c1, rfl, _⟩ := h1
  obtain ⟨m2, aa2, c2, rfl, _⟩ := h2
  obtain ⟨n1, hn1⟩ : ∃ n, n = ps.length := ⟨_, rfl⟩
  obtain ⟨n2, hn2⟩ : ∃ n, n = bs.length := ⟨_, rfl⟩
  have HN1 : Hid (n1 = ps.length) := hn1
  have HN2 : Hid (n2 = bs.length) := hn2
  rw [← hn1] at m1 H1 ⊢
  rw [← hn2] at m2 H2 ⊢
  clear hn1 hn2
  have m1' := m1
  have m2' := m2
  unfold maxLen at m1 m2
  go_enter Try.func5, Try.ntmps5
  go_wp2_with fail
  refine (zz13_any _ _ _ _ _ _ _ m1' m2' _).mono ?_
  rintro e w ⟨⟨rfl, hb1⟩ | rfl, rfl⟩
  rotate_left
  · go_wp2
    go_ret
    exact ⟨rfl, Below.refl _ _⟩
  by_cases hi0 : a2 < 0
  · go_wp2
    go_ret
    exact ⟨rfl, Below.refl _ _⟩
  by_cases hi1 : (n2 : Int) < a2
  · go_wp2
    go_ret
    exact ⟨rfl, Below.refl _ _⟩
  obtain ⟨i, rfl⟩ := Int.eq_ofNat_of_zero_le (show 0 ≤ a2 by omega)
  have hi : i ≤ n2 := by omega
  clear w2 hi0 hi1 m1' m2'
  go_wp2_with fail
  refine (clone_any _ ps _ H1.out (by have := HN1.out; omega)).mono ?_
  rintro e wa ⟨p1, rfl, hp1, hba⟩
  have P1 : Hid (BAt wa p1 ps) := hp1
  obtain ⟨_, pa, pc, rfl, _⟩ := hp1
  rw [← HN1.out] at P1 ⊢
  have H2a : Hid (BAt wa (.slice aa2 n2 c2) bs) := H2.out.stay hba
  have HBA : Hid (Below w.heap.size w wa) := hba
  clear hba
  go_wp2_with fail
  refine (clone_any _ bs _ H2a.out (by have := HN2.out; omega)).mono ?_
  rintro e wb ⟨q1, rfl, hq1, hbb⟩
  have Q1 : Hid (BAt wb q1 bs) := hq1
  obtain ⟨_, qa, qc, rfl, _⟩ := hq1
  rw [← HN2.out] at Q1 ⊢
  have P1b : Hid (BAt wb (.slice pa n1 pc) ps) := P1.out.stay hbb
  have HBB : Hid (Below w.heap.size w wb) := HBA.out.trans (hbb.mono HBA.out.size)
  clear hbb
  have hmk := run_make_row' (P := Try.prog) 22 5 (.int .u8 0) 1 Try.underlying22 info5 rfl .i64 .i64 (n1 + n2) (by omega) (by omega)
  rw [Int.natCast_add] at hmk
  go_wp2
  clear hmk
  go_loopw [8] (fun i wr => ∃ k : Nat, k ≤ n1 ∧ i = .int .i64 k ∧ (∃ f, wr.rowIs wb.heap.size 5 (n1 + n2) f ∧ ∀ j (hj : j < ps.length), j < k → f j = .int .u8 ps[j]) ∧ Below wb.heap.size wb wr) (fun i _ => n1 - (intOf i).toNat)
  case atStart => exact ⟨0, by omega, rfl, ⟨_, World.rowIs_made _ _ _ _, fun j _ h => absurd h (by omega)⟩, (Below.refl _ _).alloc (Nat.le_refl _) _⟩
  case round =>
    obtain ⟨k, hk, rfl, ⟨f, hrow, hf⟩, hbw⟩ := hrel
    by_cases hlt : k < n1
    · have hk1 : k < ps.length := by have := HN1.out; omega
      obtain ⟨_, pa', pc', hpv, hpp⟩ := P1b.out
      obtain ⟨b, o, hab, hcell⟩ := hpp k hk1
      obtain rfl : pa = pa' := by simpa using (Value.slice.inj hpv).1
      subst hab
      have hcell' := cell_stay hbw hcell
      obtain ⟨z, hz⟩ : ∃ z, z = ps[k] := ⟨_, rfl⟩
      rw [← hz] at hcell'
      have HZK : Hid (z = ps[k]) := hz
      clear hz hcell hpp
      have l1 := cell_lt hcell'
      have r0 := hrow.cell (i := k) (by omega)
      have f0 := hrow.frozen k
      have l2 := hrow.lt
      have HRW : Hid (wr.rowIs wb.heap.size 5 (n1 + n2) f) := hrow
      have HF : Hid (∀ j (hj : j < ps.length), j < k → f j = .int .u8 ps[j]) := hf
      clear hrow hf
      go_wp2
      go_roundw
      case rel => exact ⟨k + 1, by omega, by go_num, ⟨_, HRW.out.set k _, fun j hj hjk => by
        by_cases h : j = k
        · subst h; rw [if_pos rfl, ← HZK.out]
        · rw [if_neg h]; exact HF.out j hj (by omega)⟩, hbw.setCell (Nat.le_refl _) _⟩
      case measure => simp [intOf]; omega
    · have HRW0 : Hid (wr.rowIs wb.heap.size 5 (n1 + n2) f) := hrow
      have HF0 : Hid (∀ j (hj : j < ps.length), f j = .int .u8 ps[j]) := fun j hj => hf j hj (by have := HN1.out; omega)
      clear hrow hf
      go_wp2
      obtain ⟨wc, hwc⟩ : ∃ wc : World, wc = wr := ⟨_, rfl⟩
      subst hwc
      go_loopw [9] (fun i wr => ∃ k : Nat, k ≤ n2 ∧ i = .int .i64 k ∧ (∃ f, wr.rowIs wb.heap.size 5 (n1 + n2) f ∧ (∀ j (hj : j < ps.length), f j = .int .u8 ps[j]) ∧ ∀ j (hj : j < bs.length), j < k → f (n1 + j) = .int .u8 bs[j]) ∧ Below wb.heap.size wb wr) (fun i _ => n2 - (intOf i).toNat)
      case atStart => exact ⟨0, by omega, rfl, ⟨_, HRW0.out, HF0.out, fun j _ h => absurd h (by omega)⟩, hbw⟩
      case round =>
        clear hbw HRW0 HF0
        obtain ⟨k', hk', rfl, ⟨g, hrow, hf, hg⟩, hbw⟩ := hrel
        by_cases hlt2 : k' < n2
        · have hk1 : k' < bs.length := by have := HN2.out; omega
          obtain ⟨_, qa', qc', hqv, hqq⟩ := Q1.out
          obtain ⟨b, o, hab, hcell⟩ := hqq k' hk1
          obtain rfl : qa = qa' := by simpa using (Value.slice.inj hqv).1
          subst hab
          have hcell' := cell_stay hbw hcell
          obtain ⟨z, hz⟩ : ∃ z, z = bs[k'] := ⟨_, rfl⟩
          rw [← hz] at hcell'
          have HZK : Hid (z = bs[k']) := hz
          clear hz hcell hqq
          have l1 := cell_lt hcell'
          have r0 := hrow.cell (i := n1 + k') (by omega)
          have f0 := hrow.frozen (n1 + k')
          have l2 := hrow.lt
          have HRW : Hid (wr.rowIs wb.heap.size 5 (n1 + n2) g) := hrow
          have HF : Hid (∀ j (hj : j < ps.length), g j = .int .u8 ps[j]) := hf
          have HG : Hid (∀ j (hj : j < bs.length), j < k' → g (n1 + j) = .int .u8 bs[j]) := hg
          clear hrow hf hg
          go_wp2
          go_roundw
          case rel => exact ⟨k' + 1, by omega, by go_num, ⟨_, HRW.out.set (n1 + k') _, fun j hj => by
              rw [if_neg (by have := HN1.out; omega)]; exact HF.out j hj, fun j hj hjk => by
              by_cases h : j = k'
              · subst h; rw [if_pos rfl, ← HZK.out]
              · rw [if_neg (by omega)]; exact HG.out j hj (by omega)⟩, hbw.setCell (Nat.le_refl _) _⟩
          case measure => simp [intOf]; omega
        · have HCC : Hid (BAt wr (.slice (some ⟨wb.heap.size, 0, none⟩) (n1 + n2) (n1 + n2)) (ps ++ bs)) := by
            refine BAt_row hrow (by rw [List.length_append, ← HN1.out, ← HN2.out]) (by unfold maxLen; omega) (fun j hj => ?_)
            by_cases h : j < ps.length
            · rw [List.getElem_append_left h]; exact hf j h
            · rw [List.getElem_append_right (by omega)]
              have h2 : j - ps.length < bs.length := by rw [List.length_append] at hj; omega
              have := hg (j - ps.length) h2 (by have := HN2.out; omega)
              rw [show n1 + (j - ps.length) = j from by have := HN1.out; omega] at this
              exact this
          have HQQ : Hid (BAt wr (.slice qa n2 qc) bs) := Q1.out.stay hbw
          have HBW : Hid (Below w.heap.size w wr) := HBB.out.trans (hbw.mono HBB.out.size)
          have HLD : Hid (lead ((ps ++ bs).drop (n1 + i)) = lead (bs.drop i)) := by
            show _ = _
            rw [HN1.out]; exact lead_app ps bs i
          have hlb : lead (bs.drop i) ≤ n2 := Nat.le_trans (lead_le _) (by rw [List.length_drop]; have := HN2.out; omega)
          clear hrow hf hg
          go_wp2_with fail
          rw [show ((n1 : Int) + (i : Int)) = ((n1 + i : Nat) : Int) from by omega]
          refine (zzskip_any _ (ps ++ bs) (n1 + i) _ HCC.out (by rw [List.length_append]; have := HN1.out; have := HN2.out; omega)).mono ?_
          rintro e w ⟨rfl, rfl⟩
          rw [HLD.out]
          obtain ⟨r, hr⟩ : ∃ r, r = lead (bs.drop i) := ⟨_, rfl⟩
          have HR : Hid (r = lead (bs.drop i)) := hr
          rw [← hr] at hlb ⊢
          clear hr
          go_wp2_with fail
          refine (zzskip_any _ bs i _ HQQ.out (by have := HN2.out; omega)).mono ?_
          rintro e w ⟨rfl, rfl⟩
          rw [← HR.out]
          have hee : (((n1 + i + r : Nat) : Int) == (n1 : Int) + ((i + r : Nat) : Int)) = true := by simp; omega
          go_wp2
          go_ret
          exact ⟨by simp; omega, HBW.out⟩
theorem BAt_of_row {w : World} {a : Option Addr} {len cap : Nat} {zs : List Int} (h : IsRow .u8 w a len cap zs) : BAt w (.slice a len cap) (zs.take len) := by
  rcases h with ⟨rfl, rfl, rfl, rfl⟩ | ⟨x, rfl, hl, hm, hz, hc, _⟩
  · exact ⟨by simp, none, 0, rfl, fun i h => absurd h (by simp)⟩
  · have hlen : (zs.take len).length = len := by rw [List.length_take]; omega
    refine ⟨by omega, some x, cap, by rw [hlen], fun i hi => ?_⟩
    have h0 : 0 < zs.length := by omega
    have hsp : x.spot = none := by
      have := World.cell?_spot (hc 0 h0)
      simpa [Addr.add] using this
    have hi' : i < zs.length := by omega
    have hci := hc i hi'
    obtain ⟨b, o, sp⟩ := x
    simp only at hsp
    subst hsp
    rw [WideShapes.add_plain] at hci
    refine ⟨b, o, rfl, ?_⟩
    rw [hci]
    simp [List.getD, hi']
theorem walk (a0 : Option Addr) (len0 cap0 : Nat) (z0 : List Int) (a1 : Option Addr) (len1 cap1 : Nat) (z1 : List Int) (a2 : Int) (w : World) (w0 : IsRow .u8 w a0 len0 cap0 z0) (w1 : IsRow .u8 w a1 len1 cap1 z1) (w2 : (Lit.int .i64 a2).wf = true) :
    Calls Try.prog 5 #[.slice a0 len0 cap0, .slice a1 len1 cap1, .int .i64 a2] w fun e w' => e = .returned (.bool true) ∧ Below w.heap.size w w' :=
  walk1 _ _ _ _ a2 w (BAt_of_row w0) (BAt_of_row w1) w2

/-! ### THE ROW's STEP: WRITTEN OUT: LEAVE IT -/
set_option maxRecDepth 100000 in
theorem lifted (os : Os) (started : os.Started) (H : Type) (enc : TypeId × Value → H) :
    ReturnsInHanded {} Try.checked os 5 .any (Rows.fnSkipSpaceIgnoresPrefixSpec.pre6 enc Try.prog Try.f5 Rows.fnSkipSpaceIgnoresPrefixRow.domain false) (Rows.fnSkipSpaceIgnoresPrefixSpec.post enc Try.prog Try.f5 false true false false) := by
  refine returnsInHanded_of_change (C := Try.checked) own started (by kernel_rfl) Try.func5
    (ChangeSpec.witness6 (enc := enc) (C := Try.checked) false ⟨#[], #[.slice none 0 0, .slice none 0 0, .int .i64 0], []⟩ 8 (by kernel_rfl) (by kernel_rfl) (by kernel_rfl) (by kernel_rfl)) ?_
  intro W base args ds gs before hval0 hW hcnd _
  have hval : ∀ (j : Nat) t v, Try.f5.params[j]? = some t → args[j]? = some v → Value.okWide Try.prog W .any base t v := hval0
  have hW' := hW
  obtain ⟨p, q, hA0, hV, rfl, hfz, hnd⟩ := hW
  have hA : DataW.TrodAll enc Try.prog W 0 (fun _ => true) true Try.f5.params.toList args.toList ds p := hA0
  rw [Try.params5] at hA hval
  obtain ⟨v0, vs0, d0, ds0, p0, q0, hargs, rfl, rfl, h0, r0⟩ := trodAll_cons hA
  obtain ⟨v1, vs1, d1, ds1, p1, q1, rfl, rfl, rfl, h1, r1⟩ := trodAll_cons r0
  obtain ⟨v2, vs2, d2, ds2, p2, q2, rfl, rfl, rfl, h2, r2⟩ := trodAll_cons r1
  obtain ⟨rfl, rfl, rfl⟩ := trodAll_nil r2
  obtain rfl : args = #[v0, v1, v2] := by cases args; simp_all
  obtain ⟨rfl, rfl⟩ := trodVars_none hV
  obtain ⟨a0, len0, cap0, rfl⟩ := okWide_slice Try.underlying22 (hval 0 22 v0 rfl rfl)
  have k0 := h0
  have lt0 : ∀ x ∈ p0, x.block < W.heap.size := by obtain ⟨m, hm⟩ := k0; exact DataW.trod_lt m _ _ _ hm
  obtain ⟨z0, w0⟩ : ∃ zs, IsRow .u8 W a0 len0 cap0 zs := by
    obtain ⟨fuel, hf⟩ := h0
    rcases open_ints Try.underlying22 Try.underlying5 (by kernel_rfl) hf with ⟨hcs, _⟩ | ⟨x, l, c, zs, hcs, _, hl, hm, hz, _, hcell, hwz⟩
    · simp [Value.cells] at hcs
      obtain ⟨rfl, rfl, rfl⟩ := hcs
      exact ⟨[], .inl ⟨rfl, rfl, rfl, rfl⟩⟩
    · simp [Value.cells] at hcs
      obtain ⟨rfl, rfl, rfl⟩ := hcs
      exact ⟨zs, .inr ⟨_, rfl, hl, hm, by simpa using hz, hcell, hwz⟩⟩
  obtain ⟨a1, len1, cap1, rfl⟩ := okWide_slice Try.underlying22 (hval 1 22 v1 rfl rfl)
  have k1 := h1
  have lt1 : ∀ x ∈ p1, x.block < W.heap.size := by obtain ⟨m, hm⟩ := k1; exact DataW.trod_lt m _ _ _ hm
  obtain ⟨z1, w1⟩ : ∃ zs, IsRow .u8 W a1 len1 cap1 zs := by
    obtain ⟨fuel, hf⟩ := h1
    rcases open_ints Try.underlying22 Try.underlying5 (by kernel_rfl) hf with ⟨hcs, _⟩ | ⟨x, l, c, zs, hcs, _, hl, hm, hz, _, hcell, hwz⟩
    · simp [Value.cells] at hcs
      obtain ⟨rfl, rfl, rfl⟩ := hcs
      exact ⟨[], .inl ⟨rfl, rfl, rfl, rfl⟩⟩
    · simp [Value.cells] at hcs
      obtain ⟨rfl, rfl, rfl⟩ := hcs
      exact ⟨zs, .inr ⟨_, rfl, hl, hm, by simpa using hz, hcell, hwz⟩⟩
  obtain ⟨a2, rfl, rfl, rfl, w2⟩ := open_int Try.underlying3 (hval 2 3 v2 rfl rfl) h2
  clear hA0 hval0
  refine (walk a0 len0 cap0 z0 a1 len1 cap1 z1 a2 W w0 w1 w2).mono fun e W' ⟨he, bel⟩ => ?_
  subst he
  exact ⟨_, rfl, _, _, _, [], _, [], hW', trodAll_mk1 (shut_bool Try.underlying4 _), (trodAll_cons_mk (Below.trod laidOut (by kernel_rfl) (of_decide_eq_true (by kernel_rfl)) k0 bel lt0) (trodAll_cons_mk (Below.trod laidOut (by kernel_rfl) (of_decide_eq_true (by kernel_rfl)) k1 bel lt1) (trodAll_cons_mk (shut_int Try.underlying3 w2) trodAll_mk0))), rfl, bel.frame _, fun h => by cases h⟩

theorem over : Rows.fnSkipSpaceIgnoresPrefixRow.holds Try.pinned (OpenSpec.ofChange Rows.fnSkipSpaceIgnoresPrefixSpec) :=
  OpenClaim.holds_of_wide 5 Try.f5 rfl rfl rfl rfl rfl rfl rfl ⟨rfl, rfl, rfl, rfl, rfl⟩ rfl rfl rfl rfl rfl (by kernel_rfl) Try.func5 (by kernel_rfl)
    (of_decide_eq_true (by kernel_rfl)) (by unfold Func.isWrapper; first | (rw [if_pos (by decide +kernel)]; kernel_rfl) | (rw [if_neg (by decide +kernel)]; exact ⟨rfl, rfl⟩))
    (fun os started H enc _ => lifted os started H enc)

/-- ████ THE STATEMENT ████ -/
theorem proved : Rows.FnSkipSpaceIgnoresPrefixSaid := over
#print axioms proved
end Go.Proofs.Qxb6002448a.fnSkipSpaceIgnoresPrefix
