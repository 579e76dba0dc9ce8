import Derived.Test.Qxb6002448aRows
import Derived.WalkKit
import Derived.ProofKit
import Derived.OpenShut
import Derived.ShutString
import Derived.WalkSpells
import Derived.WalkLawsBesides
import Derived.Deep.OwnRows
namespace Go.Proofs.Qxb6002448a.fnDecimalReadsItoa
open Go.ChangeShapes Go.WideShapes Go.ChangeAt Go.RowKit
open Go.ChangeMaps (open_string shut_string)
set_option linter.unusedVariables false      -- a walk need not use every 'w<i>' (that an integer argument fits its kind)

theorem own : ownKnob Try.prog.godebug = none := by kernel_rfl

def dec (l : List UInt8) : Nat := l.foldl (fun acc c => acc * 10 + (c.toNat - 48)) 0
theorem dec_snoc (l : List UInt8) (c : UInt8) : dec (l ++ [c]) = dec l * 10 + (c.toNat - 48) := by
  unfold dec; rw [List.foldl_append]; rfl
theorem dec_take {l : List UInt8} {k : Nat} (h : k < l.length) : dec (l.take (k + 1)) = dec (l.take k) * 10 + (l[k].toNat - 48) := by
  rw [List.take_succ_eq_append_getElem h, dec_snoc]
theorem bytesRow_get (l : List UInt8) (cap : Nat) {k : Nat} (h : k < l.length) : (bytesRow ⟨l.toArray⟩ cap)[k]? = some (.int .u8 (l[k].toNat : Int)) := by
  unfold bytesRow
  rw [Array.getElem?_append_left (by simpa using h)]
  simp [h]
set_option maxHeartbeats 1000000 in
theorem decimal_any (l : List UInt8) (hl : ∀ k (h : k < l.length), 48 ≤ l[k].toNat ∧ l[k].toNat ≤ 57) (hn : l.length ≤ 1000) (hd : ∀ k, dec (l.take k) ≤ 999999999) (w : World) :
    Calls Try.prog 19 #[.string ⟨l.toArray⟩] w fun e w' => e = .returned (.int .i64 (dec l)) ∧ Below w.heap.size w w' := by
  have hcv := fun w => run_bytes_of_string (P := Try.prog) w 9 22 5 ⟨l.toArray⟩ Try.underlying9 Try.underlying22 Try.underlying5
  have HL : Hid (∀ k (h : k < l.length), 48 ≤ l[k].toNat ∧ l[k].toNat ≤ 57) := hl
  have HD : Hid (∀ k, dec (l.take k) ≤ 999999999) := hd
  clear hl hd
  go_enter Try.func19, Try.ntmps19
  go_wp2
  clear hcv
  obtain ⟨n, hnn⟩ : ∃ n, n = l.length := ⟨_, rfl⟩
  have HN : Hid (n = l.length) := hnn
  rw [← hnn] at hn ⊢
  clear hnn
  go_loopw [3, 9] (fun z i wr => ∃ k : Nat, k ≤ n ∧ i = .int .i64 k ∧ z = .int .i64 (dec (l.take k) : Nat) ∧ (∀ j (h : j < l.length), wr.cell? ⟨w.heap.size, j, none⟩ = some (.int .u8 (l[j].toNat : Int))) ∧ Below w.heap.size w wr) (fun _ i _ => n - (intOf i).toNat)
  case atStart =>
    refine ⟨0, by omega, rfl, rfl, fun j h => ?_, ((Below.refl _ _).alloc (Nat.le_refl _) _).drew⟩
    show (w.alloc _).cell? _ = _
    rw [World.cell?_alloc_mark]
    exact bytesRow_get l _ h
  case round =>
    obtain ⟨k, hk, rfl, rfl, hc, hbw⟩ := hrel
    have HC : Hid (∀ j (h : j < l.length), wr.cell? ⟨w.heap.size, j, none⟩ = some (.int .u8 (l[j].toNat : Int))) := hc
    clear hc
    by_cases hlt : k < n
    · have hk1 : k < l.length := by have := HN.out; omega
      have hcell := HC.out k hk1
      have hdig := HL.out k hk1
      have HT : Hid (_ = _) := dec_take hk1
      have hb0 := HD.out k
      obtain ⟨d, hdd⟩ : ∃ d, d = l[k].toNat := ⟨_, rfl⟩
      rw [← hdd] at hcell hdig HT
      clear hdd
      obtain ⟨z, hz⟩ : ∃ z, z = dec (l.take k) := ⟨_, rfl⟩
      rw [← hz] at HT hb0 ⊢
      clear hz
      go_wp2
      go_roundw
      case rel => exact ⟨k + 1, by omega, by go_num, by rw [HT.out]; exact congrArg (Value.int .i64) (by omega), HC.out, hbw⟩
      case measure => simp [intOf]; omega
    · have HF : Hid (dec (l.take k) = dec l) := by
        show _ = _
        rw [List.take_of_length_le (by have := HN.out; omega)]
      rw [HF.out]
      go_wp2
      go_ret
      exact ⟨rfl, hbw⟩
/-- the digits of n that lie at the places from 20 - j on, j of them. -/
def digs (n : Nat) : Nat → List UInt8
  | 0 => []
  | j + 1 => UInt8.ofNat (48 + n / 10 ^ j % 10) :: digs n j
theorem digs_length (n : Nat) : ∀ j, (digs n j).length = j
  | 0 => rfl
  | j + 1 => by simp [digs, digs_length n j]
theorem digs_get (n : Nat) : ∀ (j k : Nat) (h : k < j), ((digs n j)[k]'(by rw [digs_length]; exact h)).toNat = 48 + n / 10 ^ (j - 1 - k) % 10
  | 0, k, h => absurd h (by omega)
  | j + 1, 0, _ => by
    have : n / 10 ^ j % 10 < 10 := Nat.mod_lt _ (by omega)
    simp [digs]
    omega
  | j + 1, k + 1, h => by
    have ih := digs_get n j k (by omega)
    have e : j + 1 - 1 - (k + 1) = j - 1 - k := by omega
    rw [e, ← ih]
    rfl
theorem info5 : (Try.prog.info? 5).map (fun i => i.size) = some 1 := by kernel_rfl
theorem slice_arr (W : World) (B i : Nat) (hi : i < 20) : (Instr.sliceAt 34 (.pointer (some ⟨B, 0, none⟩)) (some (.int .i64 (i : Int))) none none).run Try.prog W = .ok (.slice (some ⟨B, i, none⟩) (20 - i) (20 - i)) W := by
  have h1 : ¬ 20 = i := by omega
  obtain ⟨x, hx, hx1⟩ := Option.map_eq_some_iff.1 info5
  simp [Instr.sliceAt, Instr.sureAddr, run_underlying Try.underlying34, Instr.sliceBounds, run_sliceBound, h1, sizeOf, typeInfo, hx, hx1, (by omega : (i : Int) ≤ 20), WideShapes.add_plain]
set_option maxHeartbeats 1000000 in
theorem itoa_any (n : Nat) (h0 : 0 < n) (hn : n ≤ 999999999) (w : World) :
    Calls Try.prog 17 #[.int .i64 n] w fun e w' => ∃ j, j ≤ 9 ∧ n / 10 ^ j = 0 ∧ e = .returned (.string ⟨(digs n j).toArray⟩) ∧ Below w.heap.size w w' := by
  have hnz : ((n : Int) == 0) = false := beq_eq_false_iff_ne.2 (by omega)
  go_enter Try.func17, Try.ntmps17
  go_wp2
  go_loopw [0, 4] (fun m i wr => ∃ j : Nat, j ≤ 9 ∧ m = .int .i64 ((n / 10 ^ j : Nat) : Int) ∧ i = .int .i64 ((20 - j : Nat) : Int) ∧ (∃ f, wr.rowIs w.heap.size 34 20 f ∧ ∀ t, t < j → f (19 - t) = .int .u8 ((48 + n / 10 ^ t % 10 : Nat) : Int)) ∧ Below w.heap.size w wr) (fun m _ _ => (intOf m).toNat)
  case atStart => exact ⟨0, by omega, by simp, rfl, ⟨fun _ => .int .u8 0, World.rowIs_alloc w _ 34 _ (fun i hi => by
    have h20 : i < 20 := hi
    show (Array.replicate 20 (Value.int .u8 0))[i]? = _
    simp [h20]), fun t ht => absurd ht (by omega)⟩, (Below.refl _ _).alloc (Nat.le_refl _) _⟩
  case round =>
    obtain ⟨j, hj, rfl, rfl, ⟨f, hrow, hf⟩, hbw⟩ := hrel
    by_cases hz : n / 10 ^ j = 0
    · rw [hz]
      obtain ⟨i, hi⟩ : ∃ i, i = 20 - j := ⟨_, rfl⟩
      have hi20 : i ≤ 20 := by omega
      have hcvt : (convert 22 9 (.slice (some ⟨w.heap.size, i, none⟩) (20 - i) (20 - i))).run Try.prog wr = .ok (.string ⟨(digs n j).toArray⟩) wr := by
        have hl : (digs n j).length = 20 - i := by rw [digs_length]; omega
        rw [← hl]
        refine run_convert_bytes_back wr 22 9 5 ⟨w.heap.size, i, none⟩ _ (digs n j) Try.underlying22 Try.underlying5 Try.underlying9 (fun k hk => ?_)
        rw [WideShapes.add_plain, hrow.cell (by rw [digs_length] at hk; omega), digs_get n j k (by rw [digs_length] at hk; exact hk)]
        have := hf (j - 1 - k) (by rw [digs_length] at hk; omega)
        rw [show 19 - (j - 1 - k) = i + k from by rw [digs_length] at hk; omega] at this
        rw [this]
      have HZ : Hid (n / 10 ^ j = 0) := hz
      have hj1 : 1 ≤ j := by
        rcases Nat.eq_zero_or_pos j with h | h
        · subst h; simp at hz; omega
        · exact h
      have hsl : ∀ W : World, (Instr.sliceAt 34 (.pointer (some ⟨w.heap.size, 0, none⟩)) (some (.int .i64 (i : Int))) none none).run Try.prog W = .ok (.slice (some ⟨w.heap.size, i, none⟩) (20 - i) (20 - i)) W := fun W => slice_arr W _ i (by omega)
      rw [← hi]
      clear hrow hf hz hi
      go_wp2
      go_ret
      exact ⟨j, hj, HZ.out, rfl, hbw⟩
    · have hj9 : j < 9 := by
        rcases Nat.lt_or_ge j 9 with h | h
        · exact h
        · exfalso
          have : j = 9 := by omega
          subst this
          exact hz (by omega)
      obtain ⟨q, hq⟩ : ∃ q, q = n / 10 ^ j := ⟨_, rfl⟩
      have HQ : Hid (q = n / 10 ^ j) := hq
      have hq0 : 0 < q := by omega
      have hqn : q ≤ 999999999 := by rw [hq]; exact Nat.le_trans (Nat.div_le_self _ _) hn
      rw [← hq]
      clear hz hq
      obtain ⟨i, hi⟩ : ∃ i, i = 19 - j := ⟨_, rfl⟩
      have hi19 : i ≤ 19 := by omega
      have HI : Hid (i = 19 - j) := hi
      have e20 : (20 - j : Nat) = i + 1 := by omega
      rw [e20]
      clear hi e20
      have r0 := hrow.cell (i := i) (by omega)
      have f0 := hrow.frozen i
      have HRW : Hid (wr.rowIs w.heap.size 34 20 f) := hrow
      have HF : Hid (∀ t, t < j → f (19 - t) = .int .u8 ((48 + n / 10 ^ t % 10 : Nat) : Int)) := hf
      clear hrow hf
      go_wp2
      go_roundw
      case rel =>
        refine ⟨j + 1, by omega, congrArg (Value.int .i64) ?_, congrArg (Value.int .i64) (by have := HI.out; omega), ⟨_, HRW.out.set i _, fun t ht => ?_⟩, hbw.setCell (Nat.le_refl _) _⟩
        · rw [Nat.pow_succ, ← Nat.div_div_eq_div_mul, ← HQ.out]; omega
        · by_cases htj : t = j
          · subst htj
            rw [if_pos (by have := HI.out; omega), ← HQ.out]
            exact congrArg (Value.int .u8) (by omega)
          · rw [if_neg (by have := HI.out; omega)]
            exact HF.out t (by omega)
      case measure => simp [intOf]; omega
theorem dec_zeros (k : Nat) (l : List UInt8) : dec (List.replicate k 48 ++ l) = dec l := by
  unfold dec
  rw [List.foldl_append]
  congr 1
  induction k with
  | zero => rfl
  | succ k ih => rw [List.replicate_succ', List.foldl_append, ih]; rfl
theorem dec_cons (c : UInt8) (l : List UInt8) : dec (c :: l) = (c.toNat - 48) * 10 ^ l.length + dec l := by
  have gen : ∀ (l : List UInt8) (a : Nat), l.foldl (fun acc c => acc * 10 + (c.toNat - 48)) a = a * 10 ^ l.length + dec l := by
    intro l
    induction l with
    | nil => intro a; simp [dec]
    | cons x r ih =>
      intro a
      rw [List.foldl_cons, ih]
      have : dec (x :: r) = (x.toNat - 48) * 10 ^ r.length + dec r := by
        unfold dec
        rw [List.foldl_cons, ih]
        simp [dec]
      rw [this, List.length_cons, Nat.pow_succ, Nat.add_mul, Nat.mul_assoc, Nat.mul_comm 10, Nat.add_assoc]
  show (c :: l).foldl _ 0 = _
  rw [List.foldl_cons, gen]
  simp
theorem dec_digs (n : Nat) : ∀ j, dec (digs n j) = n % 10 ^ j
  | 0 => by simp [digs, dec, Nat.mod_one]
  | j + 1 => by
    rw [digs, dec_cons, dec_digs n j, digs_length]
    have h1 : n / 10 ^ j % 10 < 10 := Nat.mod_lt _ (by omega)
    have h2 : (UInt8.ofNat (48 + n / 10 ^ j % 10)).toNat - 48 = n / 10 ^ j % 10 := by
      simp
      omega
    rw [h2, Nat.pow_succ, Nat.mod_mul]
    rw [Nat.mul_comm, Nat.add_comm]
theorem dec_take_le (l : List UInt8) (k : Nat) : dec (l.take k) ≤ dec l := by
  have gen : ∀ (m : List UInt8) (a : Nat), a ≤ m.foldl (fun acc c => acc * 10 + (c.toNat - 48)) a := by
    intro m
    induction m with
    | nil => intro a; exact Nat.le_refl _
    | cons x r ih => intro a; rw [List.foldl_cons]; exact Nat.le_trans (by omega) (ih _)
  conv => rhs; rw [← List.take_append_drop k l]
  unfold dec
  rw [List.foldl_append]
  exact gen _ _
theorem digit_ok (n : Nat) (j k : Nat) (h : k < (digs n j).length) : 48 ≤ ((digs n j)[k]).toNat ∧ ((digs n j)[k]).toNat ≤ 57 := by
  rw [digs_get n j k (by rw [digs_length] at h; exact h)]
  have : n / 10 ^ (j - 1 - k) % 10 < 10 := Nat.mod_lt _ (by omega)
  omega
theorem all_ok (z n j k : Nat) (h : k < (List.replicate z (48 : UInt8) ++ digs n j).length) : 48 ≤ ((List.replicate z (48 : UInt8) ++ digs n j)[k]).toNat ∧ ((List.replicate z (48 : UInt8) ++ digs n j)[k]).toNat ≤ 57 := by
  by_cases hk : k < z
  · rw [List.getElem_append_left (by simpa using hk)]; simp
  · rw [List.getElem_append_right (by simpa using hk)]
    exact digit_ok _ _ _ _
set_option maxHeartbeats 400000 in
theorem zzdecimal_any (l : List UInt8) (hl : ∀ k (h : k < l.length), 48 ≤ l[k].toNat ∧ l[k].toNat ≤ 57) (hn : l.length ≤ 1000) (hd : dec l ≤ 999999999) (w : World) :
    Calls Try.prog 15 #[.string ⟨l.toArray⟩] w fun e w' => e = .returned (.int .i64 (dec l)) ∧ Below w.heap.size w w' := by
  go_enter Try.func15, Try.ntmps15
  go_wp2_with fail
  refine (decimal_any l hl hn (fun k => Nat.le_trans (dec_take_le l k) hd) _).mono ?_
  rintro e w' ⟨rfl, hb⟩
  go_wp2
  go_ret
  exact ⟨rfl, hb⟩
theorem app48 (l : List UInt8) : (⟨#[48]⟩ : ByteArray) ++ ⟨l.toArray⟩ = ⟨(48 :: l).toArray⟩ := by
  apply ByteArray.ext
  simp [ByteArray.data_append]
/-- zzItoa at every number of the law. -/
theorem itoa_all (n : Nat) (hn : n ≤ 999999999) (w : World) :
    Calls Try.prog 17 #[.int .i64 n] w fun e w' => ∃ j, j ≤ 9 ∧ n / 10 ^ j = 0 ∧ e = .returned (.string ⟨(digs n j).toArray⟩) ∧ Below w.heap.size w w' := by
  rcases Nat.eq_zero_or_pos n with h | h
  · subst h
    go_enter Try.func17, Try.ntmps17
    go_wp2
    go_ret
    exact ⟨1, by omega, by simp, rfl, Below.refl _ _⟩
  · exact itoa_any n h hn w
set_option maxHeartbeats 1000000 in
theorem walk (a0 : Int) (a1 : Int) (w0 : (Lit.int .i64 a0).wf = true) (w1 : (Lit.int .i64 a1).wf = true) (w : World) :
    Calls Try.prog 7 #[.int .i64 a0, .int .i64 a1] w fun e w' => e = .returned (.bool true) ∧ Below w.heap.size w w' := by
  by_cases h1 : a0 < 0
  · go_enter Try.func7, Try.ntmps7
    go_wp2
    go_ret
    exact ⟨rfl, Below.refl _ _⟩
  by_cases h2 : 999999999 < a0
  · go_enter Try.func7, Try.ntmps7
    go_wp2
    go_ret
    exact ⟨rfl, Below.refl _ _⟩
  by_cases h3 : a1 < 0
  · go_enter Try.func7, Try.ntmps7
    go_wp2
    go_ret
    exact ⟨rfl, Below.refl _ _⟩
  by_cases h4 : 16 < a1
  · go_enter Try.func7, Try.ntmps7
    go_wp2
    go_ret
    exact ⟨rfl, Below.refl _ _⟩
  obtain ⟨n, rfl⟩ := Int.eq_ofNat_of_zero_le (show 0 ≤ a0 by omega)
  obtain ⟨z, rfl⟩ := Int.eq_ofNat_of_zero_le (show 0 ≤ a1 by omega)
  have hn : n ≤ 999999999 := by omega
  have hz : z ≤ 16 := by omega
  clear w0 w1
  go_enter Try.func7, Try.ntmps7
  go_wp2_with fail
  refine (itoa_all n hn _).mono ?_
  rintro e w' ⟨j, hj, hz0, rfl, hb⟩
  have HZ : Hid (n / 10 ^ j = 0) := hz0
  clear hz0
  have hdl := digs_length n j
  go_wp2_with fail
  go_loop [5, 6] (fun s i => ∃ k : Nat, k ≤ z ∧ i = .int .i64 k ∧ s = .string ⟨(List.replicate k (48 : UInt8) ++ digs n j).toArray⟩) (fun _ i => z - (intOf i).toNat)
  case atStart => exact ⟨0, by omega, rfl, by simp⟩
  case round =>
    obtain ⟨k, hk, rfl, rfl⟩ := hrel
    by_cases hlt : k < z
    · go_wp2
      go_round
      case rel => exact ⟨k + 1, by omega, by go_num, by rw [app48]; rfl⟩
      case measure => simp [intOf]; omega
    · have HK : Hid (dec (List.replicate k (48 : UInt8) ++ digs n j) = n) := by
        show _ = _
        rw [dec_zeros, dec_digs]
        exact Nat.mod_eq_of_lt (by
          rcases Nat.lt_or_ge n (10 ^ j) with h | h
          · exact h
          · have := Nat.div_pos h (Nat.pow_pos (by omega : 0 < 10))
            have := HZ.out
            omega)
      have HB : Hid (Below w.heap.size w w') := hb
      clear hb
      go_wp2_with fail
      refine (zzdecimal_any _ (all_ok k n j) (by simp; omega) (by rw [HK.out]; exact hn) _).mono ?_
      rintro e w2 ⟨rfl, hb2⟩
      rw [HK.out]
      have hee : ((n : Int) == (n : Int)) = true := by simp
      go_wp2
      go_ret
      exact ⟨rfl, HB.out.trans (hb2.mono HB.out.size)⟩

/-! ### THE ROW's STEP: WRITTEN OUT: LEAVE IT -/
set_option maxRecDepth 100000 in
theorem lifted (os : Os) (started : os.Started) (H : Type) (enc : TypeId × Value → H) :
    ReturnsInHanded {} Try.checked os 7 .any (Rows.fnDecimalReadsItoaSpec.pre6 enc Try.prog Try.f7 Rows.fnDecimalReadsItoaRow.domain false) (Rows.fnDecimalReadsItoaSpec.post enc Try.prog Try.f7 false true false false) := by
  refine returnsInHanded_of_change (C := Try.checked) own started (by kernel_rfl) Try.func7
    (ChangeSpec.witness6 (enc := enc) (C := Try.checked) false ⟨#[], #[.int .i64 0, .int .i64 0], []⟩ 8 (by kernel_rfl) (by kernel_rfl) (by kernel_rfl) (by kernel_rfl)) ?_
  intro W base args ds gs before hval0 hW hcnd _
  have hval : ∀ (j : Nat) t v, Try.f7.params[j]? = some t → args[j]? = some v → Value.okWide Try.prog W .any base t v := hval0
  have hW' := hW
  obtain ⟨p, q, hA0, hV, rfl, hfz, hnd⟩ := hW
  have hA : DataW.TrodAll enc Try.prog W 0 (fun _ => true) true Try.f7.params.toList args.toList ds p := hA0
  rw [Try.params7] at hA hval
  obtain ⟨v0, vs0, d0, ds0, p0, q0, hargs, rfl, rfl, h0, r0⟩ := trodAll_cons hA
  obtain ⟨v1, vs1, d1, ds1, p1, q1, rfl, rfl, rfl, h1, r1⟩ := trodAll_cons r0
  obtain ⟨rfl, rfl, rfl⟩ := trodAll_nil r1
  obtain rfl : args = #[v0, v1] := by cases args; simp_all
  obtain ⟨rfl, rfl⟩ := trodVars_none hV
  obtain ⟨a0, rfl, rfl, rfl, w0⟩ := open_int Try.underlying3 (hval 0 3 v0 rfl rfl) h0
  obtain ⟨a1, rfl, rfl, rfl, w1⟩ := open_int Try.underlying3 (hval 1 3 v1 rfl rfl) h1
  clear hA0 hval0
  simp only [List.append_nil] at hW'
  refine (walk a0 a1 w0 w1 W).mono fun e W' ⟨he, hg⟩ => ?_
  subst he
  exact ⟨_, rfl, _, _, _, [], [], [], hW', (trodAll_cons_mk (shut_bool Try.underlying4 _) trodAll_mk0), (trodAll_cons_mk (shut_int Try.underlying3 w0) (trodAll_cons_mk (shut_int Try.underlying3 w1) trodAll_mk0)), rfl, hg.frame _, fun h => by cases h⟩

theorem over : Rows.fnDecimalReadsItoaRow.holds Try.pinned (OpenSpec.ofChange Rows.fnDecimalReadsItoaSpec) :=
  OpenClaim.holds_of_wide 7 Try.f7 rfl rfl rfl rfl rfl rfl rfl ⟨rfl, rfl, rfl, rfl, rfl⟩ rfl rfl rfl rfl rfl (by kernel_rfl) Try.func7 (by kernel_rfl)
    (of_decide_eq_true (by kernel_rfl)) (by unfold Func.isWrapper; first | (rw [if_pos (by decide +kernel)]; kernel_rfl) | (rw [if_neg (by decide +kernel)]; exact ⟨rfl, rfl⟩))
    (fun os started H enc _ => lifted os started H enc)

/-- ████ THE STATEMENT ████ -/
theorem proved : Rows.FnDecimalReadsItoaSaid :=
  over
#print axioms proved
end Go.Proofs.Qxb6002448a.fnDecimalReadsItoa
