import Derived.Test.Qxb6601340aRows
import Derived.WalkKit
import Derived.ProofKit
import Derived.OpenShut
import Derived.ShutString
import Derived.WalkSpells
import Derived.WalkLawsBesides
namespace Go.Proofs.Qxb6601340a.fnCanMoveToMatchesEdgeList
open Go.ChangeShapes Go.WideShapes Go.ChangeAt Go.RowKit
open Go.ChangeMaps (open_string shut_string)
set_option linter.unusedVariables false      -- a walk need not use every 'w<i>' (that an integer argument fits its kind)

theorem own : ownKnob Try.prog.godebug = none := by kernel_rfl

/-! ### the plain functions -/
def sP : List UInt8 := [80, 69, 78, 68, 73, 78, 71]
def sV : List UInt8 := [86, 69, 82, 73, 70, 89, 73, 78, 71]
def sC : List UInt8 := [67, 79, 78, 70, 73, 82, 77, 69, 68]
def sF : List UInt8 := [70, 65, 73, 76, 69, 68]
def sM : List UInt8 := [77, 73, 83, 77, 65, 84, 67, 72]
def sI : List UInt8 := [73, 78, 68, 69, 84, 69, 82, 77, 73, 78, 65, 84, 69]
def sR : List UInt8 := [82, 69, 70, 85, 78, 68, 69, 68]
def term (t : List UInt8) : Bool := t == sC || t == sF || t == sM || t == sI || t == sR
def verd (t : List UInt8) : Bool := term t && t != sR
def canMove (s t : List UInt8) : Bool := if s == sP then (t == sV || verd t) else if s == sV then verd t else if s == sC then t == sR else false
def edgeF : Nat → List UInt8
  | 0 => sP | 1 => sP | 2 => sP | 3 => sP | 4 => sP | 5 => sV | 6 => sV | 7 => sV | 8 => sV | _ => sC
def edgeT : Nat → List UInt8
  | 0 => sV | 1 => sC | 2 => sF | 3 => sM | 4 => sI | 5 => sC | 6 => sF | 7 => sM | 8 => sI | _ => sR
def wantTo (s t : List UInt8) : Nat → Bool
  | 0 => false
  | k + 1 => wantTo s t k || (s == edgeF k && t == edgeT k)
/-- THE PLAIN LAW. -/
theorem plain (s t : List UInt8) : canMove s t = wantTo s t 10 := by
  simp only [wantTo, edgeF, edgeT, canMove, verd, term]
  have hPV : (sP == sV) = false := by decide
  have hPC : (sP == sC) = false := by decide
  have hVP : (sV == sP) = false := by decide
  have hVC : (sV == sC) = false := by decide
  have hCP : (sC == sP) = false := by decide
  have hCV : (sC == sV) = false := by decide
  have hRC : (sR == sC) = false := by decide
  have hRF : (sR == sF) = false := by decide
  have hRM : (sR == sM) = false := by decide
  have hRI : (sR == sI) = false := by decide
  have hRV : (sR == sV) = false := by decide
  have key : ((t == sC || t == sF || t == sM || t == sI || t == sR) && t != sR) = (t == sC || t == sF || t == sM || t == sI) := by
    by_cases h : t = sR
    · subst h; simp [hRC, hRF, hRM, hRI]
    · have : (t == sR) = false := by simp [h]
      simp [this, bne]
  rw [key]
  by_cases h1 : s = sP
  · subst h1; simp [hPV, hPC]
    cases t == sV <;> cases t == sC <;> cases t == sF <;> cases t == sM <;> cases t == sI <;> rfl
  · have e1 : (s == sP) = false := by simp [h1]
    by_cases h2 : s = sV
    · subst h2; simp [hVP, hVC]
    · have e2 : (s == sV) = false := by simp [h2]
      by_cases h3 : s = sC
      · subst h3; simp [e1, e2]
      · have e3 : (s == sC) = false := by simp [h3]
        simp [e1, e2, e3]

/-! ### the walks -/
theorem terminal_any (t : ByteArray) (w : World) :
    Calls Try.prog 14 #[.string t] w fun e w' => e = .returned (.bool (term t.toList)) ∧ w' = w := by
  unfold term sC sF sM sI sR
  go_enter Try.func14, Try.ntmps14
  go_wp2
  all_goals (go_ret; refine ⟨?_, rfl⟩; simp_all)
theorem verdict_any (t : ByteArray) (w : World) :
    Calls Try.prog 19 #[.string t] w fun e w' => e = .returned (.bool (verd t.toList)) ∧ w' = w := by
  cases ht : term t.toList
  all_goals
    have H : Hid (verd t.toList = (term t.toList && t.toList != [82, 69, 70, 85, 78, 68, 69, 68])) := (rfl : verd t.toList = _)
    go_enter Try.func19, Try.ntmps19
    go_wp2_with (go_at_call 14; refine (terminal_any _ _).mono ?_; rintro e w' ⟨rfl, rfl⟩)
    go_ret
    refine ⟨?_, rfl⟩
    rw [H.out, ht]
    simp [bne]
theorem canMove_any (s t : ByteArray) (w : World) :
    Calls Try.prog 10 #[.string s, .string t] w fun e w' => e = .returned (.bool (canMove s.toList t.toList)) ∧ w' = w := by
  unfold canMove sP sV sC sR
  go_enter Try.func10, Try.ntmps10
  go_wp2_with (go_at_call 19; refine (verdict_any _ _).mono ?_; rintro e w' ⟨rfl, rfl⟩)
  all_goals (go_ret; refine ⟨?_, rfl⟩; simp_all)

theorem edge_any (k : Nat) (hk : k < 10) (w : World) :
    Calls Try.prog 9 #[.int .i64 k] w fun e w' => e = .returned (.tuple #[.string ⟨(edgeF k).toArray⟩, .string ⟨(edgeT k).toArray⟩]) ∧ w' = w := by
  match k, hk with
  | 0, _ | 1, _ | 2, _ | 3, _ | 4, _ | 5, _ | 6, _ | 7, _ | 8, _ | 9, _ =>
    go_enter Try.func9, Try.ntmps9
    go_wp2
    go_ret2
    exact ⟨rfl, rfl⟩
theorem bytes_any (s t : ByteArray) (hs : s.size ≤ maxLen) (ht : t.size ≤ maxLen) (w : World) :
    Calls Try.prog 8 #[.string s, .string t] w fun e w' => (e = .returned (.bool true) ∨ e = .returned (.bool false)) ∧ w' = w := by
  unfold maxLen at hs ht
  go_enter Try.func8, Try.ntmps8
  go_wp2
  all_goals (go_ret; first | exact ⟨.inl rfl, rfl⟩ | exact ⟨.inr rfl, rfl⟩)
theorem toList_mk (l : List UInt8) : (ByteArray.mk l.toArray).toList = l := by
  simp [ByteArray.toList_eq]
set_option maxHeartbeats 1000000 in
theorem walk (a0 : ByteArray) (a1 : ByteArray) (w0 : a0.size ≤ maxLen) (w1 : a1.size ≤ maxLen) (w : World) :
    Calls Try.prog 3 #[.string a0, .string a1] w fun e w' => e = .returned (.bool true) ∧ Grown w w' := by
  have HP : Hid (_ = _) := plain a0.toList a1.toList
  have hs := w0
  have ht := w1
  unfold maxLen at hs ht
  go_enter Try.func3, Try.ntmps3
  go_wp2_with fail
  refine (bytes_any _ _ w0 w1 _).mono ?_
  rintro e w' ⟨rfl | rfl, rfl⟩
  · by_cases h1 : 524288 < a0.size
    · go_wp2_with fail
      go_ret
      exact ⟨rfl, Grown.refl _⟩
    by_cases h2 : 524288 < a1.size
    · go_wp2_with fail
      go_ret
      exact ⟨rfl, Grown.refl _⟩
    · go_wp2_with fail
      go_loop [5, 6] (fun t i => ∃ k : Nat, k ≤ 10 ∧ i = .int .i64 k ∧ t = .bool (wantTo a0.toList a1.toList k)) (fun _ i => 10 - (intOf i).toNat)
      case atStart => exact ⟨0, by omega, rfl, rfl⟩
      case round =>
        obtain ⟨k, hk, rfl, rfl⟩ := hrel
        by_cases hlt : k < 10
        · go_wp2_with (go_at_call 9; refine (edge_any k hlt _).mono ?_; rintro e w' ⟨rfl, rfl⟩)
          all_goals
            go_round
            case rel => exact ⟨k + 1, by omega, by go_num, by simp_all [wantTo]⟩
            case measure => simp [intOf]; omega
        · obtain rfl : k = 10 := by omega
          go_wp2_with (go_at_call 10; refine (canMove_any _ _ _).mono ?_; rintro e w' ⟨rfl, rfl⟩)
          go_ret
          exact ⟨by rw [HP.out]; simp, Grown.refl _⟩
  · go_wp2
    go_ret
    exact ⟨rfl, Grown.refl _⟩

/-! ### THE ROW's STEP: WRITTEN OUT: LEAVE IT -/
set_option maxRecDepth 100000 in
theorem lifted (os : Os) (started : os.Started) (H : Type) (enc : TypeId × Value → H) :
    ReturnsInHanded {} Try.checked os 3 .any (Rows.fnCanMoveToMatchesEdgeListSpec.pre6 enc Try.prog Try.f3 Rows.fnCanMoveToMatchesEdgeListRow.domain false) (Rows.fnCanMoveToMatchesEdgeListSpec.post enc Try.prog Try.f3 false true false false) := by
  refine returnsInHanded_of_change (C := Try.checked) own started (by kernel_rfl) Try.func3
    (ChangeSpec.witness6 (enc := enc) (C := Try.checked) false ⟨#[], #[.string ByteArray.empty, .string ByteArray.empty], []⟩ 8 (by kernel_rfl) (by kernel_rfl) (by kernel_rfl) (by kernel_rfl)) ?_
  intro W base args ds gs before hval0 hW hcnd _
  have hval : ∀ (j : Nat) t v, Try.f3.params[j]? = some t → args[j]? = some v → Value.okWide Try.prog W .any base t v := hval0
  have hW' := hW
  obtain ⟨p, q, hA0, hV, rfl, hfz, hnd⟩ := hW
  have hA : DataW.TrodAll enc Try.prog W 0 (fun _ => true) true Try.f3.params.toList args.toList ds p := hA0
  rw [Try.params3] at hA hval
  obtain ⟨v0, vs0, d0, ds0, p0, q0, hargs, rfl, rfl, h0, r0⟩ := trodAll_cons hA
  obtain ⟨v1, vs1, d1, ds1, p1, q1, rfl, rfl, rfl, h1, r1⟩ := trodAll_cons r0
  obtain ⟨rfl, rfl, rfl⟩ := trodAll_nil r1
  obtain rfl : args = #[v0, v1] := by cases args; simp_all
  obtain ⟨rfl, rfl⟩ := trodVars_none hV
  obtain ⟨a0, rfl, rfl, rfl, w0⟩ := open_string Try.underlying9 (hval 0 9 v0 rfl rfl) h0
  obtain ⟨a1, rfl, rfl, rfl, w1⟩ := open_string Try.underlying9 (hval 1 9 v1 rfl rfl) h1
  clear hA0 hval0
  simp only [List.append_nil] at hW'
  refine (walk a0 a1 w0 w1 W).mono fun e W' ⟨he, hg⟩ => ?_
  subst he
  exact ⟨_, rfl, post_of_same (pa := []) (pv := []) hW' (fun _ _ _ => (trodAll_cons_mk (shut_bool Try.underlying4 _) trodAll_mk0)) (fun sp _ => (trodAll_cons_mk (shut_string Try.underlying9 w0) (trodAll_cons_mk (shut_string Try.underlying9 w1) trodAll_mk0))) (fun _ _ => rfl) rfl
    (hg.frame _) hg.2.1 (ok_one (by kernel_rfl) rfl (okWide_bool_mk Try.underlying4 _))⟩

theorem over : Rows.fnCanMoveToMatchesEdgeListRow.holds Try.pinned (OpenSpec.ofChange Rows.fnCanMoveToMatchesEdgeListSpec) :=
  OpenClaim.holds_of_wide 3 Try.f3 rfl rfl rfl rfl rfl rfl rfl ⟨rfl, rfl, rfl, rfl, rfl⟩ rfl rfl rfl rfl rfl (by kernel_rfl) Try.func3 (by kernel_rfl)
    (of_decide_eq_true (by kernel_rfl)) (by unfold Func.isWrapper; first | (rw [if_pos (by decide +kernel)]; kernel_rfl) | (rw [if_neg (by decide +kernel)]; exact ⟨rfl, rfl⟩))
    (fun os started H enc _ => lifted os started H enc)

/-- ████ THE STATEMENT ████ -/
theorem proved : Rows.FnCanMoveToMatchesEdgeListSaid :=
  over
#print axioms proved
end Go.Proofs.Qxb6601340a.fnCanMoveToMatchesEdgeList
