import Derived.Test.Qxb6002415aRows
import Derived.WalkKit
import Derived.WalkSpells
import Derived.WalkLawsBesides
import Derived.Deep.QuietTactic
import Derived.BigQuiet
namespace Go.Proofs.Qxb6002415a
open Go.RowKit
set_option maxHeartbeats 400000 in
theorem blockEnd_any (b o : Nat) (k : Int) (w : World) (h : w.cell? ⟨b, o + 4, none⟩ = some (.int .i64 k)) :
    Calls Try.prog 32 #[.pointer (some ⟨b, o, none⟩)] w fun e w' => e = .returned (.int .i64 k) ∧ w' = w := by
  go_enter Try.func32, Try.ntmps32
  go_wp2
  go_ret
  exact ⟨rfl, rfl⟩
set_option maxHeartbeats 400000 in
theorem newWord_any (s : ByteArray) (a b c : Int) (w : World) :
    Calls Try.prog 14 #[.string s, .int .i64 a, .int .i64 b, .int .i64 c] w fun e w' => e = .returned (.iface 52 (.pointer (some ⟨w.heap.size, 0, none⟩))) ∧ w' = w.alloc (.cells #[.string s, .bool false, .int .i64 a, .int .i64 b, .int .i64 c] 54) := by
  go_enter Try.func14, Try.ntmps14
  go_wp2
  go_ret
  exact ⟨rfl, rfl⟩
set_option maxHeartbeats 400000 in
theorem newPipe_any (a b : Int) (w : World) :
    Calls Try.prog 15 #[.int .i64 a, .int .i64 b] w fun e w' => e = .returned (.iface 46 (.pointer (some ⟨w.heap.size, 0, none⟩))) ∧ w' = w.alloc (.cells #[.int .i64 a, .int .i64 b] 56) := by
  go_enter Try.func15, Try.ntmps15
  go_wp2
  go_ret
  exact ⟨rfl, rfl⟩
set_option maxHeartbeats 400000 in
theorem newBlock_any (s : ByteArray) (a b c d : Int) (na : Option Addr) (nn nc : Nat) (w : World) :
    Calls Try.prog 16 #[.string s, .int .i64 a, .int .i64 b, .int .i64 c, .int .i64 d, .slice na nn nc] w fun e w' => e = .returned (.pointer (some ⟨w.heap.size, 0, none⟩)) ∧ w' = w.alloc (.cells #[.string s, .int .i64 a, .int .i64 b, .int .i64 c, .int .i64 d, .slice na nn nc, .bool false] 45) := by
  go_enter Try.func16, Try.ntmps16
  go_wp2
  go_ret
  exact ⟨rfl, rfl⟩

/-- the names of the methods that the code calls through an interface. -/
def invOp (o : Oper) : List String :=
  match o.op with
  | .call c => match c.callee with
    | .invoke _ nm => [nm]
    | _ => []
  | _ => []
def invIn : Code → List String
  | .region _ ops _ => ops.toList.flatMap invOp
  | .seq a b => invIn a ++ invIn b
  | .cond _ a b => invIn a ++ invIn b
  | .block _ a => invIn a
  | .loop a => invIn a
  | _ => []
/-- nm is the name of the method that ZZEnd calls. -/
def IsEnd (nm : String) : Prop := invIn (Try.f9.body.getD .skip) = [nm]
theorem isEnd : ∃ nm, IsEnd nm := ⟨_, rfl⟩
theorem methEnd25 {nm : String} (h : IsEnd nm) (a : Addr) (w : World) : (method 172 25 (.pointer (some a)) nm).run Try.prog w = .ok (32, .pointer (some a)) w := by
  simp [IsEnd, invIn, invOp, Try.f9] at h
  subst h
  kernel_rfl
theorem methEnd46 {nm : String} (h : IsEnd nm) (a : Addr) (w : World) : (method 172 46 (.pointer (some a)) nm).run Try.prog w = .ok (34, .pointer (some a)) w := by
  simp [IsEnd, invIn, invOp, Try.f9] at h
  subst h
  kernel_rfl
theorem methEnd52 {nm : String} (h : IsEnd nm) (a : Addr) (w : World) : (method 172 52 (.pointer (some a)) nm).run Try.prog w = .ok (37, .pointer (some a)) w := by
  simp [IsEnd, invIn, invOp, Try.f9] at h
  subst h
  kernel_rfl
theorem assert25 (a : Addr) (w : World) : (Instr.typeAssert (.iface 25 (.pointer (some a))) 29 25 true).run Try.prog w = .ok (.tuple #[.pointer (some a), .bool true]) w := by kernel_rfl
theorem assertP46 (a : Addr) (w : World) : (Instr.typeAssert (.iface 46 (.pointer (some a))) 29 46 true).run Try.prog w = .ok (.tuple #[.pointer (some a), .bool true]) w := by kernel_rfl
theorem assertP25 (a : Addr) (w : World) : (Instr.typeAssert (.iface 25 (.pointer (some a))) 29 46 true).run Try.prog w = .ok (.tuple #[.pointer none, .bool false]) w := by kernel_rfl
theorem assertP52 (a : Addr) (w : World) : (Instr.typeAssert (.iface 52 (.pointer (some a))) 29 46 true).run Try.prog w = .ok (.tuple #[.pointer none, .bool false]) w := by kernel_rfl
theorem methLine46 (a : Addr) (w : World) : (method 172 46 (.pointer (some a)) "Line").run Try.prog w = .ok (33, .pointer (some a)) w := by kernel_rfl
set_option maxHeartbeats 400000 in
theorem pipeEnd_any (b o : Nat) (k : Int) (w : World) (h : w.cell? ⟨b, o + 1, none⟩ = some (.int .i64 k)) :
    Calls Try.prog 34 #[.pointer (some ⟨b, o, none⟩)] w fun e w' => e = .returned (.int .i64 k) ∧ w' = w := by
  go_enter Try.func34, Try.ntmps34
  go_wp2
  go_ret
  exact ⟨rfl, rfl⟩
set_option maxHeartbeats 400000 in
theorem wordEnd_any (b o : Nat) (k : Int) (w : World) (h : w.cell? ⟨b, o + 4, none⟩ = some (.int .i64 k)) :
    Calls Try.prog 37 #[.pointer (some ⟨b, o, none⟩)] w fun e w' => e = .returned (.int .i64 k) ∧ w' = w := by
  go_enter Try.func37, Try.ntmps37
  go_wp2
  go_ret
  exact ⟨rfl, rfl⟩
set_option maxHeartbeats 400000 in
theorem pipeLine_any (b o : Nat) (k : Int) (w : World) (h : w.cell? ⟨b, o, none⟩ = some (.int .i64 k)) :
    Calls Try.prog 33 #[.pointer (some ⟨b, o, none⟩)] w fun e w' => e = .returned (.int .i64 k) ∧ w' = w := by
  go_enter Try.func33, Try.ntmps33
  go_wp2
  go_ret
  exact ⟨rfl, rfl⟩
set_option maxHeartbeats 400000 in
theorem blockLine_any (b o : Nat) (k : Int) (w : World) (h : w.cell? ⟨b, o + 3, none⟩ = some (.int .i64 k)) :
    Calls Try.prog 12 #[.pointer (some ⟨b, o, none⟩)] w fun e w' => e = .returned (.int .i64 k) ∧ w' = w := by
  go_enter Try.func12, Try.ntmps12
  go_wp2
  go_ret
  exact ⟨rfl, rfl⟩
set_option maxHeartbeats 400000 in
theorem zzEnd_block (b : Nat) (k : Int) (w : World) (h : w.cell? ⟨b, 4, none⟩ = some (.int .i64 k)) :
    Calls Try.prog 9 #[.iface 25 (.pointer (some ⟨b, 0, none⟩))] w fun e w' => e = .returned (.int .i64 k) ∧ w' = w := by
  obtain ⟨nm, hnm⟩ := isEnd
  have hm := methEnd25 hnm ⟨b, 0, none⟩
  simp [IsEnd, invIn, invOp, Try.f9] at hnm
  subst hnm
  go_enter Try.func9, Try.ntmps9
  go_wp2_with fail
  refine (blockEnd_any b 0 k _ (by simpa using h)).mono ?_
  rintro e w' ⟨rfl, rfl⟩
  go_wp2
  go_ret
  exact ⟨rfl, rfl⟩
set_option maxHeartbeats 400000 in
theorem zzEnd_pipe (b : Nat) (k : Int) (w : World) (h : w.cell? ⟨b, 1, none⟩ = some (.int .i64 k)) :
    Calls Try.prog 9 #[.iface 46 (.pointer (some ⟨b, 0, none⟩))] w fun e w' => e = .returned (.int .i64 k) ∧ w' = w := by
  obtain ⟨nm, hnm⟩ := isEnd
  have hm := methEnd46 hnm ⟨b, 0, none⟩
  simp [IsEnd, invIn, invOp, Try.f9] at hnm
  subst hnm
  go_enter Try.func9, Try.ntmps9
  go_wp2_with fail
  refine (pipeEnd_any b 0 k _ (by simpa using h)).mono ?_
  rintro e w' ⟨rfl, rfl⟩
  go_wp2
  go_ret
  exact ⟨rfl, rfl⟩
set_option maxHeartbeats 400000 in
theorem zzEnd_word (b : Nat) (k : Int) (w : World) (h : w.cell? ⟨b, 4, none⟩ = some (.int .i64 k)) :
    Calls Try.prog 9 #[.iface 52 (.pointer (some ⟨b, 0, none⟩))] w fun e w' => e = .returned (.int .i64 k) ∧ w' = w := by
  obtain ⟨nm, hnm⟩ := isEnd
  have hm := methEnd52 hnm ⟨b, 0, none⟩
  simp [IsEnd, invIn, invOp, Try.f9] at hnm
  subst hnm
  go_enter Try.func9, Try.ntmps9
  go_wp2_with fail
  refine (wordEnd_any b 0 k _ (by simpa using h)).mono ?_
  rintro e w' ⟨rfl, rfl⟩
  go_wp2
  go_ret
  exact ⟨rfl, rfl⟩
set_option maxHeartbeats 400000 in
theorem piped_any (b : Nat) (k : Bool) (w : World) (h : w.cell? ⟨b, 6, none⟩ = some (.bool k)) :
    Calls Try.prog 11 #[.pointer (some ⟨b, 0, none⟩)] w fun e w' => e = .returned (.bool k) ∧ w' = w := by
  go_enter Try.func11, Try.ntmps11
  go_wp2
  go_ret
  exact ⟨rfl, rfl⟩
set_option maxHeartbeats 400000 in
theorem asBlock_any (b : Nat) (w : World) :
    Calls Try.prog 10 #[.iface 25 (.pointer (some ⟨b, 0, none⟩))] w fun e w' => e = .returned (.pointer (some ⟨b, 0, none⟩)) ∧ w' = w := by
  have ha := assert25 ⟨b, 0, none⟩
  go_enter Try.func10, Try.ntmps10
  go_wp2
  go_ret
  exact ⟨rfl, rfl⟩
set_option maxHeartbeats 400000 in
theorem text_any (b to : Nat) (s : ByteArray) (w : World) (h0 : w.cell? ⟨b, 0, none⟩ = some (.string s)) (h1 : w.cell? ⟨b, 1, none⟩ = some (.int .i64 0)) (h2 : w.cell? ⟨b, 2, none⟩ = some (.int .i64 (to : Nat))) (hto : to ≤ s.size) :
    Calls Try.prog 13 #[.pointer (some ⟨b, 0, none⟩)] w fun e w' => e = .returned (.string (s.extract 0 to)) ∧ ∃ m, w' = w.drewN m := by
  go_enter Try.func13, Try.ntmps13
  go_wp2_with fail
  go_quiet (fail)
  go_wp2
  go_ret
  exact ⟨rfl, _, rfl⟩
end Go.Proofs.Qxb6002415a
