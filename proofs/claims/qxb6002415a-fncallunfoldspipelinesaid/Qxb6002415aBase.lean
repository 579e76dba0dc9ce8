import Derived.Test.Qxb6002415aMeth
import Derived.Deep.OwnRows
import Derived.Laws.BytesArg
import Derived.Below
namespace Go.Proofs.Qxb6002415a
open Go.RowKit
theorem cell_lt {w : World} {a : Addr} {v : Value} (h : w.cell? a = some v) : a.block < w.heap.size := by
  unfold World.cell? at h
  split at h
  · rename_i h1; exact (Array.getElem?_eq_some_iff.1 h1).1
  · cases h
theorem cell_keep {w w' : World} {B : Nat} (hb : Below B w w') {a : Addr} (ha : a.block < B) {v : Value} (h : w.cell? a = some v) : w'.cell? a = some v := by
  rw [hb.cell ha]; exact h
theorem cell_stay {w w' : World} (hb : Below w.heap.size w w') {a : Addr} {v : Value} (h : w.cell? a = some v) : w'.cell? a = some v :=
  cell_keep hb (cell_lt h) h
theorem cell_alloc {w : World} {a : Addr} {v : Value} (h : w.cell? a = some v) (o : Obj) : (w.alloc o).cell? a = some v := by
  rw [World.cell?_alloc_lt w o a (cell_lt h)]; exact h
theorem below_alloc (w : World) (o : Obj) : Below w.heap.size w (w.alloc o) := (Below.refl _ _).alloc (Nat.le_refl _) o
/-- block b is a row of bytes of the call's own. -/
def URow (w : World) (b : Nat) (xs : List Int) : Prop := w.rowIs b 5 xs.length (fun i => .int .u8 (xs.getD i 0))
theorem URow.stay {w w' : World} {b : Nat} {xs : List Int} (h : URow w b xs) (hb : Below w.heap.size w w') : URow w' b xs := World.rowIs.of_block h (hb.block b (World.rowIs.lt h))
theorem URow.cell {w : World} {b i : Nat} {xs : List Int} (h : URow w b xs) (hi : i < xs.length) : w.cell? ⟨b, i, none⟩ = some (.int .u8 (xs.getD i 0)) := World.rowIs.cell h hi
theorem URow.frozen {w : World} {b : Nat} {xs : List Int} (h : URow w b xs) (i : Nat) : w.frozen? ⟨b, i, none⟩ = false := World.rowIs.frozen h i
theorem URow.lt {w : World} {b : Nat} {xs : List Int} (h : URow w b xs) : b < w.heap.size := World.rowIs.lt h
theorem URow.set {w : World} {b i : Nat} {xs : List Int} (h : URow w b xs) (hi : i < xs.length) (v : Int) : URow (w.setCell ⟨b, i, none⟩ (.int .u8 v)) b (xs.set i v) := by
  unfold URow
  rw [List.length_set]
  refine World.rowIs.congr (World.rowIs.set h i (.int .u8 v)) fun j hj => ?_
  by_cases e : j = i
  · subst e; simp [List.getD, hj]
  · simp [e, List.getD, List.getElem?_set_ne (fun h => e h.symm)]
theorem URow.made (w : World) (n : Nat) : URow (w.alloc (.cells (madeCells #[.int .u8 0] n) 5)) w.heap.size (List.replicate n 0) := by
  unfold URow
  rw [List.length_replicate]
  exact World.rowIs.congr (World.rowIs_made w (.int .u8 0) n 5) fun j hj => by simp [List.getD, hj]
theorem info5 : (Try.prog.info? 5).map (fun i => (i.zero, i.size, i.bytes)) = some (some (.int .u8 0), 1, 1) := by kernel_rfl
set_option maxHeartbeats 400000 in
theorem zzBytes_any (a : Option Addr) (n c : Nat) (s : ByteArray) (w : World) (hn : n ≤ maxLen) (hs : s.size ≤ maxLen) :
    Calls Try.prog 4 #[.slice a n c, .string s] w fun e w' => e = .returned (.bool (decide (n + s.size ≤ 1048576))) ∧ w' = w := by
  unfold maxLen at hn hs
  by_cases h1 : n ≤ 1048576
  · by_cases h2 : s.size ≤ 1048576
    · by_cases h3 : n + s.size ≤ 1048576
      · have hd : decide (n + s.size ≤ 1048576) = true := by simpa using h3
        rw [hd]
        clear hd
        go_enter Try.func4, Try.ntmps4
        go_wp2
        go_ret
        exact ⟨rfl, rfl⟩
      · have hd : decide (n + s.size ≤ 1048576) = false := by simpa using h3
        rw [hd]
        clear hd
        go_enter Try.func4, Try.ntmps4
        go_wp2
        go_ret
        exact ⟨rfl, rfl⟩
    · have hd : decide (n + s.size ≤ 1048576) = false := by simp; omega
      rw [hd]
      clear hd
      go_enter Try.func4, Try.ntmps4
      go_wp2
      go_ret
      exact ⟨rfl, rfl⟩
  · have hd : decide (n + s.size ≤ 1048576) = false := by simp; omega
    rw [hd]
    clear hd
    go_enter Try.func4, Try.ntmps4
    go_wp2
    go_ret
    exact ⟨rfl, rfl⟩
set_option maxHeartbeats 1000000 in
theorem zzSrc_any (s : ByteArray) (m : Nat) (w : World) (hs : s.size ≤ 65536) (hm : m ≤ 65) :
    Calls Try.prog 5 #[.string s, .int .i64 m] w fun e w' => ∃ r : ByteArray, e = .returned (.string r) ∧ r.size = m ∧ Below w.heap.size w w' := by
  have hmk := run_make_row' (P := Try.prog) 22 5 (.int .u8 0) 1 Try.underlying22 info5 rfl .i64 .i64 m (by omega) (by omega)
  go_enter Try.func5, Try.ntmps5
  go_wp2
  clear hmk
  go_loopw [6] (fun i wr => ∃ (k : Nat) (xs : List Int), k ≤ m ∧ i = .int .i64 k ∧ xs.length = m ∧ URow wr w.heap.size xs ∧ Below w.heap.size w wr) (fun i _ => m - (intOf i).toNat)
  case atStart => exact ⟨0, List.replicate m 0, by omega, rfl, by simp, URow.made w m, below_alloc w _⟩
  case round =>
    obtain ⟨k, xs, hk, rfl, hx, hU, hbw⟩ := hrel
    have HX : Hid (xs.length = m) := hx
    have HU : Hid (URow wr w.heap.size xs) := hU
    have HBW : Hid (Below w.heap.size w wr) := hbw
    clear hbw
    by_cases hlt : k < m
    · have hkx : k < xs.length := by omega
      have c0 := hU.cell hkx
      have f0 := hU.frozen k
      clear hU hx
      by_cases hks : k < s.size
      · go_wp2
        go_roundw
        case rel => exact ⟨k + 1, _, by omega, by go_num, by rw [List.length_set]; exact HX.out, HU.out.set hkx _, HBW.out.setCell (Nat.le_refl _) _⟩
        case measure => simp [intOf]; omega
      · go_wp2
        go_roundw
        case rel => exact ⟨k + 1, _, by omega, by go_num, by rw [List.length_set]; exact HX.out, HU.out.set hkx _, HBW.out.setCell (Nat.le_refl _) _⟩
        case measure => simp [intOf]; omega
    · have hcv := run_convert_bytes_arg (P := Try.prog) wr 22 5 Try.underlying22 Try.underlying5 w.heap.size 0 m m xs hx (fun i hi => by rw [Nat.zero_add]; exact hU.cell (by omega)) 9 Try.underlying9
      clear hU hx
      go_wp2
      go_ret
      exact ⟨_, rfl, by rw [strOfNums_size]; exact HX.out, HBW.out⟩
set_option maxHeartbeats 1000000 in
/-- the block at b still reads as it was built. -/
theorem intact_any (b : Nat) (s : ByteArray) (w : World) (h0 : w.cell? ⟨b, 0, none⟩ = some (.string s)) (h1 : w.cell? ⟨b, 1, none⟩ = some (.int .i64 0)) (h2 : w.cell? ⟨b, 2, none⟩ = some (.int .i64 (s.size : Nat)))
    (h3 : w.cell? ⟨b, 3, none⟩ = some (.int .i64 7)) (h6 : w.cell? ⟨b, 6, none⟩ = some (.bool false)) :
    Calls Try.prog 8 #[.pointer (some ⟨b, 0, none⟩), .string s] w fun e w' => e = .returned (.bool true) ∧ ∃ m, w' = w.drewN m := by
  have hex : s.extract 0 s.size = s := ByteArray.extract_zero_size
  go_enter Try.func8, Try.ntmps8
  go_wp2_with fail
  refine (text_any b s.size s _ h0 h1 h2 (Nat.le_refl _)).mono ?_
  rintro e w' ⟨rfl, m, rfl⟩
  rw [hex]
  go_wp2_with fail
  refine (piped_any b false _ (by simpa using h6)).mono ?_
  rintro e w' ⟨rfl, rfl⟩
  go_wp2_with fail
  refine (blockLine_any b 0 7 _ (by simpa using h3)).mono ?_
  rintro e w' ⟨rfl, rfl⟩
  go_wp2
  go_ret
  exact ⟨rfl, _, rfl⟩
end Go.Proofs.Qxb6002415a
