import Derived.Test.Qxb6000864aRaw
import Derived.Test.Qxb6000864aHist
import Derived.Deep.RegionHeld3
import Derived.Deep.QuietTactic
import Derived.BigQuiet
namespace Go.Proofs.Qxb6000864a
open Go.RowKit
def kvL (a b : Int × Int) : Bool := if a.1 = b.1 then decide (a.2 < b.2) else decide (a.1 < b.1)
def kvV (a : Int × Int) : Value := .agg #[.int .i64 a.1, .int .i64 a.2]
set_option maxHeartbeats 1000000 in
theorem kvLess_any (a1 a2 b1 b2 : Int) (w : World) :
    Calls Try.prog 30 #[.agg #[.int .i64 a1, .int .i64 a2], .agg #[.int .i64 b1, .int .i64 b2]] w fun e w' => e = .returned (.bool (kvL (a1, a2) (b1, b2))) ∧ Below w.heap.size w w' := by
  have hb : ∀ o1 o2, Below w.heap.size w ((w.alloc o1).alloc o2) := fun o1 o2 => ((Below.refl _ _).alloc (Nat.le_refl _) o1).alloc (by simp) o2
  by_cases h : a1 = b1
  · subst h
    have e : kvL (a1, a2) (a1, b2) = decide (a2 < b2) := by simp [kvL]
    rw [e]
    have hne : (a1 != a1) = false := by simp
    go_enter Try.func30, Try.ntmps30
    go_wp2
    go_ret
    exact ⟨rfl, hb _ _⟩
  · have e : kvL (a1, a2) (b1, b2) = decide (a1 < b1) := by simp [kvL, h]
    rw [e]
    have hne : (a1 != b1) = true := by simp [h]
    go_enter Try.func30, Try.ntmps30
    go_wp2
    go_ret
    exact ⟨rfl, hb _ _⟩
/-- the slice value holds the pairs xs, in a row of its own from the block's start on. -/
def KvRow (w : World) (b : Nat) (xs : List (Int × Int)) : Prop :=
  ∃ g m, xs.length * 2 ≤ m ∧ w.rowIs b 68 m g ∧ ∀ j (h : j < xs.length), g (j * 2) = .int .i64 xs[j].1 ∧ g (j * 2 + 1) = .int .i64 xs[j].2
theorem KvRow.stay {w w' : World} {b : Nat} {xs : List (Int × Int)} (h : KvRow w b xs) (hb : Below w.heap.size w w') : KvRow w' b xs := by
  obtain ⟨g, m, hm, h1, h2⟩ := h
  exact ⟨g, m, hm, h1.of_block (hb.block b h1.lt), h2⟩
theorem KvRow.cells {w : World} {b : Nat} {xs : List (Int × Int)} (h : KvRow w b xs) {j : Nat} (hj : j < xs.length) : w.cell? ⟨b, j * 2, none⟩ = some (.int .i64 xs[j].1) ∧ w.cell? ⟨b, j * 2 + 1, none⟩ = some (.int .i64 xs[j].2) := by
  obtain ⟨g, m, hm, h1, h2⟩ := h
  obtain ⟨e1, e2⟩ := h2 j hj
  exact ⟨by rw [← e1]; exact h1.cell (by omega), by rw [← e2]; exact h1.cell (by omega)⟩
set_option maxRecDepth 100000 in
set_option maxHeartbeats 2000000 in
theorem hasKV_any (b cap n idx : Nat) (xs : List (Int × Int)) (x1 x2 : Int) (w : World) (h : KvRow w b xs) (hn : n = xs.length) (hn1 : n ≤ 1048576) (hi : idx < xs.length) (hx : xs[idx] = (x1, x2)) (hlt : ∀ m (hm : m < xs.length), kvL xs[m] (x1, x2) = decide (m < idx)) :
    Calls Try.prog 31 #[.slice (some ⟨b, 0, none⟩) n cap, .agg #[.int .i64 x1, .int .i64 x2]] w fun e w' => e = .returned (.bool true) ∧ Below w.heap.size w w' := by
  have HR : Hid (KvRow w b xs) := h
  have HL : Hid (∀ m (hm : m < xs.length), kvL xs[m] (x1, x2) = decide (m < idx)) := hlt
  have HX : Hid (xs[idx]? = some (x1, x2)) := by show _ = _; rw [List.getElem?_eq_getElem hi, hx]
  have HN : Hid (n = xs.length) := hn
  have hi' : idx < n := by omega
  have HI : Hid (idx < xs.length) := hi
  clear h hlt hx hn hi
  have hblt : b < w.heap.size := by obtain ⟨g, m, hm, h1, _⟩ := HR.out; exact h1.lt
  go_enter Try.func31, Try.ntmps31
  go_wp2
  obtain ⟨w1, hw1⟩ : ∃ w1, w1 = w.alloc (.cells #[.int .i64 x1, .int .i64 x2] 68) := ⟨_, rfl⟩
  have B1 : Hid (Below w.heap.size w w1) := by rw [hw1]; exact (Below.refl _ _).alloc (Nat.le_refl _) _
  have bx0 : w1.cell? ⟨w.heap.size, 0, none⟩ = some (.int .i64 x1) := by rw [hw1]; simp
  have bx1 : w1.cell? ⟨w.heap.size, 1, none⟩ = some (.int .i64 x2) := by rw [hw1]; simp
  rw [← hw1]
  clear hw1
  go_loopw [5, 6] (fun z i wr => ∃ lo hi : Nat, z = .int .i64 lo ∧ i = .int .i64 hi ∧ lo ≤ idx ∧ idx ≤ hi ∧ hi ≤ n ∧ Below w1.heap.size w1 wr) (fun z i _ => (intOf i).toNat - (intOf z).toNat)
  case atStart => exact ⟨0, n, rfl, rfl, by omega, by omega, by omega, Below.refl _ _⟩
  case round =>
    obtain ⟨lo, hi, rfl, rfl, h1, h2, h3, hbw⟩ := hrel
    have e0 := cell_stay hbw bx0
    have e1 := cell_stay hbw bx1
    by_cases hlh : lo < hi
    · obtain ⟨mid, hmid⟩ : ∃ mid, mid = lo + (hi - lo) / 2 := ⟨_, rfl⟩
      have hm : mid < xs.length := by have := HN.out; omega
      have hm2 : mid < n := by omega
      obtain ⟨c0, c1⟩ := ((HR.out.stay B1.out).stay hbw).cells hm
      have hL := HL.out mid hm
      obtain ⟨y, hy⟩ : ∃ y, y = xs[mid] := ⟨_, rfl⟩
      obtain ⟨y1, y2⟩ := y
      rw [← hy] at c0 c1 hL
      have HK : Hid (kvL (y1, y2) (x1, x2) = decide (mid < idx)) := hL
      clear hy hL
      have hmi : (lo : Int) + ((hi : Int) - (lo : Int)) / 2 = (mid : Int) := by omega
      have HM : Hid (mid = lo + (hi - lo) / 2) := hmid
      clear hmid
      go_wp2_with fail
      try rw [hmi]
      go_region_held3 (fun w' => w'.cell? ⟨b, mid * 2, none⟩ = some (.int .i64 y1) ∧ w'.cell? ⟨b, mid * 2 + 1, none⟩ = some (.int .i64 y2) ∧ w'.cell? ⟨w.heap.size, 0, none⟩ = some (.int .i64 x1) ∧ w'.cell? ⟨w.heap.size, 1, none⟩ = some (.int .i64 x2))
        (first | go_keep | (exact ⟨cell_stay hbs c0, cell_stay hbs c1, cell_stay hbs e0, cell_stay hbs e1⟩))
        (first | (go_at_call 30; refine (kvLess_any y1 y2 x1 x2 _).mono ?_; rintro e ws ⟨rfl, hbs⟩; rw [HK.out]))
      have hbw2 : Below w1.heap.size w1 ws := hbw.trans ((((Below.refl wr.heap.size wr).drew).trans (hbs.mono (show wr.heap.size ≤ wr.drew.heap.size from Nat.le_refl _))).mono hbw.size)
      by_cases hmx : mid < idx
      · have hd : decide (mid < idx) = true := by simp [hmx]
        rw [hd]
        go_wp2
        go_roundw
        case rel => exact ⟨mid + 1, hi, by go_num, rfl, by omega, by omega, by omega, hbw2⟩
        case measure => have := HM.out; simp [intOf]; omega
      · have hd : decide (mid < idx) = false := by simp [hmx]
        rw [hd]
        go_wp2
        go_roundw
        case rel => exact ⟨lo, mid, rfl, rfl, by omega, by omega, by omega, hbw2⟩
        case measure => have := HM.out; simp [intOf]; omega
    · have hlo : lo = idx := by omega
      subst hlo
      obtain ⟨c0, c1⟩ := ((HR.out.stay B1.out).stay hbw).cells HI.out
      have hxx : xs[lo]'HI.out = (x1, x2) := by have := HX.out; rw [List.getElem?_eq_getElem HI.out] at this; exact Option.some.inj this
      rw [hxx] at c0 c1
      clear hxx
      have hd : decide ((lo : Int) < (n : Int)) = true := by simp; omega
      go_wp2_with fail
      go_quiet (fail)
      go_wp2
      go_ret
      exact ⟨rfl, B1.out.trans ((hbw.trans ((below_drewN (Below.refl wr.heap.size wr) nq).mono hbw.size)).mono B1.out.size)⟩
end Go.Proofs.Qxb6000864a
