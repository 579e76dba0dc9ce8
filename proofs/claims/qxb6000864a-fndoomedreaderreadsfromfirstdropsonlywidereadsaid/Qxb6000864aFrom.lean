import Derived.Test.Qxb6000864aMaps
import Derived.Deep.LoopGhost
namespace Go.Proofs.Qxb6000864a
open Go.RowKit
/-- the set of writers, by the text's order: a read of a version that is not initial adds the writer W of its version. -/
def fromM (W : Int × Int → Int × Int) (es : List Ev) : List ((Int × Int) × Value) :=
  es.foldl (fun m e => if e.wr = false ∧ e.ini = false then putm m (W (e.key, e.num)) (.bool true) else m) []
theorem fromM_take (W : Int × Int → Int × Int) {es : List Ev} {k : Nat} (h : k < es.length) :
    fromM W (es.take (k + 1)) = if es[k].wr = false ∧ es[k].ini = false then putm (fromM W (es.take k)) (W (es[k].key, es[k].num)) (.bool true) else fromM W (es.take k) := by
  unfold fromM
  rw [List.take_succ_eq_append_getElem h, List.foldl_append]
  rfl
/-- what the map 'writer' says: W. -/
structure WrIs (w : World) (bw bm : Nat) (W : Int × Int → Int × Int) : Prop where
  cell : w.cell? ⟨bw, 0, none⟩ = some (.map (some bm))
  ex : ∃ m, MapIs w bm m ∧ ∀ p, okP p → getm m p (.agg #[.int .i64 0, .int .i64 0]) = .agg #[.int .i64 (W p).1, .int .i64 (W p).2]
  ok : ∀ p, okP (W p)
theorem WrIs.stay {w w' : World} {bw bm : Nat} {W : Int × Int → Int × Int} (h : WrIs w bw bm W) (hb : Below w.heap.size w w') : WrIs w' bw bm W :=
  ⟨cell_stay hb h.cell, by obtain ⟨m, h1, h2⟩ := h.ex; exact ⟨m, h1.below hb h1.lt, h2⟩, h.ok⟩
set_option maxHeartbeats 400000 in
theorem from_any (va : Value) (ta : Tx) (bw bm : Nat) (W : Int × Int → Int × Int) (w : World) (ha : EvsAt w va ta.evs) (hw : WrIs w bw bm W) :
    Calls Try.prog 25 #[.agg #[va, .bool ta.com], .pointer (some ⟨bw, 0, none⟩)] w fun e w' => e = .returned (.map (some (w.heap.size + 1))) ∧ MapIs w' (w.heap.size + 1) (fromM W ta.evs) ∧ Below w.heap.size w w' := by
  obtain ⟨ea, cm⟩ := ta
  simp only at ha
  obtain ⟨ha0, aa, ca, rfl, ha⟩ := ha
  have HA : Hid (∀ i (h : i < ea.length), ∃ b off, aa = some ⟨b, off, none⟩ ∧ EvAt w b (off + i * 4) ea[i]) := ha
  obtain ⟨n, hn⟩ : ∃ n, n = ea.length := ⟨_, rfl⟩
  rw [← hn]
  rw [← hn] at ha0
  have HN : Hid (n = ea.length) := hn
  clear ha hn
  unfold small at ha0
  have hb0 := fun o1 o2 => ((Below.refl w.heap.size w).alloc (Nat.le_refl _) o1).alloc (by simp) o2
  have hmm := @run_makeMap Try.prog
  go_enter Try.func25, Try.ntmps25
  go_wp2
  go_loopw [11] (fun i wr => ∃ k : Nat, k ≤ n ∧ i = .int .i64 k ∧ MapIs wr (w.heap.size + 1) (fromM W (ea.take k)) ∧ Below w.heap.size w wr) (fun i _ => n - (intOf i).toNat)
  case atStart => exact ⟨0, by omega, rfl, by simpa [fromM] using MapIs.made (w.alloc _), hb0 _ _⟩
  case round =>
    obtain ⟨k, hk, rfl, hmp, hbw⟩ := hrel
    by_cases hlt : k < n
    · have hk1 : k < ea.length := by have := HN.out; omega
      obtain ⟨b1, o1, rfl, h1⟩ := HA.out k hk1
      have h1' := h1.stay hbw
      have HR : Hid (_ = _) := fromM_take W hk1
      obtain ⟨e1, he1⟩ : ∃ e, e = ea[k] := ⟨_, rfl⟩
      rw [← he1] at h1 h1' HR
      clear he1
      obtain ⟨a0, a1, a2, a3, ok1, ok2⟩ := h1'
      have hsz := hbw.size
      have l1 := cell_lt a0
      have l2 := hmp.lt
      have hw' := hw.stay hbw
      obtain ⟨hwc, ⟨mw, hmw, hgw⟩, hok⟩ := hw'
      have l3 := cell_lt hwc
      have HW : Hid (MapIs wr bm mw) := hmw
      have HG : Hid (∀ p, okP p → getm mw p (.agg #[.int .i64 0, .int .i64 0]) = .agg #[.int .i64 (W p).1, .int .i64 (W p).2]) := hgw
      have HO : Hid (∀ p, okP (W p)) := hok
      have HM : Hid (MapIs wr (w.heap.size + 1) (fromM W (ea.take k))) := hmp
      have OK : Hid (okP (e1.key, e1.num)) := ⟨ok1, ok2⟩
      clear hmw hgw hok hmp ok1 ok2 h1
      go_wp2_with (first
        | (at_lookup; refine wpList_look _ rfl _ _ 57 rfl 61 59 law61 keys61 Try.underlying57 _ zero59 bm mw rfl (HW.out.alloc _) (e1.key, e1.num) OK.out rfl _ (HG.out _ OK.out) ?_)
        | (at_mapUpdate; refine wpList_put _ rfl _ _ _ 62 rfl 59 4 law59 keys59 Try.underlying62 (w.heap.size + 1) _ rfl (HM.out.alloc _) (W (e1.key, e1.num)) (HO.out _) (.bool true) rfl rfl ?_; intro w2 hm2 hg2))
      all_goals
        go_roundw
        case rel => exact ⟨k + 1, by omega, by go_num, by first | (rw [HR.out, if_neg (by simp_all)]; exact HM.out.alloc _) | (rw [HR.out, if_pos (by simp_all)]; exact hm2),
          by first | exact hbw.alloc (by omega) _ | exact (hbw.alloc (by omega) _).grown hg2 (by simp; omega) (fun j hj => by cases hj; omega)⟩
        case measure => simp [intOf]; omega
    · go_wp2
      go_ret
      have hT : fromM W (ea.take k) = fromM W ea := by rw [List.take_of_length_le (by have := HN.out; omega)]
      exact ⟨rfl, hT ▸ hmp, hbw⟩
theorem from_some (va : Value) (ta : Tx) (bw bm : Nat) (W : Int × Int → Int × Int) (w : World) (ha : EvsAt w va ta.evs) (hw : WrIs w bw bm W) :
    Calls Try.prog 25 #[.agg #[va, .bool ta.com], .pointer (some ⟨bw, 0, none⟩)] w fun e w' => ∃ r, e = .returned (.map (some r)) ∧ w.heap.size ≤ r ∧ MapIs w' r (fromM W ta.evs) ∧ Below w.heap.size w w' :=
  (from_any va ta bw bm W w ha hw).mono fun _ _ ⟨h1, h2, h3⟩ => ⟨_, h1, by omega, h2, h3⟩
end Go.Proofs.Qxb6000864a
