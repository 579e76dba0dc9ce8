import Derived.Test.Qxb6000864aWf
import Derived.Test.Qxb6000864aDoom
namespace Go.Proofs.Qxb6000864a
open Go.RowKit
/-! ### DoomedReader's history is well formed: in plain data -/
def blW (b : Nat) : List (Int × Int) := (List.range b).flatMap fun (m : Nat) => [(4, (m : Int) + 1), (10 + (m : Int), 1)]
theorem blW_mem {b : Nat} {p : Int × Int} : p ∈ blW b ↔ ∃ m : Nat, m < b ∧ (p = (4, (m : Int) + 1) ∨ p = (10 + (m : Int), 1)) := by
  simp [blW]
theorem blW_succ (b : Nat) : blW (b + 1) = blW b ++ [(4, (b : Int) + 1), (10 + (b : Int), 1)] := by simp [blW, List.range_succ]
theorem blW_len (b : Nat) : (blW b).length = 2 * b := by
  induction b with
  | zero => rfl
  | succ b ih => rw [blW_succ, List.length_append, ih]; simp; omega
theorem blW_nodup (b : Nat) : (blW b).Nodup := by
  induction b with
  | zero => simp [blW]
  | succ b ih =>
    rw [blW_succ, List.nodup_append]
    refine ⟨ih, ?_, fun x hx y hy e => ?_⟩
    · simp
      omega
    · obtain ⟨m, hm, h | h⟩ := blW_mem.1 hx <;> simp at hy <;> rcases hy with h' | h' <;> · rw [h, h'] at e; injection e with e1 e2; omega
theorem wS_bl (m : Nat) : wS (blS m) = [(4, (m : Int) + 1), (10 + (m : Int), 1)] := rfl
theorem wE_fst (b : Nat) : wE (fst b) = [] := by
  simp [wE, fst, evRd]
theorem wS_rd (b : Nat) : wS (rdS b) = [] := by
  simp [wS, rdS, wE_fst]
  simp [wE, evRd]
theorem wH_dr (b : Nat) : wH (drSS b) = [(2, 1), (3, 1), (1, 2), (2, 3), (1, 4)] ++ (blW b ++ [(5, 1), (6, 1)]) := by
  have e : wH (drSS b) = wH cS ++ (wH ((List.range b).map blS) ++ (wS (rdS b) ++ wH drPost)) := by
    simp [wH, drSS, drPre]
  rw [e, wS_rd]
  congr 1
  congr 1
  simp [wH, blW, List.flatMap_map]
  rfl
theorem dr_mem {b : Nat} {s : List Tx} (h : s ∈ drSS b) : s ∈ cS ∨ (∃ m, m < b ∧ s = blS m) ∨ s = rdS b ∨ s ∈ drPost := by
  unfold drSS drPre at h
  simp only [List.mem_append, List.mem_cons, List.mem_map, List.mem_range] at h
  rcases h with (h | ⟨m, hm, rfl⟩) | h | h
  · exact .inl h
  · exact .inr (.inl ⟨m, hm, rfl⟩)
  · exact .inr (.inr (.inl h))
  · exact .inr (.inr (.inr h))
/-- what each event of the history is. -/
theorem dr_ev {b : Nat} {s : List Tx} {t : Tx} (hs : s ∈ drSS b) (ht : t ∈ s) : t.com = true ∧ ∀ e ∈ t.evs, (∃ k n : Int, 1 ≤ n ∧ e = evWr k n) ∨ (∃ k : Int, e = evRd k 0) ∨ ∃ k n : Int, n ≠ 0 ∧ e = evRd k n ∧ (k, n) ∈ wH (drSS b) := by
  rw [wH_dr]
  rcases dr_mem hs with h | ⟨m, hm, rfl⟩ | rfl | h
  · simp [cS] at h
    rcases h with rfl | rfl | rfl <;> simp at ht <;> subst ht <;> refine ⟨rfl, fun e he => .inl ?_⟩ <;> simp at he
    · rcases he with rfl | rfl <;> exact ⟨_, _, by omega, rfl⟩
    · rcases he with rfl | rfl <;> exact ⟨_, _, by omega, rfl⟩
    · subst he; exact ⟨_, _, by omega, rfl⟩
  · simp [blS] at ht
    subst ht
    refine ⟨rfl, fun e he => .inl ?_⟩
    simp at he
    rcases he with rfl | rfl <;> exact ⟨_, _, by omega, rfl⟩
  · simp [rdS] at ht
    rcases ht with rfl | rfl
    · refine ⟨rfl, fun e he => .inr (.inr ?_)⟩
      obtain ⟨i, hi, rfl⟩ := List.mem_map.1 he
      refine ⟨_, _, by decide, rfl, ?_⟩
      rw [List.mem_append, List.mem_append]
      exact .inr (.inl (blW_mem.2 ⟨i, by simpa using hi, .inr rfl⟩))
    · refine ⟨rfl, fun e he => .inr ?_⟩
      simp at he
      rcases he with rfl | rfl
      · exact .inr ⟨_, _, by decide, rfl, by simp⟩
      · exact .inl ⟨_, rfl⟩
  · simp [drPost] at h
    rcases h with rfl | rfl | rfl | rfl <;> simp at ht <;> subst ht <;> refine ⟨rfl, fun e he => ?_⟩ <;> simp at he
    · subst he; exact .inl ⟨_, _, by omega, rfl⟩
    · subst he; exact .inl ⟨_, _, by omega, rfl⟩
    · rcases he with rfl | rfl
      · exact .inr (.inr ⟨_, _, by decide, rfl, by simp⟩)
      · exact .inr (.inl ⟨_, rfl⟩)
    · rcases he with rfl | rfl
      · exact .inr (.inr ⟨_, _, by decide, rfl, by simp⟩)
      · exact .inr (.inl ⟨_, rfl⟩)
theorem dr_wf {b : Nat} (hb : b ≤ 65536) : WF (drSS b) := by
  refine ⟨fun s hs t ht => (dr_ev hs ht).1, fun s hs t ht e he hw => ?_, fun s hs t ht e he hw => ?_, ?_, fun s hs t ht e he hw hi => ?_, ?_⟩
  · rcases (dr_ev hs ht).2 e he with ⟨k, n, h, rfl⟩ | ⟨k, rfl⟩ | ⟨k, n, h, rfl, _⟩
    · exact ⟨rfl, h⟩
    · cases hw
    · cases hw
  · rcases (dr_ev hs ht).2 e he with ⟨k, n, h, rfl⟩ | ⟨k, rfl⟩ | ⟨k, n, h, rfl, _⟩
    · cases hw
    · rfl
    · rfl
  · rw [wH_dr, List.nodup_append]
    refine ⟨by decide, ?_, fun x hx y hy e => ?_⟩
    · rw [List.nodup_append]
      refine ⟨blW_nodup b, by decide, fun x hx y hy e => ?_⟩
      obtain ⟨m, hm, h | h⟩ := blW_mem.1 hx <;> simp at hy <;> rcases hy with h' | h' <;> · rw [h, h'] at e; injection e with e1 e2; omega
    · subst e
      rw [List.mem_append] at hy
      rcases hy with hy | hy
      · obtain ⟨m, hm, h | h⟩ := blW_mem.1 hy <;> subst h <;> simp at hx <;> omega
      · simp at hx hy
        rcases hy with rfl | rfl <;> simp at hx
  · rcases (dr_ev hs ht).2 e he with ⟨k, n, h, rfl⟩ | ⟨k, rfl⟩ | ⟨k, n, h, rfl, hm⟩
    · cases hw
    · cases hi
    · exact hm
  · rw [wH_dr]
    simp [blW_len]
    omega
set_option maxHeartbeats 1000000 in
theorem dwf_walk (n : Int) (hw : (Lit.int .i64 n).wf = true) (w : World) :
    Calls Try.prog 6 #[.int .i64 n] w fun e w' => e = .returned (.bool true) ∧ Below w.heap.size w w' := by
  by_cases hbig : 65536 < n
  · have hd : decide ((65536 : Int) < n) = true := by simp; omega
    go_enter Try.func6, Try.ntmps6
    go_wp2
    go_ret
    exact ⟨rfl, Below.refl _ _⟩
  have hd : decide ((65536 : Int) < n) = false := by simp; omega
  have HF : Hid (WF (drSS n.toNat)) := dr_wf (by omega)
  have HLEN : Hid ((drSS n.toNat).length = 8 + n.toNat) := by show _ = _; simp [drSS, drPre_len, drPost]; try omega
  by_cases hneg : n < 0
  · have hd2 : decide (n < 0) = true := by simp; omega
    go_enter Try.func6, Try.ntmps6
    go_wp2_with fail
    refine (dr_any _ (by omega) _).mono ?_
    rintro e wh ⟨ph, rfl, hhist, hbh⟩
    have HH : Hid (HistAt wh ph (drSS n.toNat)) := hhist
    have HBH : Hid (Below w.heap.size w wh) := hbh
    obtain ⟨hb, ho, hv, rfl, hc, hss⟩ := hhist
    obtain ⟨hs0, sa', scap, rfl, hss⟩ := hss
    have h8 : (drSS n.toNat).length = 8 := by rw [HLEN.out]; omega
    rw [h8] at hc
    clear hss hbh hs0 h8
    go_wp2_with fail
    refine (wf_any _ _ _ HH.out HF.out).mono ?_
    rintro e w2 ⟨rfl, hb2⟩
    go_wp2
    go_ret
    exact ⟨rfl, HBH.out.trans (hb2.mono HBH.out.size)⟩
  · have hd2 : decide (n < 0) = false := by simp; omega
    obtain ⟨b, rfl⟩ : ∃ b : Nat, n = b := ⟨n.toNat, by omega⟩
    go_enter Try.func6, Try.ntmps6
    go_wp2_with fail
    refine (dr_any _ (by omega) _).mono ?_
    rintro e wh ⟨ph, rfl, hhist, hbh⟩
    have HH : Hid (HistAt wh ph (drSS ((b : Int)).toNat)) := hhist
    have HBH : Hid (Below w.heap.size w wh) := hbh
    obtain ⟨hb, ho, hv, rfl, hc, hss⟩ := hhist
    obtain ⟨hs0, sa', scap, rfl, hss⟩ := hss
    rw [HLEN.out] at hc
    have hbb : ((b : Int)).toNat = b := by omega
    rw [hbb] at hc
    clear hss hbh hs0 hbb
    obtain ⟨n8, hn8⟩ : ∃ n8, n8 = 8 + b := ⟨_, rfl⟩
    have hne : (((n8 : Int)) != 8 + (b : Int)) = false := by simp; omega
    rw [← hn8] at hc
    clear hn8
    go_wp2_with fail
    refine (wf_any _ _ _ HH.out HF.out).mono ?_
    rintro e w2 ⟨rfl, hb2⟩
    go_wp2
    go_ret
    exact ⟨rfl, HBH.out.trans (hb2.mono HBH.out.size)⟩
end Go.Proofs.Qxb6000864a
