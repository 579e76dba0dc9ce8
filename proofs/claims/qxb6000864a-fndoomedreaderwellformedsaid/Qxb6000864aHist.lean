import Derived.Test.Qxb6000864aRaw
namespace Go.Proofs.Qxb6000864a
open Go.RowKit
def zEv : Array Value := #[.bool false, .int .i64 0, .int .i64 0, .bool false]
def zTx : Array Value := #[.slice none 0 0, .bool false]
theorem info32h : (Try.prog.info? 32).map (fun i => (i.zero, i.size, i.bytes)) = some (some (.slice none 0 0), 1, 24) := by kernel_rfl
theorem info36h : (Try.prog.info? 36).map (fun i => (i.zero, i.size, i.bytes)) = some (some (.agg zTx), 2, 32) := by kernel_rfl
theorem info56h : (Try.prog.info? 56).map (fun i => (i.zero, i.size, i.bytes)) = some (some (.agg zEv), 4, 32) := by kernel_rfl
theorem make_rows {P : Program} (t e : TypeId) (z : Array Value) (size bytes : Nat) (ht : P.underlying t = some (.slice e)) (hinfo : (P.info? e).map (fun i => (i.zero, i.size, i.bytes)) = some (some (.agg z), size, bytes)) (n : Nat) (hb : bytes * n ≤ 281474976710656) (h63 : n ≤ 9223372036854775807) (w : World) :
    (Instr.makeSlice t (.int .i64 (n : Int)) (.int .i64 (n : Int))).run P w = .ok (.slice (some ⟨w.heap.size, 0, none⟩) n n) (w.alloc (.cells (madeCells z (n * size)) e)) := by
  obtain ⟨i, hi, hz0, hz1, hz2⟩ := info_parts hinfo
  have h := run_make (P := P) w t e i (.agg z) ht hi hz0 .i64 .i64 n n (by omega) (Int.le_refl _) (by rw [hz2]; have : ((bytes * n : Nat) : Int) ≤ 281474976710656 := by omega
                                                                                                      rwa [Int.natCast_mul] at this) (by omega)
  rw [hz1] at h
  simpa [Value.cells] using h
theorem rowIs_rows (w : World) (z : Array Value) (n : Nat) (t : TypeId) : (w.alloc (.cells (madeCells z n) t)).rowIs w.heap.size t n (fun i => z[i % z.size]!) :=
  ⟨_, Deep.blk_alloc_new _ _, size_madeCells _ _, fun i hi => by simp [madeCells, hi]⟩
theorem ev_row {wr : World} {M n k : Nat} {t : TypeId} {g : Nat → Value} {es : List Ev} (h : wr.rowIs M t n g) (hf : ∀ j (hj : j < es.length), j < k → g (j * 4) = .bool es[j].wr ∧ g (j * 4 + 1) = .int .i64 es[j].key ∧ g (j * 4 + 2) = .int .i64 es[j].num ∧ g (j * 4 + 3) = .bool es[j].ini)
    (hk : k < es.length) {e : Ev} (he : e = es[k]) (X : Obj) :
    ∃ g', (((((wr.setCell ⟨M, k * 4, none⟩ (.bool e.wr)).setCell ⟨M, k * 4 + 1, none⟩ (.int .i64 e.key)).setCell ⟨M, k * 4 + 2, none⟩ (.int .i64 e.num)).setCell ⟨M, k * 4 + 3, none⟩ (.bool e.ini)).alloc X).rowIs M t n g' ∧
      ∀ j (hj : j < es.length), j < k + 1 → g' (j * 4) = .bool es[j].wr ∧ g' (j * 4 + 1) = .int .i64 es[j].key ∧ g' (j * 4 + 2) = .int .i64 es[j].num ∧ g' (j * 4 + 3) = .bool es[j].ini := by
  refine ⟨_, ((((h.set _ _).set _ _).set _ _).set _ _).alloc X, fun j hj hjk => ?_⟩
  by_cases e1 : j = k
  · subst e1
    subst he
    refine ⟨?_, ?_, ?_, ?_⟩
    · rw [if_neg (by omega), if_neg (by omega), if_neg (by omega), if_pos rfl]
    · rw [if_neg (by omega), if_neg (by omega), if_pos rfl]
    · rw [if_neg (by omega), if_pos rfl]
    · rw [if_pos rfl]
  · obtain ⟨h0, h1, h2, h3⟩ := hf j hj (by omega)
    refine ⟨?_, ?_, ?_, ?_⟩
    · rw [if_neg (by omega), if_neg (by omega), if_neg (by omega), if_neg (by omega)]; exact h0
    · rw [if_neg (by omega), if_neg (by omega), if_neg (by omega), if_neg (by omega)]; exact h1
    · rw [if_neg (by omega), if_neg (by omega), if_neg (by omega), if_neg (by omega)]; exact h2
    · rw [if_neg (by omega), if_neg (by omega), if_neg (by omega), if_neg (by omega)]; exact h3
theorem setCell_size (w : World) (a : Addr) (v : Value) : (w.setCell a v).heap.size = w.heap.size := by simp [World.setCell]
theorem evs_done {wr : World} {M n : Nat} {g : Nat → Value} {es : List Ev} (h : wr.rowIs M 56 (n * 4) g) (hn : n = es.length) (hs : n ≤ small) (hf : ∀ j (hj : j < es.length), j < n → g (j * 4) = .bool es[j].wr ∧ g (j * 4 + 1) = .int .i64 es[j].key ∧ g (j * 4 + 2) = .int .i64 es[j].num ∧ g (j * 4 + 3) = .bool es[j].ini)
    (hok : ∀ j (hj : j < es.length), (Lit.int .i64 es[j].key).wf = true ∧ (Lit.int .i64 es[j].num).wf = true) {lo : Nat} (hlo : lo ≤ M) : EvsFr lo wr (.slice (some ⟨M, 0, none⟩) n n) es := by
  refine ⟨by omega, some ⟨M, 0, none⟩, n, by rw [hn], fun i hi => ⟨M, 0, rfl, hlo, ?_⟩⟩
  obtain ⟨h0, h1, h2, h3⟩ := hf i hi (by omega)
  rw [Nat.zero_add]
  refine ⟨?_, ?_, ?_, ?_, (hok i hi).1, (hok i hi).2⟩
  · rw [← h0]; exact h.cell (by omega)
  · rw [← h1]; exact h.cell (by omega)
  · rw [← h2]; exact h.cell (by omega)
  · rw [← h3]; exact h.cell (by omega)
/-- a transaction is laid into the row L: its events lie in a row further on. -/
theorem tx_row {wm wr : World} {L n k : Nat} {g : Nat → Value} {s : List Tx} {u : Value} {t : Tx} (h : wm.rowIs L 36 (n * 2) g) (hf : ∀ j (hj : j < s.length), j < k → EvsFr (L + 1) wm (g (j * 2)) s[j].evs ∧ g (j * 2 + 1) = .bool s[j].com)
    (hb : Below wm.heap.size wm wr) (hu : EvsFr (L + 1) wr u t.evs) (hk : k < s.length) (ht : t = s[k]) :
    ∃ g', ((wr.setCell ⟨L, k * 2, none⟩ u).setCell ⟨L, k * 2 + 1, none⟩ (.bool t.com)).rowIs L 36 (n * 2) g' ∧
      ∀ j (hj : j < s.length), j < k + 1 → EvsFr (L + 1) ((wr.setCell ⟨L, k * 2, none⟩ u).setCell ⟨L, k * 2 + 1, none⟩ (.bool t.com)) (g' (j * 2)) s[j].evs ∧ g' (j * 2 + 1) = .bool s[j].com := by
  have hset : From (L + 1) wr ((wr.setCell ⟨L, k * 2, none⟩ u).setCell ⟨L, k * 2 + 1, none⟩ (.bool t.com)) := fun b hb1 hb2 => by
    rw [Below.heap_setCell _ _ _ _ (by simp; omega), Below.heap_setCell _ _ _ _ (by simp; omega)]
  have hall : From (L + 1) wm ((wr.setCell ⟨L, k * 2, none⟩ u).setCell ⟨L, k * 2 + 1, none⟩ (.bool t.com)) := fun b hb1 hb2 => by
    rw [hset b hb1 (by have := hb.size; omega), hb.block b hb2]
  refine ⟨_, ((h.of_block (hb.block L h.lt)).set _ _).set _ _, fun j hj hjk => ?_⟩
  by_cases e1 : j = k
  · subst e1
    subst ht
    refine ⟨?_, ?_⟩
    · rw [if_neg (by omega), if_pos rfl]; exact hu.keep hset
    · rw [if_pos rfl]
  · obtain ⟨h0, h1⟩ := hf j hj (by omega)
    refine ⟨?_, ?_⟩
    · rw [if_neg (by omega), if_neg (by omega)]; exact h0.keep hall
    · rw [if_neg (by omega), if_neg (by omega)]; exact h1
theorem txs_done {wr : World} {L n lo : Nat} {g : Nat → Value} {s : List Tx} (h : wr.rowIs L 36 (n * 2) g) (hn : n = s.length) (hs : n ≤ small) (hf : ∀ j (hj : j < s.length), j < n → EvsFr (L + 1) wr (g (j * 2)) s[j].evs ∧ g (j * 2 + 1) = .bool s[j].com) (hlo : lo ≤ L) :
    TxsFr lo wr (.slice (some ⟨L, 0, none⟩) n n) s := by
  refine ⟨by omega, some ⟨L, 0, none⟩, n, by rw [hn], fun i hi => ⟨L, 0, g (i * 2), rfl, hlo, ?_, ?_, ?_⟩⟩
  · rw [Nat.zero_add]; exact h.cell (by omega)
  · rw [Nat.zero_add, ← (hf i hi (by omega)).2]; exact h.cell (by omega)
  · exact (hf i hi (by omega)).1.lo (by omega)
/-- a session is laid into the row B0. -/
theorem sess_row {wl wr : World} {B0 n k : Nat} {f : Nat → Value} {ss : List (List Tx)} {u : Value} {s : List Tx} (h : wl.rowIs B0 32 n f) (hf : ∀ j (hj : j < ss.length), j < k → TxsFr (B0 + 2) wl (f j) ss[j])
    (hb : Below wl.heap.size wl wr) (hu : TxsFr (B0 + 2) wr u s) (hk : k < ss.length) (hs : s = ss[k]) :
    ∃ f', (wr.setCell ⟨B0, k, none⟩ u).rowIs B0 32 n f' ∧ ∀ j (hj : j < ss.length), j < k + 1 → TxsFr (B0 + 2) (wr.setCell ⟨B0, k, none⟩ u) (f' j) ss[j] := by
  have hset : From (B0 + 2) wr (wr.setCell ⟨B0, k, none⟩ u) := fun b hb1 hb2 => by
    rw [Below.heap_setCell _ _ _ _ (by simp; omega)]
  have hall : From (B0 + 2) wl (wr.setCell ⟨B0, k, none⟩ u) := fun b hb1 hb2 => by
    rw [hset b hb1 (by have := hb.size; omega), hb.block b hb2]
  refine ⟨_, (h.of_block (hb.block B0 h.lt)).set _ _, fun j hj hjk => ?_⟩
  by_cases e1 : j = k
  · subst e1
    subst hs
    rw [if_pos rfl]; exact hu.keep hset
  · rw [if_neg e1]; exact (hf j hj (by omega)).keep hall
theorem cell_setOther {w : World} {a p : Addr} {v u : Value} (h : w.cell? a = some v) (hne : a.block ≠ p.block) : (w.setCell p u).cell? a = some v := by
  rw [World.cell?_of_block (Below.heap_setCell w p u a.block hne)]; exact h
set_option maxRecDepth 100000 in
set_option maxHeartbeats 2000000 in
theorem toHist_any (v : Value) (ss : List (List Tx)) (w : World) (hs : SessAt w v ss) :
    Calls Try.prog 12 #[v] w fun e w' => ∃ p, e = .returned p ∧ HistAt w' p ss ∧ Below w.heap.size w w' := by
  obtain ⟨hs0, sa, scap, rfl, hs⟩ := hs
  have HS : Hid (∀ i (h : i < ss.length), ∃ b off u, sa = some ⟨b, off, none⟩ ∧ w.cell? ⟨b, off + i, none⟩ = some u ∧ TxsAt w u ss[i]) := hs
  obtain ⟨n, hn⟩ : ∃ n, n = ss.length := ⟨_, rfl⟩
  rw [← hn] at hs0 ⊢
  have HN : Hid (n = ss.length) := hn
  clear hs hn
  unfold small at hs0
  have hmk := run_make_row' (P := Try.prog) 28 32 (.slice none 0 0) 24 Try.underlying28 info32h rfl .i64 .i64 n (by omega) (by omega)
  go_enter Try.func12, Try.ntmps12
  go_wp2
  clear hmk
  go_loopw [19] (fun i wr => ∃ k : Nat, k ≤ n ∧ i = .int .i64 k ∧ (∃ f, wr.rowIs w.heap.size 32 n f ∧ ∀ j (hj : j < ss.length), j < k → TxsFr (w.heap.size + 2) wr (f j) ss[j]) ∧ wr.cell? ⟨w.heap.size + 1, 0, none⟩ = some (.slice (some ⟨w.heap.size, 0, none⟩) n n) ∧ Below w.heap.size w wr ∧ w.heap.size + 2 ≤ wr.heap.size) (fun i _ => n - (intOf i).toNat)
  case atStart => exact ⟨0, by omega, rfl, ⟨_, (World.rowIs_made _ _ _ _).alloc _, fun j _ hj => absurd hj (by omega)⟩, by simp, ((Below.refl _ _).alloc (Nat.le_refl _) _).alloc (by simp) _, by simp⟩
  case round =>
    obtain ⟨k, hk, rfl, ⟨f, hrow, hfin⟩, hcp, hbw, hs2⟩ := hrel
    have hsz := hbw.size
    by_cases hlt : k < n
    · have hk1 : k < ss.length := by have := HN.out; omega
      obtain ⟨b1, o1, u1, rfl, hu, ht⟩ := HS.out k hk1
      have hu' := cell_stay hbw hu
      obtain ⟨s, hs⟩ : ∃ s, s = ss[k] := ⟨_, rfl⟩
      rw [← hs] at ht
      have HSK : Hid (s = ss[k]) := hs
      clear hs hu
      obtain ⟨ht0, ta, tcap, rfl, ht⟩ := ht
      have HT : Hid (∀ i (h : i < s.length), ∃ b off u, ta = some ⟨b, off, none⟩ ∧ TxAt w b (off + i * 2) u s[i]) := ht
      obtain ⟨n2, hn2⟩ : ∃ n, n = s.length := ⟨_, rfl⟩
      rw [← hn2] at ht0 hu'
      have HN2 : Hid (n2 = s.length) := hn2
      clear ht hn2
      unfold small at ht0
      have HRW : Hid (wr.rowIs w.heap.size 32 n f) := hrow
      have HFI : Hid (∀ j (hj : j < ss.length), j < k → TxsFr (w.heap.size + 2) wr (f j) ss[j]) := hfin
      clear hrow hfin
      have hmk := make_rows (P := Try.prog) 32 36 zTx 2 32 Try.underlying32 info36h n2 (by omega) (by omega)
      go_wp2
      clear hmk
      obtain ⟨wl, hwl⟩ : ∃ wl : World, wl = wr := ⟨_, rfl⟩
      subst hwl
      go_loopw [31] (fun i wr => ∃ k2 : Nat, k2 ≤ n2 ∧ i = .int .i64 k2 ∧ (∃ g, wr.rowIs wl.heap.size 36 (n2 * 2) g ∧ ∀ j (hj : j < s.length), j < k2 → EvsFr (wl.heap.size + 1) wr (g (j * 2)) s[j].evs ∧ g (j * 2 + 1) = .bool s[j].com) ∧ Below wl.heap.size wl wr ∧ wl.heap.size + 1 ≤ wr.heap.size) (fun i _ => n2 - (intOf i).toNat)
      case atStart => exact ⟨0, by omega, rfl, ⟨_, rowIs_rows _ _ _ _, fun j _ hj => absurd hj (by omega)⟩, (Below.refl _ _).alloc (Nat.le_refl _) _, by simp⟩
      case round =>
        obtain ⟨k2, hk2, rfl, ⟨g, hrow2, hfin2⟩, hbl, hs3⟩ := hrel
        have hsl := hbl.size
        have HB2 : Hid (Below w.heap.size w wr) := hbw.trans (hbl.mono (by omega))
        by_cases hlt2 : k2 < n2
        · have hk2s : k2 < s.length := by have := HN2.out; omega
          obtain ⟨b2, o2, u2, rfl, ht⟩ := HT.out k2 hk2s
          have ht' := ht.stay HB2.out
          obtain ⟨t, htt⟩ : ∃ t, t = s[k2] := ⟨_, rfl⟩
          rw [← htt] at ht ht'
          have HTK : Hid (t = s[k2]) := htt
          clear htt
          obtain ⟨c0, c1, hev⟩ := ht'
          clear hev
          obtain ⟨he0, ea, ecap, rfl, he⟩ := ht.evs
          have HE : Hid (∀ i (h : i < t.evs.length), ∃ b off, ea = some ⟨b, off, none⟩ ∧ EvAt w b (off + i * 4) t.evs[i]) := he
          obtain ⟨n3, hn3⟩ : ∃ n, n = t.evs.length := ⟨_, rfl⟩
          rw [← hn3] at he0 c0
          have HN3 : Hid (n3 = t.evs.length) := hn3
          clear he hn3 ht
          unfold small at he0
          have HRW2 : Hid (wr.rowIs wl.heap.size 36 (n2 * 2) g) := hrow2
          have HFI2 : Hid (∀ j (hj : j < s.length), j < k2 → EvsFr (wl.heap.size + 1) wr (g (j * 2)) s[j].evs ∧ g (j * 2 + 1) = .bool s[j].com) := hfin2
          have l4 := cell_lt c0
          clear hrow2 hfin2
          have hmk := make_rows (P := Try.prog) 34 56 zEv 4 32 Try.underlying34 info56h n3 (by omega) (by omega)
          go_wp2
          clear hmk
          obtain ⟨wm, hwm⟩ : ∃ wm : World, wm = wr := ⟨_, rfl⟩
          subst hwm
          go_loopw [44] (fun i wr => ∃ k3 : Nat, k3 ≤ n3 ∧ i = .int .i64 k3 ∧ (∃ g, wr.rowIs wm.heap.size 56 (n3 * 4) g ∧ ∀ j (hj : j < t.evs.length), j < k3 → g (j * 4) = .bool t.evs[j].wr ∧ g (j * 4 + 1) = .int .i64 t.evs[j].key ∧ g (j * 4 + 2) = .int .i64 t.evs[j].num ∧ g (j * 4 + 3) = .bool t.evs[j].ini) ∧ Below wm.heap.size wm wr ∧ wm.heap.size + 1 ≤ wr.heap.size) (fun i _ => n3 - (intOf i).toNat)
          case atStart => exact ⟨0, by omega, rfl, ⟨_, rowIs_rows _ _ _ _, fun j _ hj => absurd hj (by omega)⟩, (Below.refl _ _).alloc (Nat.le_refl _) _, by simp⟩
          case round =>
            obtain ⟨k3, hk3, rfl, ⟨g3, hrow3, hfin3⟩, hbm, hs4⟩ := hrel
            have hsm := hbm.size
            by_cases hlt3 : k3 < n3
            · have hk3s : k3 < t.evs.length := by have := HN3.out; omega
              obtain ⟨b3, o3, rfl, h1⟩ := HE.out k3 hk3s
              have h1' := (h1.stay HB2.out).stay hbm
              obtain ⟨e1, he1⟩ : ∃ e, e = t.evs[k3] := ⟨_, rfl⟩
              rw [← he1] at h1 h1'
              have HEK : Hid (e1 = t.evs[k3]) := he1
              clear he1 h1
              obtain ⟨a0, a1, a2, a3, ok1, ok2⟩ := h1'
              have l1 := cell_lt a0
              have r0 := hrow3.cell (i := k3 * 4) (by omega)
              have r1 := hrow3.cell (i := k3 * 4 + 1) (by omega)
              have r2 := hrow3.cell (i := k3 * 4 + 2) (by omega)
              have r3 := hrow3.cell (i := k3 * 4 + 3) (by omega)
              have f0 := hrow3.frozen (k3 * 4)
              have f1 := hrow3.frozen (k3 * 4 + 1)
              have f2 := hrow3.frozen (k3 * 4 + 2)
              have f3 := hrow3.frozen (k3 * 4 + 3)
              have l5 := hrow3.lt
              have HRW3 : Hid (wr.rowIs wm.heap.size 56 (n3 * 4) g3) := hrow3
              have HFI3 : Hid (∀ j (hj : j < t.evs.length), j < k3 → g3 (j * 4) = .bool t.evs[j].wr ∧ g3 (j * 4 + 1) = .int .i64 t.evs[j].key ∧ g3 (j * 4 + 2) = .int .i64 t.evs[j].num ∧ g3 (j * 4 + 3) = .bool t.evs[j].ini) := hfin3
              clear hrow3 hfin3 ok1 ok2
              go_wp2
              go_roundw
              case rel => exact ⟨k3 + 1, by omega, by go_num, ev_row HRW3.out HFI3.out hk3s HEK.out _, ((((hbm.setCell (Nat.le_refl _) _).setCell (Nat.le_refl _) _).setCell (Nat.le_refl _) _).setCell (Nat.le_refl _) _).alloc (by simp; omega) _, by simp; omega⟩
              case measure => simp [intOf]; omega
            · have HEVS : Hid (EvsFr (wl.heap.size + 1) wr (.slice (some ⟨wm.heap.size, 0, none⟩) n3 n3) t.evs) := by
                have e3 : k3 = n3 := by omega
                subst e3
                exact evs_done hrow3 HN3.out (by unfold small; omega) hfin3 (fun j hj => by obtain ⟨_, _, _, h⟩ := HE.out j hj; exact ⟨h.k1, h.k2⟩) hs3
              clear hrow3 hfin3
              have c1' := cell_stay hbm c1
              have l6 := cell_lt c1'
              have rr := HRW2.out.of_block (hbm.block wl.heap.size (by omega))
              have r0 := rr.cell (i := k2 * 2) (by omega)
              have r1 := rr.cell (i := k2 * 2 + 1) (by omega)
              have f0 := rr.frozen (k2 * 2)
              have f1 := rr.frozen (k2 * 2 + 1)
              clear rr c0 c1 l4
              go_wp2
              go_roundw
              case rel => exact ⟨k2 + 1, by omega, by go_num, tx_row HRW2.out HFI2.out hbm HEVS.out hk2s HTK.out, (((hbl.trans (hbm.mono hsl)).setCell (Nat.le_refl _) _).setCell (Nat.le_refl _) _), by simp; omega⟩
              case measure => simp [intOf]; omega
        · have HTXS : Hid (TxsFr (w.heap.size + 2) wr (.slice (some ⟨wl.heap.size, 0, none⟩) n2 n2) s) := by
            have e2 : k2 = n2 := by omega
            subst e2
            exact txs_done hrow2 HN2.out (by unfold small; omega) hfin2 hs2
          clear hrow2 hfin2
          have hcp' := cell_stay hbl hcp
          have l7 := cell_lt hcp'
          have rr := HRW.out.of_block (hbl.block w.heap.size (by omega))
          have r0 := rr.cell hlt
          have f0 := rr.frozen k
          clear rr
          go_wp2
          go_roundw
          case rel => exact ⟨k + 1, by omega, by go_num, sess_row HRW.out HFI.out hbl HTXS.out hk1 HSK.out, cell_setOther hcp' (by simp), HB2.out.setCell (Nat.le_refl _) _, by rw [setCell_size]; omega⟩
          case measure => simp [intOf]; omega
    · have HRW : Hid (wr.rowIs w.heap.size 32 n f) := hrow
      have HFI : Hid (∀ j (hj : j < ss.length), j < k → TxsFr (w.heap.size + 2) wr (f j) ss[j]) := hfin
      clear hrow hfin
      go_wp2
      go_ret
      refine ⟨_, rfl, ⟨w.heap.size + 1, 0, _, rfl, hcp, ?_⟩, hbw⟩
      refine ⟨by unfold small; have := HN.out; omega, _, n, by rw [HN.out], fun i hi => ⟨w.heap.size, 0, f i, rfl, ?_, (HFI.out i hi (by have := HN.out; omega)).at⟩⟩
      rw [Nat.zero_add]
      exact HRW.out.cell (by have := HN.out; omega)
end Go.Proofs.Qxb6000864a
