import Derived.Test.Qxb6002415aBase
import Derived.Deep.AppendLies
import Derived.Laws.OwnMore
namespace Go.Proofs.Qxb6002415a
open Go.RowKit
/-- the node value v is of kind k (0 word, 1 pipe, 2 block) and ends at st; its memory is not block X. -/
def NodeIn (X : Nat → Prop) (w : World) (v : Value) (k st : Int) : Prop :=
  ∃ b, ¬ X b ∧ ((k = 0 ∧ v = .iface 52 (.pointer (some ⟨b, 0, none⟩)) ∧ w.cell? ⟨b, 4, none⟩ = some (.int .i64 st)) ∨
    (k = 1 ∧ v = .iface 46 (.pointer (some ⟨b, 0, none⟩)) ∧ w.cell? ⟨b, 1, none⟩ = some (.int .i64 st) ∧ ∃ l, w.cell? ⟨b, 0, none⟩ = some (.int .i64 l)) ∨
    (k = 2 ∧ v = .iface 25 (.pointer (some ⟨b, 0, none⟩)) ∧ w.cell? ⟨b, 4, none⟩ = some (.int .i64 st)))
theorem NodeIn.move {X X' : Nat → Prop} {w w' : World} {v : Value} {k st : Int} (h : NodeIn X w v k st) (hc : ∀ b o u, ¬ X b → w.cell? ⟨b, o, none⟩ = some u → w'.cell? ⟨b, o, none⟩ = some u ∧ ¬ X' b) : NodeIn X' w' v k st := by
  obtain ⟨b, hb, h⟩ := h
  rcases h with ⟨h1, h2, h3⟩ | ⟨h1, h2, h3, l, h4⟩ | ⟨h1, h2, h3⟩
  · exact ⟨b, (hc _ _ _ hb h3).2, .inl ⟨h1, h2, (hc _ _ _ hb h3).1⟩⟩
  · exact ⟨b, (hc _ _ _ hb h3).2, .inr (.inl ⟨h1, h2, (hc _ _ _ hb h3).1, l, (hc _ _ _ hb h4).1⟩)⟩
  · exact ⟨b, (hc _ _ _ hb h3).2, .inr (.inr ⟨h1, h2, (hc _ _ _ hb h3).1⟩)⟩
theorem NodeIn.stay {X : Nat → Prop} {w w' : World} {v : Value} {k st : Int} (h : NodeIn X w v k st) (hb : Below w.heap.size w w') : NodeIn X w' v k st :=
  h.move fun _ _ _ hx hc => ⟨cell_stay hb hc, hx⟩
theorem NodeIn.grown {g g' : Nat} {w w' : World} {v : Value} {k st : Int} (h : NodeIn (· = g) w v k st) (hg : w.grownBy w' (some g)) (hat : g' = g ∨ g' = w.heap.size) : NodeIn (· = g') w' v k st :=
  h.move fun b o u hx hc => ⟨hg.cell hc (by simpa using hx), by
    have := cell_lt hc
    simp only at this
    rcases hat with rfl | rfl
    · exact hx
    · show ¬ b = _
      omega⟩
def NodeAt : World → Value → Int → Int → Prop := NodeIn (fun _ => False)
theorem NodeIn.at {X : Nat → Prop} {w : World} {v : Value} {k st : Int} (h : NodeIn X w v k st) : NodeAt w v k st := h.move fun _ _ _ _ hc => ⟨hc, not_false⟩
/-- the row at nb begins with the nodes of kinds xs: node i ends at i + 1. -/
def NodesAt (w : World) (nb : Nat) (xs : List Int) : Prop := ∀ i (h : i < xs.length), ∃ v, w.cell? ⟨nb, i, none⟩ = some v ∧ NodeAt w v xs[i] ((i : Int) + 1)
theorem NodesAt.stay {w w' : World} {nb : Nat} {xs : List Int} (h : NodesAt w nb xs) (hb : Below w.heap.size w w') : NodesAt w' nb xs := fun i hi => by
  obtain ⟨v, h1, h2⟩ := h i hi
  exact ⟨v, cell_stay hb h1, NodeIn.stay h2 hb⟩
/-- the block at b: text from 0 on, line 7. -/
structure BlkAt (w : World) (b : Nat) (src : ByteArray) (to : Nat) (na : Option Addr) (m c : Nat) (pp : Bool) : Prop where
  c0 : w.cell? ⟨b, 0, none⟩ = some (.string src)
  c1 : w.cell? ⟨b, 1, none⟩ = some (.int .i64 0)
  c2 : w.cell? ⟨b, 2, none⟩ = some (.int .i64 (to : Nat))
  c3 : w.cell? ⟨b, 3, none⟩ = some (.int .i64 7)
  c4 : w.cell? ⟨b, 4, none⟩ = some (.int .i64 (to : Nat))
  c5 : w.cell? ⟨b, 5, none⟩ = some (.slice na m c)
  c6 : w.cell? ⟨b, 6, none⟩ = some (.bool pp)
theorem BlkAt.stay {w w' : World} {b : Nat} {src : ByteArray} {to : Nat} {na : Option Addr} {m c : Nat} {pp : Bool} (h : BlkAt w b src to na m c pp) (hb : Below w.heap.size w w') : BlkAt w' b src to na m c pp :=
  ⟨cell_stay hb h.c0, cell_stay hb h.c1, cell_stay hb h.c2, cell_stay hb h.c3, cell_stay hb h.c4, cell_stay hb h.c5, cell_stay hb h.c6⟩
theorem info29 : (Try.prog.info? 29).map (fun i => (i.zero, i.size, i.bytes)) = some (some .nilIface, 1, 16) := by kernel_rfl
theorem make_row0 {P : Program} (t e : TypeId) (z : Value) (bytes : Nat) (ht : P.underlying t = some (.slice e)) (hinfo : (P.info? e).map (fun i => (i.zero, i.size, i.bytes)) = some (some z, 1, bytes)) (hz1 : z.cells = #[z]) (n : Nat) (hb : bytes * n ≤ 281474976710656) (h63 : n ≤ 9223372036854775807) (w : World) :
    (Instr.makeSlice t (.int .i64 0) (.int .i64 (n : Int))).run P w = .ok (.slice (some ⟨w.heap.size, 0, none⟩) 0 n) (w.alloc (.cells (madeCells #[z] n) e)) := by
  obtain ⟨i, hi, hzz⟩ := Option.map_eq_some_iff.1 hinfo
  simp only [Prod.mk.injEq] at hzz
  obtain ⟨hz, hs, hbb⟩ := hzz
  have hb' : (i.bytes : Int) * (n : Int) ≤ 281474976710656 := by
    have h : ((i.bytes * n : Nat) : Int) ≤ 281474976710656 := by rw [hbb]; omega
    rwa [Int.natCast_mul] at h
  have hr := run_make (P := P) w t e i _ ht hi hz .i64 .i64 0 n (by omega) (by omega) hb' (by omega)
  simp only [Int.toNat_natCast, hs, hz1, Nat.mul_one] at hr
  exact hr
/-- while zzRoot runs: the row (g, c) holds the nodes of the first k kinds. -/
def Grows (w0 w : World) (g c k : Nat) (xs : List Int) : Prop :=
  ∃ vs : List Value, w.ownsRow w0.heap.size 29 1 (.slice (some ⟨g, 0, none⟩) k c) k vs ∧ (∀ (i : Nat) v x, vs[i]? = some v → xs[i]? = some x → NodeIn (· = g) w v x ((i : Int) + 1)) ∧ Below w0.heap.size w0 w
theorem Grows.step {w0 w w1 w2 : World} {g g' c' k : Nat} {xs : List Int} {vs : List Value} {v : Value} {x : Int} (hv : vs.length = k) (hx : xs[k]? = some x)
    (h2 : ∀ (i : Nat) v x, vs[i]? = some v → xs[i]? = some x → NodeIn (· = g) w v x ((i : Int) + 1)) (hb0 : Below w0.heap.size w0 w) (hb1 : Below w.heap.size w w1) (hg0 : w0.heap.size ≤ g) (hn : NodeIn (· = g) w1 v x ((k : Int) + 1))
    (ho : w2.ownsRow w0.heap.size 29 1 (.slice (some ⟨g', 0, none⟩) (k + 1) c') (k + 1) (vs ++ [v])) (hg : w1.grownBy w2 (some g)) (hat : some g = some g' ∨ g' = w1.heap.size) : Grows w0 w2 g' c' (k + 1) xs := by
  have hat' : g' = g ∨ g' = w1.heap.size := by
    rcases hat with h | h
    · injection h with h; exact .inl h.symm
    · exact .inr h
  refine ⟨_, ho, fun i u y hu hy => ?_, (hb0.trans (hb1.mono hb0.size)).trans ⟨hg.os, hg.tape, hg.output, hg.size, fun j hj => hg.block j (by have := hb0.size; have := hb1.size; omega) (by simp; omega)⟩⟩
  by_cases e : i < vs.length
  · rw [List.getElem?_append_left e] at hu
    exact ((h2 i u y hu hy).stay hb1).grown hg hat'
  · have hi : i = k := by
      have := (List.getElem?_eq_some_iff.1 hu).1
      simp at this
      omega
    subst hi
    rw [List.getElem?_append_right (by omega)] at hu
    simp [hv] at hu
    subst hu
    rw [hx] at hy
    injection hy with hy
    subst hy
    exact hn.grown hg hat'
set_option maxHeartbeats 2000000 in
theorem zzRoot_any (kb n kc : Nat) (xs : List Int) (src : ByteArray) (w : World) (h : URow w kb xs) (hn : n = xs.length) (hn1 : n ≤ 64) (hk : ∀ i (h : i < xs.length), xs[i] = 0 ∨ xs[i] = 1 ∨ xs[i] = 2) :
    Calls Try.prog 6 #[.slice (some ⟨kb, 0, none⟩) n kc, .string src] w fun e w' => ∃ rb nb nc, e = .returned (.pointer (some ⟨rb, 0, none⟩)) ∧ n ≤ nc ∧ nc ≤ maxLen ∧ BlkAt w' rb src src.size (some ⟨nb, 0, none⟩) n nc false ∧ NodesAt w' nb xs ∧ Below w.heap.size w w' := by
  have HU : Hid (URow w kb xs) := h
  have HX : Hid (n = xs.length) := hn
  have HK : Hid (∀ i (h : i < xs.length), xs[i] = 0 ∨ xs[i] = 1 ∨ xs[i] = 2) := hk
  clear h hn hk
  have hmk := make_row0 (P := Try.prog) 30 29 .nilIface 16 Try.underlying30 info29 rfl n (by omega) (by omega)
  obtain ⟨i0, hi0, hz0, hz1, hz2⟩ := info_parts info29
  go_enter Try.func6, Try.ntmps6
  go_wp2
  clear hmk
  go_loopw [5, 6] (fun q i wr => ∃ k g c : Nat, k ≤ n ∧ i = .int .i64 k ∧ q = .slice (some ⟨g, 0, none⟩) k c ∧ Grows w wr g c k xs) (fun _ i _ => n - (intOf i).toNat)
  case atStart => exact ⟨0, w.heap.size, n, by omega, rfl, rfl, [], World.ownsRow_made _ _ _ (Nat.le_refl _) (by unfold maxLen; omega) (by rw [size_madeCells]; omega), fun i v x h => by simp at h, below_alloc w _⟩
  case round =>
    obtain ⟨k, g, c, hk, rfl, rfl, vs, hO, hN, hB⟩ := hrel
    have HO : Hid (wr.ownsRow w.heap.size 29 1 (.slice (some ⟨g, 0, none⟩) k c) k vs) := hO
    have HN : Hid (∀ (i : Nat) v x, vs[i]? = some v → xs[i]? = some x → NodeIn (· = g) wr v x ((i : Int) + 1)) := hN
    have HB : Hid (Below w.heap.size w wr) := hB
    have HV : Hid (vs.length = k) := by have := hO.1; show _ = _; omega
    have hg0 : w.heap.size ≤ g := (hO.lt g rfl).1
    have hg1 : g < wr.heap.size := (hO.lt g rfl).2
    clear hO hN hB
    by_cases hlt : k < n
    · have hkx : k < xs.length := by have := HX.out; omega
      have hc := (HU.out.stay HB.out).cell hkx
      have HXK : Hid (xs[k]? = some (xs.getD k 0)) := by show _ = _; simp [List.getD, hkx]
      have hxk := HK.out k hkx
      have hxe : xs[k] = xs.getD k 0 := by simp [List.getD, hkx]
      rw [hxe] at hxk
      clear hxe
      generalize xs.getD k 0 = x at hc HXK hxk
      have hsz0 := HB.out.size
      rcases hxk with rfl | rfl | rfl
      · go_wp2_with fail
        refine (newWord_any _ _ _ _ _).mono ?_
        rintro e w1 ⟨rfl, hw1⟩
        have HB1 : Hid (Below wr.heap.size wr w1) := by rw [hw1]; exact below_alloc _ _
        have HND : Hid (NodeIn (· = g) w1 (.iface 52 (.pointer (some ⟨wr.heap.size, 0, none⟩))) 0 ((k : Int) + 1)) := by subst hw1; exact ⟨wr.heap.size, by omega, .inl ⟨rfl, rfl, by simp⟩⟩
        have HOW : Hid (w1.ownsRow w.heap.size 29 1 (.slice (some ⟨g, 0, none⟩) k c) k vs) := by subst hw1; exact HO.out.alloc _
        have hsz1 : w.heap.size ≤ w1.heap.size := Nat.le_trans HB.out.size HB1.out.size
        clear hw1 HO
        go_wp2_with (at_builtin; refine wpList_append_lies _ rfl _ _ 30 rfl w.heap.size 29 i0 _ 1 16 Try.underlying30 hi0 hz0 hz1 hz2 rfl (by decide) (.slice (some ⟨g, 0, none⟩) k c) k vs rfl (HOW.out.alloc _) ⟨w1.heap.size, 0, none⟩ 1 1 [(.iface 52 (.pointer (some ⟨wr.heap.size, 0, none⟩)))] rfl rfl (World.news_of_block (cs := #[(.iface 52 (.pointer (some ⟨wr.heap.size, 0, none⟩)))]) (t := 29) (fr := (0, 0)) (heap_alloc_new w1 _)) (by simp [Value.oneCell']) (by decide) (by unfold maxLen; omega) (by omega) (by simp; omega) (w1.heap.size + 1) (by simp) ?_; intro g' c' w3 hown hgrow hat hltg)
        have HG : Hid (Grows w w3 g' c' (k + 1) xs) := Grows.step HV.out HXK.out HN.out HB.out (HB1.out.trans ((below_alloc w1 _).mono HB1.out.size)) hg0 (HND.out.stay (below_alloc w1 _)) hown hgrow (by simpa [Value.ownBlock] using hat)
        clear hown hgrow hat hltg HOW HN HND
        go_wp2
        go_roundw
        case rel => exact ⟨k + 1, g', c', by omega, by go_num, rfl, HG.out⟩
        case measure => simp [intOf]; omega
      · go_wp2_with fail
        refine (newPipe_any _ _ _).mono ?_
        rintro e w1 ⟨rfl, hw1⟩
        have HB1 : Hid (Below wr.heap.size wr w1) := by rw [hw1]; exact below_alloc _ _
        have HND : Hid (NodeIn (· = g) w1 (.iface 46 (.pointer (some ⟨wr.heap.size, 0, none⟩))) 1 ((k : Int) + 1)) := by subst hw1; exact ⟨wr.heap.size, by omega, .inr (.inl ⟨rfl, rfl, by simp, _, by simp; rfl⟩)⟩
        have HOW : Hid (w1.ownsRow w.heap.size 29 1 (.slice (some ⟨g, 0, none⟩) k c) k vs) := by subst hw1; exact HO.out.alloc _
        have hsz1 : w.heap.size ≤ w1.heap.size := Nat.le_trans HB.out.size HB1.out.size
        clear hw1 HO
        go_wp2_with (at_builtin; refine wpList_append_lies _ rfl _ _ 30 rfl w.heap.size 29 i0 _ 1 16 Try.underlying30 hi0 hz0 hz1 hz2 rfl (by decide) (.slice (some ⟨g, 0, none⟩) k c) k vs rfl (HOW.out.alloc _) ⟨w1.heap.size, 0, none⟩ 1 1 [(.iface 46 (.pointer (some ⟨wr.heap.size, 0, none⟩)))] rfl rfl (World.news_of_block (cs := #[(.iface 46 (.pointer (some ⟨wr.heap.size, 0, none⟩)))]) (t := 29) (fr := (0, 0)) (heap_alloc_new w1 _)) (by simp [Value.oneCell']) (by decide) (by unfold maxLen; omega) (by omega) (by simp; omega) (w1.heap.size + 1) (by simp) ?_; intro g' c' w3 hown hgrow hat hltg)
        have HG : Hid (Grows w w3 g' c' (k + 1) xs) := Grows.step HV.out HXK.out HN.out HB.out (HB1.out.trans ((below_alloc w1 _).mono HB1.out.size)) hg0 (HND.out.stay (below_alloc w1 _)) hown hgrow (by simpa [Value.ownBlock] using hat)
        clear hown hgrow hat hltg HOW HN HND
        go_wp2
        go_roundw
        case rel => exact ⟨k + 1, g', c', by omega, by go_num, rfl, HG.out⟩
        case measure => simp [intOf]; omega
      · go_wp2_with fail
        refine (newBlock_any _ _ _ _ _ _ _ _ _).mono ?_
        rintro e w1 ⟨rfl, hw1⟩
        have HB1 : Hid (Below wr.heap.size wr w1) := by rw [hw1]; exact below_alloc _ _
        have HND : Hid (NodeIn (· = g) w1 (.iface 25 (.pointer (some ⟨wr.heap.size, 0, none⟩))) 2 ((k : Int) + 1)) := by subst hw1; exact ⟨wr.heap.size, by omega, .inr (.inr ⟨rfl, rfl, by simp⟩)⟩
        have HOW : Hid (w1.ownsRow w.heap.size 29 1 (.slice (some ⟨g, 0, none⟩) k c) k vs) := by subst hw1; exact HO.out.alloc _
        have hsz1 : w.heap.size ≤ w1.heap.size := Nat.le_trans HB.out.size HB1.out.size
        clear hw1 HO
        go_wp2_with (at_builtin; refine wpList_append_lies _ rfl _ _ 30 rfl w.heap.size 29 i0 _ 1 16 Try.underlying30 hi0 hz0 hz1 hz2 rfl (by decide) (.slice (some ⟨g, 0, none⟩) k c) k vs rfl (HOW.out.alloc _) ⟨w1.heap.size, 0, none⟩ 1 1 [(.iface 25 (.pointer (some ⟨wr.heap.size, 0, none⟩)))] rfl rfl (World.news_of_block (cs := #[(.iface 25 (.pointer (some ⟨wr.heap.size, 0, none⟩)))]) (t := 29) (fr := (0, 0)) (heap_alloc_new w1 _)) (by simp [Value.oneCell']) (by decide) (by unfold maxLen; omega) (by omega) (by simp; omega) (w1.heap.size + 1) (by simp) ?_; intro g' c' w3 hown hgrow hat hltg)
        have HG : Hid (Grows w w3 g' c' (k + 1) xs) := Grows.step HV.out HXK.out HN.out HB.out (HB1.out.trans ((below_alloc w1 _).mono HB1.out.size)) hg0 (HND.out.stay (below_alloc w1 _)) hown hgrow (by simpa [Value.ownBlock] using hat)
        clear hown hgrow hat hltg HOW HN HND
        go_wp2
        go_roundw
        case rel => exact ⟨k + 1, g', c', by omega, by go_num, rfl, HG.out⟩
        case measure => simp [intOf]; omega
    · have hkn : k = n := by omega
      subst hkn
      go_wp2_with fail
      refine (newBlock_any _ _ _ _ _ _ _ _ _).mono ?_
      rintro e w1 ⟨rfl, hw1⟩
      have HB1 : Hid (Below wr.heap.size wr w1) := by rw [hw1]; exact below_alloc _ _
      have HBK : Hid (BlkAt w1 wr.heap.size src src.size (some ⟨g, 0, none⟩) k c false) := by
        subst hw1
        exact ⟨by simp, by simp, by simp, by simp, by simp, by simp, by simp⟩
      clear hw1
      go_wp2
      go_ret
      have hcap : k ≤ c ∧ c ≤ maxLen := by
        rcases HO.out.2 with ⟨h', _⟩ | ⟨g', cap', cur, h', _, _, h1, h2, _⟩
        · cases h'
        · injection h' with _ _ h3
          subst h3
          exact ⟨h1, h2⟩
      refine ⟨wr.heap.size, g, c, rfl, hcap.1, hcap.2, HBK.out, fun i hi => ?_, HB.out.trans (HB1.out.mono HB.out.size)⟩
      have hi' : i < vs.length := by rw [HV.out, HX.out]; exact hi
      refine ⟨vs[i], cell_stay HB1.out ?_, ((HN.out i _ _ (List.getElem?_eq_getElem hi') (List.getElem?_eq_getElem hi)).stay HB1.out).at⟩
      rw [HO.out.cellAt i (by have := HV.out; omega)]
      exact List.getElem?_eq_getElem hi'
end Go.Proofs.Qxb6002415a
