/-
  A MAP WHOSE KEYS ARE PAIRS OF int64: what a look-up, a store, a length and a range do, said of an association list. Over whatever program; no walk.
-/
import Derived.Test.Qxb6000864aBase
import Derived.Maps.Own
import Derived.Maps.OwnOps
import Derived.Maps.OwnSet
import Derived.Maps.RangeRun
import Derived.DeepKeys4
namespace Go.Proofs.Qxb6000864a
open Go.RowKit
open Go.ChangeMaps Go.MapKept
open Go.Maps (Keyed)

def kv (p : Int × Int) : Value := .agg #[.int .i64 p.1, .int .i64 p.2]
def okP (p : Int × Int) : Prop := (Lit.int .i64 p.1).wf = true ∧ (Lit.int .i64 p.2).wf = true
theorem kv_inj {p q : Int × Int} (h : kv p = kv q) : p = q := by
  cases p; cases q; simpa [kv] using h

def getm : List ((Int × Int) × Value) → Int × Int → Value → Value
  | [], _, z => z
  | q :: r, p, z => if q.1 = p then q.2 else getm r p z
def putm : List ((Int × Int) × Value) → Int × Int → Value → List ((Int × Int) × Value)
  | [], p, v => [(p, v)]
  | q :: r, p, v => if q.1 = p then (p, v) :: r else q :: putm r p v

theorem getm_not : ∀ {m : List ((Int × Int) × Value)} {p : Int × Int} {z : Value}, (∀ q ∈ m, q.1 ≠ p) → getm m p z = z
  | [], _, _, _ => rfl
  | q :: r, p, z, h => by
    unfold getm
    rw [if_neg (h q (by simp)), getm_not (fun x hx => h x (by simp [hx]))]
theorem getm_at : ∀ {m : List ((Int × Int) × Value)} {p : Int × Int} {z v : Value} {j : Nat}, (m.map (·.1)).Nodup → m[j]? = some (p, v) → getm m p z = v
  | q :: r, p, z, v, 0, _, h => by
    simp at h; subst h; simp [getm]
  | q :: r, p, z, v, j + 1, hn, h => by
    simp only [List.getElem?_cons_succ] at h
    simp only [List.map_cons, List.nodup_cons] at hn
    unfold getm
    rw [if_neg (fun e => hn.1 (by rw [e]; exact List.mem_map.2 ⟨(p, v), List.mem_of_getElem? h, rfl⟩)), getm_at hn.2 h]
theorem getm_put (p q : Int × Int) (v z : Value) : ∀ m : List ((Int × Int) × Value), getm (putm m p v) q z = if p = q then v else getm m q z
  | [] => by simp [putm, getm]
  | x :: r => by
    unfold putm
    by_cases hx : x.1 = p
    · rw [if_pos hx]
      by_cases hp : p = q
      · simp [getm, hp]
      · simp [getm, hp, hx]
    · rw [if_neg hx]
      unfold getm
      by_cases hq : x.1 = q
      · rw [if_pos hq, if_pos hq, if_neg (fun e => hx (by rw [hq, e]))]
      · rw [if_neg hq, if_neg hq, getm_put p q v z r]
theorem putm_not : ∀ {m : List ((Int × Int) × Value)} {p : Int × Int} {v : Value}, (∀ q ∈ m, q.1 ≠ p) → putm m p v = m ++ [(p, v)]
  | [], _, _, _ => rfl
  | q :: r, p, z, h => by
    unfold putm
    rw [if_neg (h q (by simp)), putm_not (fun x hx => h x (by simp [hx]))]
    rfl
theorem putm_at : ∀ {m : List ((Int × Int) × Value)} {p : Int × Int} {v u : Value} {j : Nat}, (m.map (·.1)).Nodup → m[j]? = some (p, u) → putm m p v = m.set j (p, v)
  | q :: r, p, v, u, 0, _, h => by
    simp at h; subst h; simp [putm]
  | q :: r, p, v, u, j + 1, hn, h => by
    simp only [List.getElem?_cons_succ] at h
    simp only [List.map_cons, List.nodup_cons] at hn
    unfold putm
    rw [if_neg (fun e => hn.1 (by rw [e]; exact List.mem_map.2 ⟨(p, u), List.mem_of_getElem? h, rfl⟩)), putm_at hn.2 h]
    rfl
theorem putm_mem {p q : Int × Int} {v u : Value} : ∀ {m : List ((Int × Int) × Value)}, (q, u) ∈ putm m p v → (q, u) ∈ m ∨ q = p
  | [], h => by simp [putm] at h; exact .inr h.1
  | x :: r, h => by
    unfold putm at h
    split at h
    · simp at h
      rcases h with h | h
      · exact .inr h.1
      · exact .inl (by simp [h])
    · simp at h
      rcases h with h | h
      · exact .inl (by simp [h])
      · rcases putm_mem h with h | h
        · exact .inl (by simp [h])
        · exact .inr h
theorem putm_keys {p : Int × Int} {v : Value} (m : List ((Int × Int) × Value)) : (putm m p v).map (·.1) = if p ∈ m.map (·.1) then m.map (·.1) else m.map (·.1) ++ [p] := by
  induction m with
  | nil => simp [putm]
  | cons x r ih =>
    unfold putm
    by_cases hx : x.1 = p
    · simp [hx]
    · rw [if_neg hx]
      simp only [List.map_cons, ih, List.mem_cons]
      by_cases hm : p ∈ r.map (·.1)
      · simp [hm]
      · rw [if_neg hm, if_neg (by intro h; rcases h with h | h; exact hx h.symm; exact hm h)]
        rfl
theorem putm_nodup {p : Int × Int} {v : Value} {m : List ((Int × Int) × Value)} (h : (m.map (·.1)).Nodup) : ((putm m p v).map (·.1)).Nodup := by
  rw [putm_keys]
  split
  · exact h
  · rename_i hm
    rw [List.nodup_append]
    exact ⟨h, by simp, fun a ha b hb e => by simp at hb; subst hb; subst e; exact hm ha⟩

/-- Block b of w is a map whose entries, in the order in which they were laid, are m. -/
def MapIs (w : World) (b : Nat) (m : List ((Int × Int) × Value)) : Prop :=
  ∃ es clock, w.heap[b]? = some (.map es clock) ∧ es.toList.map (fun e => (e.key, e.val)) = m.map (fun p => (kv p.1, p.2)) ∧ (m.map (·.1)).Nodup ∧ (∀ p ∈ m, okP p.1) ∧
    (∀ x ∈ es.toList, x.born < clock) ∧ (es.toList.map (·.born)).Nodup

theorem MapIs.made (w : World) : MapIs (w.alloc (.map #[] 0)) w.heap.size [] :=
  ⟨#[], 0, (MapKept.heap_alloc w _).1, rfl, by simp, by simp, by simp, by simp⟩
theorem MapIs.lt {w : World} {b : Nat} {m : List ((Int × Int) × Value)} (h : MapIs w b m) : b < w.heap.size := by
  obtain ⟨es, clock, hb, _⟩ := h
  exact (Array.getElem?_eq_some_iff.1 hb).1
theorem MapIs.of_block {w w' : World} {b : Nat} {m : List ((Int × Int) × Value)} (h : MapIs w b m) (hb : w'.heap[b]? = w.heap[b]?) : MapIs w' b m := by
  obtain ⟨es, clock, h0, r⟩ := h
  exact ⟨es, clock, hb.trans h0, r⟩
theorem MapIs.below {w w' : World} {B b : Nat} {m : List ((Int × Int) × Value)} (h : MapIs w b m) (hw : Below B w w') (hb : b < B) : MapIs w' b m := h.of_block (hw.block b hb)
theorem MapIs.alloc {w : World} {b : Nat} {m : List ((Int × Int) × Value)} (h : MapIs w b m) (o : Obj) : MapIs (w.alloc o) b m := h.of_block (Below.heap_alloc w o b h.lt)
theorem MapIs.kept {w w' : World} {row : Option Nat} {b : Nat} {m : List ((Int × Int) × Value)} (h : MapIs w b m) (hg : w.grownBy w' row) (hne : some b ≠ row) : MapIs w' b m := h.of_block (hg.block b h.lt hne)

section
variable {P : Program} {k e t : TypeId} {w : World} {b : Nat} {m : List ((Int × Int) × Value)}

theorem entry_key {es : Array MapEntry} (hm : es.toList.map (fun e => (e.key, e.val)) = m.map (fun p => (kv p.1, p.2))) {j : Nat} {x : MapEntry} (hx : es.toList[j]? = some x) : ∃ p, m[j]? = some (p, x.val) ∧ x.key = kv p := by
  have h := congrArg (fun l => l[j]?) hm
  simp only [List.getElem?_map, hx, Option.map_some] at h
  cases hj : m[j]? with
  | none => rw [hj] at h; simp at h
  | some q =>
    rw [hj] at h
    simp only [Option.map_some, Option.some.injEq, Prod.mk.injEq] at h
    exact ⟨q.1, by rw [h.2], h.1⟩
theorem key_entry {es : Array MapEntry} (hm : es.toList.map (fun e => (e.key, e.val)) = m.map (fun p => (kv p.1, p.2))) {q : (Int × Int) × Value} (hq : q ∈ m) : ∃ x ∈ es.toList, x.key = kv q.1 := by
  have : (kv q.1, q.2) ∈ es.toList.map (fun e => (e.key, e.val)) := by rw [hm]; exact List.mem_map.2 ⟨q, hq, rfl⟩
  obtain ⟨x, hx, hxe⟩ := List.mem_map.1 this
  simp at hxe
  exact ⟨x, hx, hxe.1⟩

theorem MapIs.look (K : Keyed P k) (hkeys : ∀ p, okP p → ∃ l, keyOf P k (kv p) = some l) (ht : P.underlying t = some (.map k e)) {z : Value} (hz : (zeroValue e).run P w = .ok z w) (h : MapIs w b m) {p : Int × Int} (hp : okP p) :
    (Instr.lookup t (.map (some b)) (kv p) false).run P w = .ok (getm m p z) w := by
  obtain ⟨es, clock, hb, hm, hn, hok, hst, hbn⟩ := h
  obtain ⟨l, hl⟩ := hkeys p hp
  have hes : ∀ x ∈ es.toList, ∃ l, keyOf P k x.key = some l := fun x hx => by
    obtain ⟨j, hj⟩ := List.mem_iff_getElem?.1 hx
    obtain ⟨q, hq, hxq⟩ := entry_key hm hj
    rw [hxq]
    exact hkeys q (hok _ (List.mem_of_getElem? hq))
  rcases K.find w hl es.toList hes with ⟨h1, h2⟩ | ⟨j, x, h1, h2, h3⟩
  · rw [getm_not (fun q hq e => by obtain ⟨x, hx, hxk⟩ := key_entry hm hq; exact h2 x hx (by rw [hxk, e]))]
    simp [Instr.lookup, run_underlying ht, MapKept.run_getObj_map hb, K.check w _ hl, h1, hz, Result.andThen]
  · obtain ⟨q, hq, hxq⟩ := entry_key hm h2
    have : q = p := kv_inj (by rw [← hxq, h3])
    subst this
    rw [getm_at hn hq]
    simp [Instr.lookup, run_underlying ht, MapKept.run_getObj_map hb, K.check w _ hl, h1, Result.andThen]

theorem MapIs.put (K : Keyed P k) (hkeys : ∀ p, okP p → ∃ l, keyOf P k (kv p) = some l) (ht : P.underlying t = some (.map k e)) (h : MapIs w b m) {p : Int × Int} (hp : okP p) (v : Value) :
    ∃ w', (Instr.mapUpdate t (.map (some b)) (kv p) v).run P w = .ok () w' ∧ MapIs w' b (putm m p v) ∧ w.grownBy w' (some b) := by
  obtain ⟨es, clock, hb, hm, hn, hok, hst, hbn⟩ := h
  obtain ⟨l, hl⟩ := hkeys p hp
  have hok' : ∀ q ∈ putm m p v, okP q.1 := fun q hq => by
    obtain ⟨q1, q2⟩ := q
    rcases putm_mem hq with h | h
    · exact hok _ h
    · simp only [h]; exact hp
  have hes : ∀ x ∈ es.toList, ∃ l, keyOf P k x.key = some l := fun x hx => by
    obtain ⟨j, hj⟩ := List.mem_iff_getElem?.1 hx
    obtain ⟨q, hq, hxq⟩ := entry_key hm hj
    rw [hxq]
    exact hkeys q (hok _ (List.mem_of_getElem? hq))
  rcases K.find w hl es.toList hes with ⟨h1, h2⟩ | ⟨j, x, h1, h2, h3⟩
  · refine ⟨setBlock w b (.map (es.push { key := kv p, val := v, born := clock }) (clock + 1)), ?_, ⟨_, _, heap_setBlock_same hb _, ?_, putm_nodup hn, hok', ?_, ?_⟩, ⟨rfl, rfl, rfl, by simp [setBlock], fun i _ hi => heap_setBlock_other hb _ (fun e => hi (by rw [e]))⟩⟩
    · simp [Instr.mapUpdate, run_underlying ht, MapKept.run_getObj_map hb, K.check w _ hl, h1, MapKept.run_setObj_map _ hb, Result.andThen, setBlock]
    · rw [putm_not (fun q hq e => by obtain ⟨x, hx, hxk⟩ := key_entry hm hq; exact h2 x hx (by rw [hxk, e]))]
      simp [hm]
    · intro x hx
      simp at hx
      rcases hx with hx | hx
      · have := hst x (by simpa using hx); omega
      · subst hx; simp
    · rw [Array.toList_push, List.map_append, List.nodup_append]
      refine ⟨hbn, by simp, fun a ha c hc => ?_⟩
      simp at hc
      subst hc
      obtain ⟨x, hx, rfl⟩ := List.mem_map.1 ha
      have := hst x hx
      omega
  · obtain ⟨q, hq, hxq⟩ := entry_key hm h2
    have : q = p := kv_inj (by rw [← hxq, h3])
    subst this
    have hje : es[j]? = some x := by simpa using h2
    have hmod : (es.modify j fun e => { e with key := kv q, val := v }).toList = es.toList.set j { x with key := kv q, val := v } := by
      apply List.ext_getElem?
      intro i
      rw [Array.getElem?_toList, Array.getElem?_modify, List.getElem?_set]
      by_cases hij : j = i
      · subst hij
        have hjl : j < es.toList.length := (List.getElem?_eq_some_iff.1 h2).1
        rw [if_pos rfl, if_pos rfl, if_pos hjl, hje]; rfl
      · rw [if_neg hij, if_neg hij, Array.getElem?_toList]
    have hborn : (es.toList.set j { x with key := kv q, val := v }).map (·.born) = es.toList.map (·.born) := by
      rw [List.map_set]
      apply List.ext_getElem?
      intro i
      rw [List.getElem?_set]
      by_cases hij : j = i
      · subst hij
        have hjl : j < es.toList.length := (List.getElem?_eq_some_iff.1 h2).1
        rw [if_pos rfl, if_pos (by simpa using hjl), List.getElem?_map, h2]; rfl
      · rw [if_neg hij]
    refine ⟨setBlock w b (.map (es.modify j fun e => { e with key := kv q, val := v }) clock), ?_, ⟨_, _, heap_setBlock_same hb _, ?_, putm_nodup hn, hok', ?_, ?_⟩, ⟨rfl, rfl, rfl, by simp [setBlock], fun i _ hi => heap_setBlock_other hb _ (fun e => hi (by rw [e]))⟩⟩
    · simp [Instr.mapUpdate, run_underlying ht, MapKept.run_getObj_map hb, K.check w _ hl, h1, hje, h3, K.stays w hl, MapKept.run_setObj_map _ hb, Result.andThen, setBlock]
    · rw [putm_at hn hq, hmod, List.map_set, List.map_set, hm]
    · intro y hy
      rw [hmod] at hy
      rcases List.mem_or_eq_of_mem_set hy with hy | hy
      · exact hst y hy
      · subst hy; exact hst x (List.mem_of_getElem? h2)
    · rw [hmod, hborn]; exact hbn

theorem MapIs.len (ht : P.underlying t = some (.map k e)) (h : MapIs w b m) (ty : TypeId) : (Builtin.len_ #[t] ty #[.map (some b)]).run P w = .ok (.int .i64 m.length) w := by
  obtain ⟨es, clock, hb, hm, hn, hok, hst, hbn⟩ := h
  have hl : es.size = m.length := by have := congrArg List.length hm; simpa using this
  simp [Builtin.len_, run_underlying ht, MapKept.run_getObj_map hb, Result.andThen, goInt, hl]

/-! ### ranging -/
/-- Block r of w is an iterator over the map in block b, which is m; the keys that are still to come are 'left'. -/
def IterIs (w : World) (r b : Nat) (m : List ((Int × Int) × Value)) (left : List (Int × Int)) : Prop :=
  ∃ es clock since c0 seen, w.heap[r]? = some (.mapIter (some b) since seen c0) ∧ w.heap[b]? = some (.map es clock) ∧ es.toList.map (fun e => (e.key, e.val)) = m.map (fun p => (kv p.1, p.2)) ∧ (m.map (·.1)).Nodup ∧
    (∀ x ∈ es.toList, x.born < since) ∧ (since ≤ c0 ∧ since ≤ clock) ∧ (es.toList.map (·.born)).Nodup ∧ (leftOf es seen).toList.map (·.key) = left.map kv ∧ left.Nodup

theorem IterIs.rlt {r : Nat} {left : List (Int × Int)} (h : IterIs w r b m left) : r < w.heap.size := by
  obtain ⟨_, _, _, _, _, hr, _⟩ := h
  exact (Array.getElem?_eq_some_iff.1 hr).1
theorem IterIs.blt {r : Nat} {left : List (Int × Int)} (h : IterIs w r b m left) : b < w.heap.size := by
  obtain ⟨_, _, _, _, _, _, hb, _⟩ := h
  exact (Array.getElem?_eq_some_iff.1 hb).1
theorem IterIs.ne {r : Nat} {left : List (Int × Int)} (h : IterIs w r b m left) : r ≠ b := by
  obtain ⟨_, _, _, _, _, hr, hb, _⟩ := h
  intro e
  rw [e, hb] at hr
  cases hr
theorem IterIs.of_blocks {w' : World} {r : Nat} {left : List (Int × Int)} (h : IterIs w r b m left) (h1 : w'.heap[r]? = w.heap[r]?) (h2 : w'.heap[b]? = w.heap[b]?) : IterIs w' r b m left := by
  obtain ⟨es, clock, since, c0, seen, hr, hb, q⟩ := h
  exact ⟨es, clock, since, c0, seen, h1.trans hr, h2.trans hb, q⟩
theorem IterIs.alloc {r : Nat} {left : List (Int × Int)} (h : IterIs w r b m left) (o : Obj) : IterIs (w.alloc o) r b m left :=
  h.of_blocks (Below.heap_alloc w o r h.rlt) (Below.heap_alloc w o b h.blt)
theorem IterIs.below {w' : World} {B r : Nat} {left : List (Int × Int)} (h : IterIs w r b m left) (hb : Below B w w') (h1 : r < B) (h2 : b < B) : IterIs w' r b m left :=
  h.of_blocks (hb.block r h1) (hb.block b h2)

theorem MapIs.range (ht : P.underlying t = some (.map k e)) (h : MapIs w b m) :
    ∃ o, (Instr.range t (.map (some b))).run P w = .ok (.pointer (some ⟨w.heap.size, 0, none⟩)) (w.alloc o) ∧ IterIs (w.alloc o) w.heap.size b m (m.map (·.1)) := by
  have hlt := h.lt
  obtain ⟨es, clock, hb, hm, hn, hok, hst, hbn⟩ := h
  refine ⟨.mapIter (some b) clock #[] clock, ?_, es, clock, clock, clock, #[], (MapKept.heap_alloc w _).1, (Below.heap_alloc w _ b hlt).trans hb, hm, hn, hst, ⟨Nat.le_refl _, Nat.le_refl _⟩, hbn, ?_, hn⟩
  · simp [Instr.range, run_underlying ht, MapKept.run_getObj_map hb, Result.andThen]
  · unfold leftOf
    have e1 : (es.filter fun e => !(#[] : Array Nat).contains e.born) = es := by simp
    rw [e1]
    have := congrArg (List.map Prod.fst) hm
    simpa [Function.comp_def] using this

theorem filter_left {p : Int × Int} {bo : Nat} : ∀ (L : List MapEntry) (left : List (Int × Int)), L.map (·.key) = left.map kv → (∀ y ∈ L, y.born = bo ↔ y.key = kv p) →
    (L.filter (fun y => decide (y.born ≠ bo))).map (·.key) = (left.filter (fun q => decide (q ≠ p))).map kv
  | [], [], _, _ => rfl
  | [], _ :: _, h, _ => by simp at h
  | _ :: _, [], h, _ => by simp at h
  | y :: L, q :: left, h, hb => by
    simp only [List.map_cons, List.cons.injEq] at h
    have ih := filter_left L left h.2 (fun z hz => hb z (by simp [hz]))
    have hy := hb y (by simp)
    by_cases hq : q = p
    · have h1 : y.born = bo := hy.2 (by rw [h.1, hq])
      rw [List.filter_cons_of_neg (by simp [h1]), List.filter_cons_of_neg (by simp [hq]), ih]
    · have h1 : ¬ y.born = bo := fun e => hq (kv_inj (by rw [← h.1, hy.1 e]))
      rw [List.filter_cons_of_pos (by simp [h1]), List.filter_cons_of_pos (by simp [hq]), List.map_cons, List.map_cons, ih, h.1]
theorem eq_of_born {l : List MapEntry} (hn : (l.map (·.born)).Nodup) {x y : MapEntry} (hx : x ∈ l) (hy : y ∈ l) (h : x.born = y.born) : x = y := by
  obtain ⟨i, hi⟩ := List.mem_iff_getElem?.1 hx
  obtain ⟨j, hj⟩ := List.mem_iff_getElem?.1 hy
  have hij : i = j := by
    refine (List.getElem?_inj ?_ hn).1 ?_
    · simpa using (List.getElem?_eq_some_iff.1 hi).1
    · rw [List.getElem?_map, List.getElem?_map, hi, hj]; simp [h]
  rw [hij, hj] at hi
  cases hi
  rfl

theorem IterIs.next {r : Nat} {left : List (Int × Int)} (h : IterIs w r b m left) (ty : TypeId) :
    (left = [] ∧ (Instr.next (.pointer (some ⟨r, 0, none⟩)) false ty).run P w = .ok (.tuple #[.bool false]) w) ∨
    ∃ p ∈ left, ∃ v w', (Instr.next (.pointer (some ⟨r, 0, none⟩)) false ty).run P w = .ok (.tuple #[.bool true, kv p, v]) w' ∧ IterIs w' r b m (left.filter (fun q => decide (q ≠ p))) ∧ w.grownBy w' (some r) ∧
      ∀ w'' : World, w''.heap[r]? = w'.heap[r]? → w''.heap[b]? = w'.heap[b]? → (Instr.entry (.pointer (some ⟨r, 0, none⟩))).run P w'' = .ok (.tuple #[kv p, v]) w'' := by
  have hne := h.ne
  obtain ⟨es, clock, since, c0, seen, hr, hb, hm, hn, hst, ⟨hsc, hsk⟩, hbn, hleft, hln⟩ := h
  rcases run_next_at (P := P) w ty r b since c0 seen es clock hr hb hst hsc with ⟨h0, hrun⟩ | ⟨x, hx, w1, hw1, hrun⟩
  · left
    refine ⟨?_, hrun⟩
    have : (leftOf es seen).toList = [] := by
      have : (leftOf es seen).toList.length = 0 := by simpa using h0
      exact List.eq_nil_of_length_eq_zero this
    rw [this] at hleft
    simpa using hleft.symm
  · right
    have hxk : x.key ∈ left.map kv := by rw [← hleft]; exact List.mem_map.2 ⟨x, hx, rfl⟩
    obtain ⟨p, hp, hpx⟩ := List.mem_map.1 hxk
    have hxe : x ∈ es.toList := by
      unfold leftOf at hx
      simp at hx
      simpa using hx.1
    have hw1r : w1.heap[r]? = some (.mapIter (some b) since seen c0) := by rcases hw1 with rfl | rfl <;> exact hr
    have hw1b : ∀ i : Nat, w1.heap[i]? = w.heap[i]? := by rcases hw1 with rfl | rfl <;> intro i <;> rfl
    have hset : (setBlock w1 r (.mapIter (some b) since (seen.push x.born) clock)).heap[r]? = some (.mapIter (some b) since (seen.push x.born) clock) := by
      have hlt : r < w1.heap.size := (Array.getElem?_eq_some_iff.1 hw1r).1
      simp [setBlock, hlt]
    have hoth : ∀ i : Nat, i ≠ r → (setBlock w1 r (.mapIter (some b) since (seen.push x.born) clock)).heap[i]? = w.heap[i]? := fun i hi => by
      rw [← hw1b i]
      simp [setBlock, Ne.symm hi]
    refine ⟨p, hp, x.val, _, by rw [hpx]; exact hrun, ⟨es, clock, since, clock, seen.push x.born, hset, ?_, hm, hn, hst, ⟨hsk, hsk⟩, hbn, ?_, hln.filter _⟩, ⟨?_, ?_, ?_, ?_, ?_⟩, ?_⟩
    · rw [hoth b (Ne.symm hne)]; exact hb
    · have e1 : (leftOf es (seen.push x.born)).toList = (leftOf es seen).toList.filter (fun y => decide (y.born ≠ x.born)) := by
        unfold leftOf
        rw [Array.toList_filter, Array.toList_filter, List.filter_filter]
        apply List.filter_congr
        intro y _
        by_cases h1 : y.born = x.born <;> simp [h1]
      rw [e1]
      refine filter_left _ _ hleft (fun y hy => ?_)
      have hye : y ∈ es.toList := by
        unfold leftOf at hy
        simp at hy
        simpa using hy.1
      constructor
      · intro hbo
        rw [eq_of_born hbn hye hxe hbo, hpx]
      · intro hke
        obtain ⟨j, hj⟩ := List.mem_iff_getElem?.1 hye
        obtain ⟨i, hi⟩ := List.mem_iff_getElem?.1 hxe
        obtain ⟨q, hq, hyq⟩ := entry_key hm hj
        obtain ⟨q', hq', hxq'⟩ := entry_key hm hi
        have hqq : q = q' := kv_inj (by rw [← hyq, ← hxq', hke, hpx])
        have hji : j = i := by
          refine (List.getElem?_inj ?_ hn).1 ?_
          · simpa using (List.getElem?_eq_some_iff.1 hq).1
          · rw [List.getElem?_map, List.getElem?_map, hq, hq', hqq]; rfl
        rw [hji, hi] at hj
        cases hj
        rfl
    · rcases hw1 with rfl | rfl <;> rfl
    · rcases hw1 with rfl | rfl <;> rfl
    · rcases hw1 with rfl | rfl <;> rfl
    · rcases hw1 with rfl | rfl <;> simp [setBlock]
    · intro i _ hi; exact hoth i (fun e => hi (by rw [e]))
    · intro w'' hr'' hb''
      rw [hpx]
      exact run_entry_at w'' r b since seen es clock x (hr''.trans hset) (by rw [hb'', hoth b (Ne.symm hne)]; exact hb) hxe hbn
end

/-! ### at the operation, for the walk -/
section
variable {P : Program} (w : World) {ops : Array Oper} {rest : List Oper} {o : Oper} {a : Act} {Q : Exit → Act → World → Prop}

theorem wpList_put (hg : o.guard = none) (mo x v : Operand) (t : TypeId) (hop : o.op = Op.mapUpdate t mo x v) (k e : TypeId) (K : Keyed P k) (hkeys : ∀ p, okP p → ∃ l, keyOf P k (kv p) = some l) (ht : P.underlying t = some (.map k e))
    (b : Nat) (m : List ((Int × Int) × Value)) (hm : a.eval mo = .map (some b)) (h : MapIs w b m) (p : Int × Int) (hp : okP p) (val : Value) (hx : a.eval x = kv p) (hv : a.eval v = val)
    (hK : ∀ w', MapIs w' b (putm m p val) → w.grownBy w' (some b) → wpList P ops Q rest (a.put o.dst undef) w') : wpList P ops Q (o :: rest) a w := by
  refine wpList_plain hg fun K' hK' => ?_
  obtain ⟨w', hrun, r1, r2⟩ := h.put K hkeys ht hp val
  unfold Oper.wp
  simp [execOp, hop, hm, hx, hv, hrun, Result.andThen]
  exact hK' _ _ (hK w' r1 r2)

theorem wpList_look (hg : o.guard = none) (mo x : Operand) (t : TypeId) (hop : o.op = Op.lookup t mo x false) (k e : TypeId) (K : Keyed P k) (hkeys : ∀ p, okP p → ∃ l, keyOf P k (kv p) = some l) (ht : P.underlying t = some (.map k e))
    (z : Value) (hz : ∀ w, (zeroValue e).run P w = .ok z w) (b : Nat) (m : List ((Int × Int) × Value)) (hm : a.eval mo = .map (some b)) (h : MapIs w b m) (p : Int × Int) (hp : okP p) (hx : a.eval x = kv p) (val : Value) (hval : getm m p z = val)
    (hK : wpList P ops Q rest (a.put o.dst val) w) : wpList P ops Q (o :: rest) a w := by
  refine wpList_plain hg fun K' hK' => ?_
  have hrun := h.look K hkeys ht (hz w) hp
  rw [hval] at hrun
  unfold Oper.wp
  simp [execOp, hop, hm, hx, hrun, Result.andThen]
  exact hK' _ _ hK

theorem wpList_mlen (hg : o.guard = none) (mo : Operand) (t : TypeId) (hop : o.op = Op.call { callee := Callee.builtin Builtin.len, args := #[mo], argTypes := #[t] }) (k e : TypeId) (ht : P.underlying t = some (.map k e))
    (b : Nat) (m : List ((Int × Int) × Value)) (hm : a.eval mo = .map (some b)) (h : MapIs w b m) (hK : wpList P ops Q rest (a.put o.dst (.int .i64 m.length)) w) : wpList P ops Q (o :: rest) a w := by
  refine wpList_plain hg fun K' hK' => ?_
  have hrun := h.len ht o.type
  unfold Oper.wp
  simp [execOp, hop, resolve, invoke, builtin, hm, hrun, Result.andThen]
  exact hK' _ _ hK
end
section
variable {P : Program} (w : World) {ops : Array Oper} {rest : List Oper} {o : Oper} {a : Act} {Q : Exit → Act → World → Prop}
theorem wpList_mrange (hg : o.guard = none) (mo : Operand) (t : TypeId) (hop : o.op = Op.range t mo) (k e : TypeId) (ht : P.underlying t = some (.map k e)) (b : Nat) (m : List ((Int × Int) × Value)) (hm : a.eval mo = .map (some b)) (h : MapIs w b m)
    (hK : ∀ ob, IterIs (w.alloc ob) w.heap.size b m (m.map (·.1)) → wpList P ops Q rest (a.put o.dst (.pointer (some ⟨w.heap.size, 0, none⟩))) (w.alloc ob)) : wpList P ops Q (o :: rest) a w := by
  refine wpList_plain hg fun K' hK' => ?_
  obtain ⟨ob, hrun, r1⟩ := h.range (P := P) ht
  unfold Oper.wp
  simp [execOp, hop, hm, hrun, Result.andThen]
  exact hK' _ _ (hK ob r1)

theorem wpList_mnext (hg : o.guard = none) (it : Operand) (hop : o.op = Op.next it false) (r b : Nat) (m : List ((Int × Int) × Value)) (left : List (Int × Int)) (hit : a.eval it = .pointer (some ⟨r, 0, none⟩)) (h : IterIs w r b m left)
    (hDone : left = [] → wpList P ops Q rest (a.put o.dst (.tuple #[.bool false])) w)
    (hMore : ∀ (x y : Int), (x, y) ∈ left → ∀ v w', IterIs w' r b m (left.filter (fun q => !decide (q = (x, y)))) → w.grownBy w' (some r) → (Instr.entry (.pointer (some ⟨r, 0, none⟩))).run P w' = .ok (.tuple #[.agg #[.int .i64 x, .int .i64 y], v]) w' →
      wpList P ops Q rest (a.put o.dst (.tuple #[.bool true, .agg #[.int .i64 x, .int .i64 y], v])) w') : wpList P ops Q (o :: rest) a w := by
  refine wpList_plain hg fun K' hK' => ?_
  unfold Oper.wp
  rcases h.next (P := P) o.type with ⟨h0, hrun⟩ | ⟨p, hp, v, w', hrun, h1, h2, h3⟩
  · simp [execOp, hop, hit, hrun, Result.andThen]
    exact hK' _ _ (hDone h0)
  · simp [execOp, hop, hit, hrun, Result.andThen]
    obtain ⟨x, y⟩ := p
    exact hK' _ _ (hMore x y hp v w' (by simpa using h1) h2 (h3 w' rfl rfl))
end

/-! ### the two key types of this program -/
theorem laidOut : laidOutB Try.prog = true := by kernel_rfl
theorem row59 : (59 : TypeId) < Try.prog.types.size := of_decide_eq_true (by kernel_rfl)
theorem row61 : (61 : TypeId) < Try.prog.types.size := of_decide_eq_true (by kernel_rfl)
theorem wide59 : (match Try.prog.underlying 59 with | some (.array _ _) | some (.struct _) => true | _ => false) = true := by kernel_rfl
theorem wide61 : (match Try.prog.underlying 61 with | some (.array _ _) | some (.struct _) => true | _ => false) = true := by kernel_rfl
theorem law59 : Keyed Try.prog 59 := Keyed.of_law (deep_law_laid laidOut (m := 2) (by omega) row59 (by kernel_rfl) wide59)
theorem law61 : Keyed Try.prog 61 := Keyed.of_law (deep_law_laid laidOut (m := 2) (by omega) row61 (by kernel_rfl) wide61)
theorem zero59 (w : World) : (zeroValue 59).run Try.prog w = .ok (.agg #[.int .i64 0, .int .i64 0]) w := by kernel_rfl
theorem zero4 (w : World) : (zeroValue 4).run Try.prog w = .ok (.bool false) w := by kernel_rfl
theorem cells59 : Try.prog.cellsOf 59 = 2 := by kernel_rfl
theorem cells61 : Try.prog.cellsOf 61 = 2 := by kernel_rfl
theorem cells2 : Try.prog.cellsOf 2 = 1 := by kernel_rfl
theorem cells3 : Try.prog.cellsOf 3 = 1 := by kernel_rfl
theorem keyType59 : Try.prog.keyType 59 = true := by kernel_rfl
theorem keyType61 : Try.prog.keyType 61 = true := by kernel_rfl
theorem keyLits_int {P : Program} {t : TypeId} (ht : P.underlying t = some (.int .i64)) {n : Int} (hn : (Lit.int .i64 n).wf = true) (d : Nat) : P.keyLits (d + 1) t [.int .i64 n] = some [.int .i64 n] := by
  simp [Program.keyLits, ht, hn]
theorem keys59 (p : Int × Int) (hp : okP p) : ∃ l, keyOf Try.prog 59 (kv p) = some l := by
  obtain ⟨d, hd⟩ : ∃ d, Try.prog.types.size + 1 = d + 2 := ⟨Try.prog.types.size - 1, by have h : 59 < Try.prog.types.size := row59; omega⟩
  unfold keyOf
  rw [Try.underlying59, keyType59, hd]
  have h1 : (kv p).formed Try.prog 59 = true := by unfold kv Value.formed; rw [Try.underlying59]; simp [cells59]
  have h2 : Try.prog.keyLits (d + 2) 59 (kv p).cells.toList = some [.int .i64 p.1, .int .i64 p.2] := by
    unfold Program.keyLits
    rw [Try.underlying59]
    simp [kv, Value.cells, cells59, cells3, keyLits_int Try.underlying3 hp.1 d, keyLits_int Try.underlying3 hp.2 d]
  simp [h1, h2]
theorem keys61 (p : Int × Int) (hp : okP p) : ∃ l, keyOf Try.prog 61 (kv p) = some l := by
  obtain ⟨d, hd⟩ : ∃ d, Try.prog.types.size + 1 = d + 2 := ⟨Try.prog.types.size - 1, by have h : 59 < Try.prog.types.size := row59; omega⟩
  unfold keyOf
  rw [Try.underlying61, keyType61, hd]
  have h1 : (kv p).formed Try.prog 61 = true := by unfold kv Value.formed; rw [Try.underlying61]; simp [cells61]
  have h2 : Try.prog.keyLits (d + 2) 61 (kv p).cells.toList = some [.int .i64 p.1, .int .i64 p.2] := by
    unfold Program.keyLits
    rw [Try.underlying61]
    simp [kv, Value.cells, cells61, cells2, keyLits_int Try.underlying2 hp.1 d, keyLits_int Try.underlying2 hp.2 d]
  simp [h1, h2]
end Go.Proofs.Qxb6000864a
