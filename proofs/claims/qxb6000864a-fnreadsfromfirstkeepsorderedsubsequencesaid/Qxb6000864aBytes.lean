import Derived.Test.Qxb6000864aRaw
namespace Go.Proofs.Qxb6000864a
open Go.RowKit
def IsBool (e : Ending) : Prop := ∃ b, e = .returned (.bool b)
set_option maxRecDepth 100000 in
set_option maxHeartbeats 1000000 in
theorem zz10_any (v : Value) (ss : List (List Tx)) (w : World) (hs : RSess w v ss) :
    Calls Try.prog 10 #[v] w fun e w' => IsBool e ∧ w' = w := by
  obtain ⟨hs0, sa, scap, rfl, hs⟩ := hs
  have HS : Hid (∀ i (h : i < ss.length), ∃ b off u, sa = some ⟨b, off, none⟩ ∧ w.cell? ⟨b, off + i, none⟩ = some u ∧ RTxs w u ss[i]) := hs
  obtain ⟨n, hn⟩ : ∃ n, n = ss.length := ⟨_, rfl⟩
  rw [← hn] at hs0 ⊢
  have HN : Hid (n = ss.length) := hn
  clear hs hn
  unfold maxLen at hs0
  by_cases hbig : 1048576 < n
  · go_enter Try.func10, Try.ntmps10
    go_wp2
    go_ret
    exact ⟨⟨_, rfl⟩, rfl⟩
  go_enter Try.func10, Try.ntmps10
  go_wp2
  go_loop [3, 4] (fun z i => ∃ (k : Nat) (x : Int), k ≤ n ∧ i = .int .i64 k ∧ z = .int .i64 x ∧ 0 ≤ x ∧ x ≤ 1048576) (fun _ i => n - (intOf i).toNat)
  case atStart => exact ⟨0, n, by omega, rfl, rfl, by omega, by omega⟩
  case round =>
    obtain ⟨k, x, hk, rfl, rfl, hx0, hx1⟩ := hrel
    by_cases hlt : k < n
    · have hk1 : k < ss.length := by have := HN.out; omega
      obtain ⟨b1, o1, u1, rfl, hu, ht⟩ := HS.out k hk1
      obtain ⟨s, hs⟩ : ∃ s, s = ss[k] := ⟨_, rfl⟩
      rw [← hs] at ht
      clear hs
      obtain ⟨ht0, ta, tcap, rfl, ht⟩ := ht
      have HT : Hid (∀ i (h : i < s.length), ∃ b off u, ta = some ⟨b, off, none⟩ ∧ w.cell? ⟨b, off + i * 2, none⟩ = some u ∧ w.cell? ⟨b, off + i * 2 + 1, none⟩ = some (.bool s[i].com) ∧ REvs w u s[i].evs) := ht
      obtain ⟨n2, hn2⟩ : ∃ n, n = s.length := ⟨_, rfl⟩
      rw [← hn2] at ht0 hu
      have HN2 : Hid (n2 = s.length) := hn2
      clear ht hn2
      unfold maxLen at ht0
      by_cases hbig2 : 1048576 < n2
      · go_wp2
        go_ret
        exact ⟨⟨_, rfl⟩, rfl⟩
      by_cases hbig3 : 1048576 < x + n2
      · go_wp2
        go_ret
        exact ⟨⟨_, rfl⟩, rfl⟩
      go_wp2
      go_loop [3, 5] (fun z i => ∃ (k2 : Nat) (x : Int), k2 ≤ n2 ∧ i = .int .i64 k2 ∧ z = .int .i64 x ∧ 0 ≤ x ∧ x ≤ 1048576) (fun _ i => n2 - (intOf i).toNat)
      case atStart => exact ⟨0, _, by omega, rfl, rfl, by omega, by omega⟩
      case round =>
        clear hx0 hx1 hbig3
        obtain ⟨k2, x2, hk2, rfl, rfl, hx0, hx1⟩ := hrel
        by_cases hlt2 : k2 < n2
        · obtain ⟨b2, o2, u2, rfl, c0, c1, he⟩ := HT.out k2 (by have := HN2.out; omega)
          obtain ⟨he0, ea, ecap, rfl, he⟩ := he
          clear he c1
          obtain ⟨n3, hn3⟩ : ∃ n3, n3 = (s[k2]'(by have := HN2.out; omega)).evs.length := ⟨_, rfl⟩
          rw [← hn3] at he0 c0
          clear hn3
          unfold maxLen at he0
          by_cases hbig4 : 1048576 < n3
          · go_wp2
            go_ret
            exact ⟨⟨_, rfl⟩, rfl⟩
          by_cases hbig5 : 1048576 < x2 + n3
          · go_wp2
            go_ret
            exact ⟨⟨_, rfl⟩, rfl⟩
          go_wp2
          go_round
          case rel => exact ⟨k2 + 1, _, by omega, by go_num, rfl, by omega, by omega⟩
          case measure => simp [intOf]; omega
        · go_wp2
          go_round
          case rel => exact ⟨k + 1, _, by omega, by go_num, rfl, by omega, by omega⟩
          case measure => simp [intOf]; omega
    · go_wp2
      go_ret
      exact ⟨⟨_, rfl⟩, rfl⟩

/-- bytesOf's answer: 1048577, or a number up to 1048576, and then every length keeps the bound. -/
def BytesSaid (ss : List (List Tx)) (e : Ending) : Prop := e = .returned (.int .i64 1048577) ∨ ∃ x : Int, e = .returned (.int .i64 x) ∧ 0 ≤ x ∧ x ≤ 1048576 ∧ Modest ss
def ModestS (s : List Tx) (k : Nat) : Prop := ∀ j (hj : j < s.length), j < k → s[j].evs.length ≤ small
def ModestH (ss : List (List Tx)) (k : Nat) : Prop := ∀ i (h : i < ss.length), i < k → ss[i].length ≤ small ∧ ModestS ss[i] ss[i].length
set_option maxRecDepth 100000 in
set_option maxHeartbeats 1000000 in
theorem bytesOf_any (v : Value) (ss : List (List Tx)) (w : World) (hs : RSess w v ss) :
    Calls Try.prog 11 #[v] w fun e w' => BytesSaid ss e ∧ w' = w := by
  obtain ⟨hs0, sa, scap, rfl, hs⟩ := hs
  have HS : Hid (∀ i (h : i < ss.length), ∃ b off u, sa = some ⟨b, off, none⟩ ∧ w.cell? ⟨b, off + i, none⟩ = some u ∧ RTxs w u ss[i]) := hs
  obtain ⟨n, hn⟩ : ∃ n, n = ss.length := ⟨_, rfl⟩
  rw [← hn] at hs0 ⊢
  have HN : Hid (n = ss.length) := hn
  clear hs hn
  unfold maxLen at hs0
  by_cases hbig : 1048576 < n
  · go_enter Try.func11, Try.ntmps11
    go_wp2
    go_ret
    exact ⟨.inl rfl, rfl⟩
  by_cases hbig' : 1048576 < 24 * n
  · go_enter Try.func11, Try.ntmps11
    go_wp2
    go_ret
    exact ⟨.inl rfl, rfl⟩
  go_enter Try.func11, Try.ntmps11
  go_wp2
  go_loop [3, 18] (fun z i => ∃ (k : Nat) (x : Int), k ≤ n ∧ i = .int .i64 k ∧ z = .int .i64 x ∧ 0 ≤ x ∧ x ≤ 1048576 ∧ ModestH ss k) (fun _ i => n - (intOf i).toNat)
  case atStart => exact ⟨0, _, by omega, rfl, rfl, by omega, by omega, fun i _ hi => absurd hi (by omega)⟩
  case round =>
    obtain ⟨k, x, hk, rfl, rfl, hx0, hx1, hmd⟩ := hrel
    have HMD : Hid (ModestH ss k) := hmd
    clear hmd
    by_cases hlt : k < n
    · have hk1 : k < ss.length := by have := HN.out; omega
      obtain ⟨b1, o1, u1, rfl, hu, ht⟩ := HS.out k hk1
      obtain ⟨s, hs⟩ : ∃ s, s = ss[k] := ⟨_, rfl⟩
      rw [← hs] at ht
      have HSK : Hid (s = ss[k]) := hs
      clear hs
      obtain ⟨ht0, ta, tcap, rfl, ht⟩ := ht
      have HT : Hid (∀ i (h : i < s.length), ∃ b off u, ta = some ⟨b, off, none⟩ ∧ w.cell? ⟨b, off + i * 2, none⟩ = some u ∧ w.cell? ⟨b, off + i * 2 + 1, none⟩ = some (.bool s[i].com) ∧ REvs w u s[i].evs) := ht
      obtain ⟨n2, hn2⟩ : ∃ n, n = s.length := ⟨_, rfl⟩
      rw [← hn2] at ht0 hu
      have HN2 : Hid (n2 = s.length) := hn2
      clear ht hn2
      unfold maxLen at ht0
      by_cases hbig2 : 1048576 < n2
      · go_wp2
        go_ret
        exact ⟨.inl rfl, rfl⟩
      by_cases hbig3 : 1048576 < x + 32 * n2
      · go_wp2
        go_ret
        exact ⟨.inl rfl, rfl⟩
      go_wp2
      go_loop [3, 37] (fun z i => ∃ (k2 : Nat) (x : Int), k2 ≤ n2 ∧ i = .int .i64 k2 ∧ z = .int .i64 x ∧ 0 ≤ x ∧ x ≤ 1048576 ∧ ModestS s k2) (fun _ i => n2 - (intOf i).toNat)
      case atStart => exact ⟨0, _, by omega, rfl, rfl, by omega, by omega, fun i _ hi => absurd hi (by omega)⟩
      case round =>
        clear hx0 hx1 hbig3
        obtain ⟨k2, x2, hk2, rfl, rfl, hx0, hx1, hms⟩ := hrel
        have HMS : Hid (ModestS s k2) := hms
        clear hms
        by_cases hlt2 : k2 < n2
        · have hk2s : k2 < s.length := by have := HN2.out; omega
          obtain ⟨b2, o2, u2, rfl, c0, c1, he⟩ := HT.out k2 hk2s
          obtain ⟨he0, ea, ecap, rfl, he⟩ := he
          clear he c1
          obtain ⟨n3, hn3⟩ : ∃ n3, n3 = s[k2].evs.length := ⟨_, rfl⟩
          rw [← hn3] at he0 c0
          have HN3 : Hid (n3 = s[k2].evs.length) := hn3
          clear hn3
          unfold maxLen at he0
          by_cases hbig4 : 1048576 < n3
          · go_wp2
            go_ret
            exact ⟨.inl rfl, rfl⟩
          by_cases hbig5 : 1048576 < x2 + 32 * n3
          · go_wp2
            go_ret
            exact ⟨.inl rfl, rfl⟩
          go_wp2
          go_round
          case rel => exact ⟨k2 + 1, _, by omega, by go_num, rfl, by omega, by omega, fun j hj hjk => by
            by_cases hjk2 : j = k2
            · subst hjk2; rw [← HN3.out]; unfold small; omega
            · exact HMS.out j hj (by omega)⟩
          case measure => simp [intOf]; omega
        · go_wp2
          go_round
          case rel => exact ⟨k + 1, _, by omega, by go_num, rfl, by omega, by omega, fun i hi hik => by
            by_cases hik2 : i = k
            · subst hik2
              rw [← HSK.out, ← HN2.out]
              have e2 : k2 = n2 := by omega
              exact ⟨by unfold small; omega, e2 ▸ HMS.out⟩
            · exact HMD.out i hi (by omega)⟩
          case measure => simp [intOf]; omega
    · go_wp2
      go_ret
      refine ⟨.inr ⟨x, rfl, hx0, hx1, by unfold small; have := HN.out; omega, fun i hi => ?_⟩, rfl⟩
      have h := HMD.out i hi (by have := HN.out; omega)
      exact ⟨h.1, fun j hj => h.2 j hj hj⟩
end Go.Proofs.Qxb6000864a
