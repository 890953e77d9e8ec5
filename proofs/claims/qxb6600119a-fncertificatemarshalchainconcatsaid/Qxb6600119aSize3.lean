import Derived.Test.Qxb6600119aSize
namespace Go.Proofs.Qxb6600119a
open Go.RowKit

set_option maxHeartbeats 400000 in
theorem zzBytes3_any (v1 v2 v3 : Value) (zs : List Int) (zss yss : List (List Int)) (w : World) (h1 : Row w 0 v1 zs) (h2 : Rows2 w v2 zss) (h3 : Rows2 w v3 yss) :
    Calls Try.prog 17 #[v1, v2, v3] w fun e w' => IsBool e ∧ w' = w := by
  obtain ⟨a1, c1, rfl, _, hc1⟩ := h1
  obtain ⟨a2, c2, rfl, _, hc2⟩ := h2
  obtain ⟨a3, c3, rfl, _, hc3⟩ := h3
  clear hc1
  have HC3 : Hid (yss.length ≠ 0 → ∃ b off, a3 = some ⟨b, off, none⟩ ∧ ∀ i, i < yss.length → ∃ u, w.cell? ⟨b, off + i, none⟩ = some u ∧ Row w 0 u (yss.getD i [])) := hc3
  clear hc3
  go_enter Try.func17, Try.ntmps17
  go_wp2
  · go_ret
    exact ⟨⟨_, rfl⟩, rfl⟩
  · go_ret
    exact ⟨⟨_, rfl⟩, rfl⟩
  · go_ret
    exact ⟨⟨_, rfl⟩, rfl⟩
  go_loop [7, 8] (fun t i => ∃ (k : Nat) (s : Int), k ≤ zss.length ∧ i = .int .i64 k ∧ t = .int .i64 s ∧ 0 ≤ s ∧ s ≤ 1048576) (fun _ i => zss.length - (intOf i).toNat)
  case atStart => exact ⟨0, _, Nat.zero_le _, rfl, rfl, by omega, by omega⟩
  case round =>
    obtain ⟨k, s, hk, rfl, rfl, hs0, hs1⟩ := hrel
    by_cases hlt : k < zss.length
    · obtain ⟨b2, o2, rfl, x2⟩ := hc2 (by omega)
      obtain ⟨u2, y2, r2⟩ := x2 k hlt
      generalize zss.getD k [] = zk at r2
      obtain ⟨d2, e2, hu2, _⟩ := r2
      subst hu2
      clear x2 hc2
      go_wp2
      · go_ret
        exact ⟨⟨_, rfl⟩, rfl⟩
      · go_ret
        exact ⟨⟨_, rfl⟩, rfl⟩
      · go_round
        case rel => exact ⟨k + 1, _, by omega, by go_num, rfl, by omega, by omega⟩
        case measure => simp [intOf]; omega
    · clear hc2
      go_wp2
      · go_ret
        exact ⟨⟨_, rfl⟩, rfl⟩
      · go_ret
        exact ⟨⟨_, rfl⟩, rfl⟩
      go_loop [7, 9] (fun t i => ∃ (k : Nat) (s : Int), k ≤ yss.length ∧ i = .int .i64 k ∧ t = .int .i64 s ∧ 0 ≤ s ∧ s ≤ 1048576) (fun _ i => yss.length - (intOf i).toNat)
      case atStart => exact ⟨0, _, Nat.zero_le _, rfl, rfl, by omega, by omega⟩
      case round =>
        obtain ⟨k2, s2, hk2, rfl, rfl, hs20, hs21⟩ := hrel
        by_cases hlt2 : k2 < yss.length
        · obtain ⟨b2, o2, rfl, x2⟩ := HC3.out (by omega)
          obtain ⟨u2, y2, r2⟩ := x2 k2 hlt2
          generalize yss.getD k2 [] = zk at r2
          obtain ⟨d2, e2, hu2, _⟩ := r2
          subst hu2
          clear x2 HC3
          go_wp2
          · go_ret
            exact ⟨⟨_, rfl⟩, rfl⟩
          · go_ret
            exact ⟨⟨_, rfl⟩, rfl⟩
          · go_round
            case rel => exact ⟨k2 + 1, _, by omega, by go_num, rfl, by omega, by omega⟩
            case measure => simp [intOf]; omega
        · go_wp2
          go_ret
          exact ⟨⟨_, rfl⟩, rfl⟩

end Go.Proofs.Qxb6600119a
