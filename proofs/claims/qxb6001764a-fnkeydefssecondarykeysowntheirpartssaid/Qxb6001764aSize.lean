import Derived.Test.Qxb6001764aBase
namespace Go.Proofs.Qxb6001764a
open Go.RowKit

/-- It returns some bool. -/
def IsBool (e : Ending) : Prop := ∃ b, e = .returned (.bool b)

/-- It returns true, or false and the sizes are small. -/
def BigOr (zs : List Int) (zss : List (List Int)) (e : Ending) : Prop :=
  e = .returned (.bool true) ∨ (e = .returned (.bool false) ∧ zs.length ≤ 4096 ∧ zss.length ≤ 4096 ∧ ∀ i, i < zss.length → (zss.getD i []).length ≤ 131072)

set_option maxHeartbeats 400000 in
theorem zzBytes_any (v1 v2 : Value) (zs : List Int) (zss : List (List Int)) (w : World) (h1 : Row w 0 v1 zs) (h2 : Rows2 w v2 zss) :
    Calls Try.prog 8 #[v1, v2] w fun e w' => IsBool e ∧ w' = w := by
  obtain ⟨a1, c1, rfl, _, hc1⟩ := h1
  obtain ⟨a2, c2, rfl, _, hc2⟩ := h2
  clear hc1
  go_enter Try.func8, Try.ntmps8
  go_wp2
  · go_ret
    exact ⟨⟨_, rfl⟩, rfl⟩
  · go_ret
    exact ⟨⟨_, rfl⟩, rfl⟩
  · go_ret
    exact ⟨⟨_, rfl⟩, rfl⟩
  go_loop [5, 6] (fun t i => ∃ (k : Nat) (s : Int), k ≤ zss.length ∧ i = .int .i64 k ∧ t = .int .i64 s ∧ 0 ≤ s ∧ s ≤ 1048576) (fun _ i => zss.length - (intOf i).toNat)
  case atStart => exact ⟨0, _, Nat.zero_le _, rfl, rfl, by omega, by omega⟩
  case round =>
    obtain ⟨k, s, hk, rfl, rfl, hs0, hs1⟩ := hrel
    by_cases hlt : k < zss.length
    · obtain ⟨b2, o2, rfl, x2⟩ := hc2 (by omega)
      obtain ⟨u2, y2, r2⟩ := x2 k hlt
      generalize zss.getD k [] = zk at r2
      obtain ⟨d2, e2, hu2, _⟩ := r2
      subst hu2
      clear x2 hc2
      go_wp2
      · go_ret
        exact ⟨⟨_, rfl⟩, rfl⟩
      · go_ret
        exact ⟨⟨_, rfl⟩, rfl⟩
      · go_round
        case rel => exact ⟨k + 1, _, by omega, by go_num, rfl, by omega, by omega⟩
        case measure => simp [intOf]; omega
    · go_wp2
      go_ret
      exact ⟨⟨_, rfl⟩, rfl⟩

set_option maxHeartbeats 400000 in
theorem tooBig_any (v1 v2 : Value) (zs : List Int) (zss : List (List Int)) (w : World) (h1 : Row w 0 v1 zs) (h2 : Rows2 w v2 zss) :
    Calls Try.prog 9 #[v1, v2] w fun e w' => BigOr zs zss e ∧ w' = w := by
  obtain ⟨a1, c1, rfl, _, hc1⟩ := h1
  obtain ⟨a2, c2, rfl, _, hc2⟩ := h2
  clear hc1
  by_cases q1 : zs.length ≤ 4096
  · by_cases q2 : zss.length ≤ 4096
    · go_enter Try.func9, Try.ntmps9
      go_wp2
      go_loop [5, 6] (fun t i => ∃ (k : Nat) (s : Int), k ≤ zss.length ∧ i = .int .i64 k ∧ t = .int .i64 s ∧ 0 ≤ s ∧ s ≤ 1048576 ∧ Hid (∀ i, i < k → (zss.getD i []).length ≤ 131072)) (fun _ i => zss.length - (intOf i).toNat)
      case atStart => exact ⟨0, _, Nat.zero_le _, rfl, rfl, by omega, by omega, fun i hi => absurd hi (Nat.not_lt_zero _)⟩
      case round =>
        obtain ⟨k, s, hk, rfl, rfl, hs0, hs1, hall⟩ := hrel
        by_cases hlt : k < zss.length
        · obtain ⟨b2, o2, rfl, x2⟩ := hc2 (by omega)
          obtain ⟨u2, y2, r2⟩ := x2 k hlt
          have HK : ∃ zk, Hid (zk = zss.getD k []) := ⟨_, rfl⟩
          obtain ⟨zk, HK⟩ := HK
          rw [← HK.out] at r2
          obtain ⟨d2, e2, hu2, _⟩ := r2
          subst hu2
          clear x2 hc2
          go_wp2
          · go_ret
            exact ⟨Or.inl rfl, rfl⟩
          · go_ret
            exact ⟨Or.inl rfl, rfl⟩
          · go_round
            case rel => 
              refine ⟨k + 1, _, by omega, by go_num, rfl, by omega, by omega, fun i hi => ?_⟩
              by_cases hik : i = k
              · subst hik; rw [← HK.out]; omega
              · exact hall.out i (by omega)
            case measure => simp [intOf]; omega
        · go_wp2
          go_ret
          have : k = zss.length := by omega
          subst this
          exact ⟨Or.inr ⟨by simp; omega, q1, q2, hall.out⟩, rfl⟩
    · have hq2 : decide ((4096 : Int) < (zss.length : Int)) = true := by simp; omega
      go_enter Try.func9, Try.ntmps9
      go_wp2
      go_ret
      exact ⟨Or.inl rfl, rfl⟩
  · have hq2 : decide ((4096 : Int) < (zs.length : Int)) = true := by simp; omega
    go_enter Try.func9, Try.ntmps9
    go_wp2
    go_ret
    exact ⟨Or.inl rfl, rfl⟩

end Go.Proofs.Qxb6001764a
