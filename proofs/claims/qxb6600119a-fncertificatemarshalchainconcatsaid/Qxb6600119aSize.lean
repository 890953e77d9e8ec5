import Derived.Test.Qxb6600119aBase
namespace Go.Proofs.Qxb6600119a
open Go.RowKit

/-- It returns some bool. -/
def IsBool (e : Ending) : Prop := ∃ b, e = .returned (.bool b)

set_option maxHeartbeats 400000 in
theorem zzBytes_any (v1 v2 : Value) (zs : List Int) (zss : List (List Int)) (w : World) (h1 : Row w 0 v1 zs) (h2 : Rows2 w v2 zss) :
    Calls Try.prog 11 #[v1, v2] w fun e w' => IsBool e ∧ w' = w := by
  obtain ⟨a1, c1, rfl, _, hc1⟩ := h1
  obtain ⟨a2, c2, rfl, _, hc2⟩ := h2
  clear hc1
  go_enter Try.func11, Try.ntmps11
  go_wp2
  · go_ret
    exact ⟨⟨_, rfl⟩, rfl⟩
  · go_ret
    exact ⟨⟨_, rfl⟩, rfl⟩
  · go_ret
    exact ⟨⟨_, rfl⟩, rfl⟩
  go_loop [5, 6] (fun t i => ∃ (k : Nat) (s : Int), k ≤ zss.length ∧ i = .int .i64 k ∧ t = .int .i64 s ∧ 0 ≤ s ∧ s ≤ 1048576) (fun _ i => zss.length - (intOf i).toNat)
  case atStart => exact ⟨0, _, Nat.zero_le _, rfl, rfl, by omega, by omega⟩
  case round =>
    obtain ⟨k, s, hk, rfl, rfl, hs0, hs1⟩ := hrel
    by_cases hlt : k < zss.length
    · obtain ⟨b2, o2, rfl, x2⟩ := hc2 (by omega)
      obtain ⟨u2, y2, r2⟩ := x2 k hlt
      generalize zss.getD k [] = zk at r2
      obtain ⟨d2, e2, hu2, _⟩ := r2
      subst hu2
      clear x2 hc2
      go_wp2
      · go_ret
        exact ⟨⟨_, rfl⟩, rfl⟩
      · go_ret
        exact ⟨⟨_, rfl⟩, rfl⟩
      · go_round
        case rel => exact ⟨k + 1, _, by omega, by go_num, rfl, by omega, by omega⟩
        case measure => simp [intOf]; omega
    · go_wp2
      go_ret
      exact ⟨⟨_, rfl⟩, rfl⟩

end Go.Proofs.Qxb6600119a
