import Derived.Test.Qxb6600119aBase
import Derived.Deep.QuietTactic
import Derived.BigQuiet
namespace Go.Proofs.Qxb6600119a
open Go.RowKit

set_option maxHeartbeats 400000 in
theorem bytesEq_same (v1 v2 : Value) (zs : List Int) (w : World) (lo1 lo2 : Nat) (hz : zs.length ≤ 8388608) (h1 : Row w lo1 v1 zs) (h2 : Row w lo2 v2 zs) :
    Calls Try.prog 16 #[v1, v2] w fun e w' => e = .returned (.bool true) ∧ ∃ n, w' = w.drewN n := by
  obtain ⟨a1, c1, rfl, _, hc1⟩ := h1
  obtain ⟨a2, c2, rfl, _, hc2⟩ := h2
  go_enter Try.func16, Try.ntmps16
  go_wp2
  go_loopw [5] (fun i wr => ∃ k : Nat, k ≤ zs.length ∧ i = .int .i64 k ∧ ∃ n, wr = w.drewN n) (fun i _ => zs.length - (intOf i).toNat)
  case atStart => exact ⟨0, Nat.zero_le _, rfl, 0, rfl⟩
  case round =>
    obtain ⟨k, hk, rfl, n, rfl⟩ := hrel
    by_cases hlt : k < zs.length
    · obtain ⟨b1, o1, rfl, _, x1⟩ := hc1 (by omega)
      obtain ⟨b2, o2, rfl, _, x2⟩ := hc2 (by omega)
      have y1 := x1 k hlt
      have y2 := x2 k hlt
      clear x1 x2 hc1 hc2
      go_wp2
      go_quiet (fail)
      go_wp2
      go_roundw
      case rel => exact ⟨k + 1, by omega, by go_num, _, rfl⟩
      case measure => simp [intOf]; omega
    · go_wp2
      go_ret
      exact ⟨rfl, n, rfl⟩

end Go.Proofs.Qxb6600119a
