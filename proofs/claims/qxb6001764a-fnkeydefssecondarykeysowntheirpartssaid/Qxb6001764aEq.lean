import Derived.Test.Qxb6001764aBase
import Derived.Deep.QuietTactic
import Derived.BigQuiet
namespace Go.Proofs.Qxb6001764a
open Go.RowKit

set_option maxHeartbeats 400000 in
theorem equalInts_same (v1 v2 : Value) (zs : List Int) (w : World) (lo1 lo2 : Nat) (hz : zs.length ≤ 1048576) (h1 : Row w lo1 v1 zs) (h2 : Row w lo2 v2 zs) :
    Calls Try.prog 17 #[v1, v2] w fun e w' => e = .returned (.bool true) ∧ ∃ n, w' = w.drewN n := by
  obtain ⟨a1, c1, rfl, _, hc1⟩ := h1
  obtain ⟨a2, c2, rfl, _, hc2⟩ := h2
  go_enter Try.func17, Try.ntmps17
  go_wp2
  go_loopw [5] (fun i wr => ∃ k : Nat, k ≤ zs.length ∧ i = .int .i64 k ∧ ∃ n, wr = w.drewN n) (fun i _ => zs.length - (intOf i).toNat)
  case atStart => exact ⟨0, Nat.zero_le _, rfl, 0, rfl⟩
  case round =>
    obtain ⟨k, hk, rfl, n, rfl⟩ := hrel
    by_cases hlt : k < zs.length
    · obtain ⟨b1, o1, rfl, _, x1⟩ := hc1 (by omega)
      obtain ⟨b2, o2, rfl, _, x2⟩ := hc2 (by omega)
      have y1 := x1 k hlt
      have y2 := x2 k hlt
      clear x1 x2 hc1 hc2
      go_wp2
      go_quiet (fail)
      go_wp2
      go_roundw
      case rel => exact ⟨k + 1, by omega, by go_num, _, rfl⟩
      case measure => simp [intOf]; omega
    · go_wp2
      go_ret
      exact ⟨rfl, n, rfl⟩

set_option maxHeartbeats 400000 in
theorem unchanged_same (v1 v2 v3 v4 : Value) (zs : List Int) (zss : List (List Int)) (w : World) (hz : zs.length ≤ 1048576) (hzz : zss.length ≤ 1048576) (hzi : ∀ i, i < zss.length → (zss.getD i []).length ≤ 1048576)
    (h1 : Row w 0 v1 zs) (h2 : Rows2 w v2 zss) (h3 : Row w 0 v3 zs) (h4 : Rows2 w v4 zss) :
    Calls Try.prog 13 #[v1, v2, v3, v4] w fun e w' => e = .returned (.bool true) ∧ Drew w w' := by
  obtain ⟨a2, c2, rfl, _, hc2⟩ := h2
  obtain ⟨a4, c4, rfl, _, hc4⟩ := h4
  go_enter Try.func13, Try.ntmps13
  go_wp2_with (go_at_call 17; refine (equalInts_same _ _ zs _ 0 0 hz h1 h3).mono ?_; rintro e w' ⟨rfl, n, rfl⟩)
  go_loopw [9] (fun i wr => ∃ k : Nat, k ≤ zss.length ∧ i = .int .i64 k ∧ Drew w wr) (fun i _ => zss.length - (intOf i).toNat)
  case atStart => exact ⟨0, Nat.zero_le _, rfl, Drew.drewN _ _⟩
  case round =>
    obtain ⟨k, hk, rfl, hd⟩ := hrel
    by_cases hlt : k < zss.length
    · obtain ⟨b2, o2, rfl, x2⟩ := hc2 (by omega)
      obtain ⟨b4, o4, rfl, x4⟩ := hc4 (by omega)
      obtain ⟨u2, y2, r2⟩ := x2 k hlt
      obtain ⟨u4, y4, r4⟩ := x4 k hlt
      have hzk := hzi k hlt
      generalize zss.getD k [] = zk at r2 r4 hzk
      replace r2 := r2.keep (hd.below _)
      replace r4 := r4.keep (hd.below _)
      replace y2 := cell_keep (hd.below _) y2
      replace y4 := cell_keep (hd.below _) y4
      have r2' := r2
      have r4' := r4
      obtain ⟨d2, e2, hu2, _⟩ := r2'
      obtain ⟨d4, e4, hu4, _⟩ := r4'
      subst hu2; subst hu4
      clear x2 x4 hc2 hc4 hzi
      go_wp2
      go_quiet ((go_at_call 17; exact Calls.quiet_of (equalInts_same _ _ zk _ 0 0 hzk (r2.keep (below_drewN _ _)) (r4.keep (below_drewN _ _)))))
      go_wp2
      go_roundw
      case rel => exact ⟨k + 1, by omega, by go_num, hd.trans (Drew.drewN _ _)⟩
      case measure => simp [intOf]; omega
    · go_wp2
      go_ret
      exact ⟨rfl, hd⟩

end Go.Proofs.Qxb6001764a
