import Derived.Test.Qxb6600018aBase
namespace Go.Proofs.Qxb6600018a
open Go.RowKit

/-- What indexOf gives: not negative exactly where the number is among them. -/
def IndexIs (zs : List Int) (n : Int) (e : Ending) : Prop := ∃ r : Int, e = .returned (.int .i64 r) ∧ (n ∈ zs → 0 ≤ r) ∧ (¬ n ∈ zs → r < 0)

theorem mem_getD {zs : List Int} {k : Nat} (h : k < zs.length) : zs.getD k 0 ∈ zs := by
  rw [List.getD, List.getElem?_eq_getElem h]
  exact List.getElem_mem h

theorem not_mem_of {zs : List Int} {n : Int} (h : ∀ j, j < zs.length → zs.getD j 0 ≠ n) : ¬ n ∈ zs := by
  intro hm
  obtain ⟨j, hj, e⟩ := List.mem_iff_getElem.1 hm
  apply h j hj
  rw [List.getD, List.getElem?_eq_getElem hj]
  exact e

set_option maxHeartbeats 400000 in
theorem indexOf_any (v : Value) (zs : List Int) (n : Int) (w : World) (hz : zs.length ≤ 1048577) (h : Row w 0 v zs) :
    Calls Try.prog 53 #[v, .int .i64 n] w fun e w' => IndexIs zs n e ∧ w' = w := by
  obtain ⟨a, c, rfl, _, hc⟩ := h
  go_enter Try.func53, Try.ntmps53
  go_wp2
  go_loop [9, 5, 6] (fun i _ _ => ∃ k : Nat, k ≤ zs.length ∧ i = .int .i64 k ∧ Hid (∀ j, j < k → zs.getD j 0 ≠ n)) (fun i _ _ => zs.length - (intOf i).toNat)
  case atStart => exact ⟨0, Nat.zero_le _, rfl, fun j hj => absurd hj (Nat.not_lt_zero _)⟩
  case round =>
    obtain ⟨k, hk, rfl, hall⟩ := hrel
    by_cases hlt : k < zs.length
    · obtain ⟨b, off, rfl, _, x⟩ := hc (by omega)
      have y := x k hlt
      obtain ⟨z, HZ⟩ : ∃ z, Hid (z = zs.getD k 0) := ⟨_, rfl⟩
      rw [← HZ.out] at y
      clear x hc
      by_cases e : z = n
      · have hd : (z == n) = true := beq_iff_eq.2 e
        have HM : Hid (n ∈ zs) := by rw [← e, HZ.out]; exact mem_getD hlt
        clear e
        go_wp2
        go_ret
        exact ⟨⟨_, rfl, fun _ => by omega, fun h => absurd HM.out h⟩, rfl⟩
      · have hd : (z == n) = false := beq_eq_false_iff_ne.2 e
        have HE : Hid (z ≠ n) := e
        clear e
        go_wp2
        go_round
        case rel =>
          refine ⟨k + 1, by omega, by go_num, fun j hj => ?_⟩
          by_cases ej : j = k
          · subst ej; rw [← HZ.out]; exact HE.out
          · exact hall.out j (by omega)
        case measure => simp [intOf]; omega
    · go_wp2
      go_ret
      obtain rfl : k = zs.length := by omega
      exact ⟨⟨_, rfl, fun h => absurd h (not_mem_of hall.out), fun _ => by omega⟩, rfl⟩

end Go.Proofs.Qxb6600018a
