import Derived.Test.Qxb6600018aBase
namespace Go.Proofs.Qxb6600018a
open Go.RowKit

/-- It returns some bool. -/
def IsBool (e : Ending) : Prop := ∃ b, e = .returned (.bool b)

set_option maxHeartbeats 400000 in
theorem zzBytes_any (n0 n2 n4 n5 : Int) (v1 v2 : Value) (zs : List Int) (zss : List (List Int)) (w : World) (h1 : Rows2 w v1 zss) (h2 : Row w 0 v2 zs) :
    Calls Try.prog 35 #[.int .i64 n0, v1, .int .i64 n2, v2, .int .i64 n4, .int .i64 n5] w fun e w' => IsBool e ∧ w' = w := by
  obtain ⟨a1, c1, rfl, _, hc1⟩ := h1
  obtain ⟨a2, c2, rfl, _, hc2⟩ := h2
  clear hc2
  go_enter Try.func35, Try.ntmps35
  go_wp2
  · go_ret
    exact ⟨⟨_, rfl⟩, rfl⟩
  go_loop [13, 14] (fun t i => ∃ (k : Nat) (s : Int), k ≤ zss.length ∧ i = .int .i64 k ∧ t = .int .i64 s ∧ 0 ≤ s ∧ s ≤ 1048576) (fun _ i => zss.length - (intOf i).toNat)
  case atStart => exact ⟨0, _, Nat.zero_le _, rfl, rfl, by omega, by omega⟩
  case round =>
    obtain ⟨k, s, hk, rfl, rfl, hs0, hs1⟩ := hrel
    by_cases hlt : k < zss.length
    · obtain ⟨b2, o2, rfl, x2⟩ := hc1 (by omega)
      obtain ⟨u2, y2, r2⟩ := x2 k hlt
      generalize zss.getD k [] = zk at r2
      obtain ⟨d2, e2, hu2, _⟩ := r2
      subst hu2
      clear x2 hc1
      go_wp2
      · go_ret
        exact ⟨⟨_, rfl⟩, rfl⟩
      · go_ret
        exact ⟨⟨_, rfl⟩, rfl⟩
      · go_round
        case rel => exact ⟨k + 1, _, by omega, by go_num, rfl, by omega, by omega⟩
        case measure => simp [intOf]; omega
    · go_wp2
      all_goals (go_ret; exact ⟨⟨_, rfl⟩, rfl⟩)

/-- What b1AddLen gives: above the bound, or the exact sum with both under the bound. -/
def AddLen (n l : Int) (e : Ending) : Prop := ∃ r : Int, e = .returned (.int .i64 r) ∧ 0 ≤ r ∧ r ≤ 1048577 ∧ (r ≤ 1048576 → l ≤ 1048576 ∧ n ≤ 1048576)

set_option maxHeartbeats 400000 in
theorem addLen_any (n l k : Int) (w : World) (hn0 : 0 ≤ n) (hl0 : 0 ≤ l) (hk : k = 8 ∨ k = 24) :
    Calls Try.prog 43 #[.int .i64 n, .int .i64 l, .int .i64 k] w fun e w' => AddLen n l e ∧ w' = w := by
  by_cases q1 : 1048576 < l
  · have d1 : decide (1048576 < l) = true := by simpa using q1
    go_enter Try.func43, Try.ntmps43
    go_wp2
    go_ret
    exact ⟨⟨1048577, rfl, by omega, by omega, fun h => by omega⟩, rfl⟩
  · have d1 : decide (1048576 < l) = false := by simpa using q1
    by_cases q2 : 1048576 < n
    · have d2 : decide (1048576 < n) = true := by simpa using q2
      go_enter Try.func43, Try.ntmps43
      go_wp2
      go_ret
      exact ⟨⟨1048577, rfl, by omega, by omega, fun h => by omega⟩, rfl⟩
    · have d2 : decide (1048576 < n) = false := by simpa using q2
      rcases hk with rfl | rfl
      all_goals
        go_enter Try.func43, Try.ntmps43
        go_wp2
        · go_ret
          exact ⟨⟨1048577, rfl, by omega, by omega, fun h => by omega⟩, rfl⟩
        · go_ret
          exact ⟨⟨_, rfl, by omega, by omega, fun h => by omega⟩, rfl⟩

/-- What b1Ints2Bytes gives: if it stays under the bound so do all lengths. -/
def IntsBytes (n : Int) (zss : List (List Int)) (e : Ending) : Prop :=
  ∃ r : Int, e = .returned (.int .i64 r) ∧ (r ≤ 1048576 → n ≤ 1048576 ∧ zss.length ≤ 1048576 ∧ ∀ i, i < zss.length → (zss.getD i []).length ≤ 1048576)

set_option maxHeartbeats 400000 in
theorem ints2Bytes_any (n : Int) (v : Value) (zss : List (List Int)) (w : World) (hn0 : 0 ≤ n) (h : Rows2 w v zss) :
    Calls Try.prog 44 #[.int .i64 n, v] w fun e w' => IntsBytes n zss e ∧ w' = w := by
  obtain ⟨a1, c1, rfl, _, hc1⟩ := h
  go_enter Try.func44, Try.ntmps44
  go_wp2_with fail
  refine (addLen_any _ _ _ _ hn0 (by omega) (Or.inr rfl)).mono ?_
  rintro e w' ⟨⟨r0, rfl, hr0, hr1, hr2⟩, rfl⟩
  have HR : Hid (r0 ≤ 1048576 → (zss.length : Int) ≤ 1048576 ∧ n ≤ 1048576) := hr2
  clear hr2
  go_wp2
  go_loop [0, 5] (fun t i => ∃ (k : Nat) (r : Int), k ≤ zss.length ∧ i = .int .i64 k ∧ t = .int .i64 r ∧ 0 ≤ r ∧ r ≤ 1048577 ∧ Hid (r ≤ 1048576 → r0 ≤ 1048576 ∧ ∀ i, i < k → (zss.getD i []).length ≤ 1048576)) (fun _ i => zss.length - (intOf i).toNat)
  case atStart => exact ⟨0, r0, Nat.zero_le _, rfl, rfl, hr0, hr1, fun h => ⟨h, fun i hi => absurd hi (Nat.not_lt_zero _)⟩⟩
  case round =>
    obtain ⟨k, r, hk, rfl, rfl, hs0, hs1, hall⟩ := hrel
    by_cases hlt : k < zss.length
    · by_cases hrm : r ≤ 1048576
      · have hzl : zss.length ≤ 1048576 := by have := HR.out (hall.out hrm).1; omega
        obtain ⟨b2, o2, rfl, x2⟩ := hc1 (by omega)
        obtain ⟨u2, y2, r2⟩ := x2 k hlt
        have HK : ∃ zk, Hid (zk = zss.getD k []) := ⟨_, rfl⟩
        obtain ⟨zk, HK⟩ := HK
        rw [← HK.out] at r2
        obtain ⟨d2, e2, hu2, _⟩ := r2
        subst hu2
        clear x2 hc1
        go_wp2_with fail
        refine (addLen_any _ _ _ _ hs0 (by omega) (Or.inl rfl)).mono ?_
        rintro e w1 ⟨⟨r1, rfl, hq0, hq1, hq2⟩, rfl⟩
        have HQ : Hid (r1 ≤ 1048576 → (zk.length : Int) ≤ 1048576 ∧ r ≤ 1048576) := hq2
        clear hq2
        go_wp2
        go_round
        case rel =>
          refine ⟨k + 1, r1, by omega, by go_num, rfl, hq0, hq1, fun h => ⟨(hall.out hrm).1, fun i hi => ?_⟩⟩
          by_cases hik : i = k
          · subst hik; rw [← HK.out]; have := (HQ.out h).1; omega
          · exact (hall.out hrm).2 i (by omega)
        case measure => simp [intOf]; omega
      · have hd : decide (r ≤ 1048576) = false := by simpa using hrm
        go_wp2
        go_ret
        exact ⟨⟨r, rfl, fun h => by omega⟩, rfl⟩
    · have hd : decide ((k : Int) < (zss.length : Int)) = false := by simp; omega
      go_wp2
      go_ret
      obtain rfl : k = zss.length := by omega
      refine ⟨⟨r, rfl, fun h => ?_⟩, rfl⟩
      have h1 := hall.out h
      have h2 := HR.out h1.1
      exact ⟨h2.2, by omega, h1.2⟩

/-- What b1BranchBytes gives. -/
def BranchBytes (zs : List Int) (zss : List (List Int)) (e : Ending) : Prop :=
  ∃ r : Int, e = .returned (.int .i64 r) ∧ (r ≤ 1048576 → zs.length ≤ 1048576 ∧ zss.length ≤ 1048576 ∧ ∀ i, i < zss.length → (zss.getD i []).length ≤ 1048576)

set_option maxHeartbeats 400000 in
theorem branchBytes_any (v1 v2 : Value) (zs : List Int) (zss : List (List Int)) (w : World) (h1 : Rows2 w v1 zss) (h2 : Row w 0 v2 zs) :
    Calls Try.prog 26 #[v1, v2] w fun e w' => BranchBytes zs zss e ∧ w' = w := by
  obtain ⟨a2, c2, rfl, _, hc2⟩ := h2
  clear hc2
  go_enter Try.func26, Try.ntmps26
  go_wp2_with fail
  refine (addLen_any _ _ _ _ (by omega) (by omega) (Or.inl rfl)).mono ?_
  rintro e w' ⟨⟨r0, rfl, hr0, hr1, hr2⟩, rfl⟩
  have HR : Hid (r0 ≤ 1048576 → (zs.length : Int) ≤ 1048576 ∧ (0 : Int) ≤ 1048576) := hr2
  clear hr2
  go_wp2_with fail
  refine (ints2Bytes_any _ _ zss _ hr0 h1).mono ?_
  rintro e w1 ⟨⟨r, rfl, hr⟩, rfl⟩
  have HQ : Hid (r ≤ 1048576 → r0 ≤ 1048576 ∧ zss.length ≤ 1048576 ∧ ∀ i, i < zss.length → (zss.getD i []).length ≤ 1048576) := hr
  clear hr
  go_wp2
  go_ret
  refine ⟨⟨r, rfl, fun h => ?_⟩, rfl⟩
  have h1 := HQ.out h
  have h2 := HR.out h1.1
  exact ⟨by omega, h1.2⟩

end Go.Proofs.Qxb6600018a
