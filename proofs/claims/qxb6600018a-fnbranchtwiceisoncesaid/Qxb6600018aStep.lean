import Derived.Test.Qxb6600018aBranch
namespace Go.Proofs.Qxb6600018a
open Go.RowKit

/-- The mark behind a branch. -/
def outHit (db : Int) (k : Nat) : Bool := decide (0 < db ∧ db ≤ (k : Int))
/-- The lists behind a branch. -/
def outRows (db : Int) (k : Nat) (zss : List (List Int)) (ts : List Int) (first : Int) : List (List Int) :=
  if 0 < db ∧ db ≤ (k : Int) then zss else if (ts.any fun t => decide (t ∈ zss.getD k [])) = true then zss else zss.set k (zss.getD k [] ++ [pick ts first])

theorem outRows_length (db : Int) (k : Nat) (zss : List (List Int)) (ts : List Int) (first : Int) : (outRows db k zss ts first).length = zss.length := by
  unfold outRows
  split
  · rfl
  · split
    · rfl
    · simp

theorem outRows_small {db : Int} {k : Nat} {zss : List (List Int)} {ts : List Int} {first : Int} (hk : k < zss.length) (h : ∀ i, i < zss.length → (zss.getD i []).length ≤ 1048576) : ∀ i, i < (outRows db k zss ts first).length → ((outRows db k zss ts first).getD i []).length ≤ 1048577 := by
  intro i hi
  rw [outRows_length] at hi
  have h0 := h i hi
  unfold outRows
  split
  · omega
  · split
    · omega
    · rw [getD_set _ _ _ _ hk]
      split
      · have := h k hk
        simp
        simpa using this
      · omega

/-- A search behind a branch. -/
def Out (w : World) (lo eb : Nat) (db : Int) (hit : Bool) (zss : List (List Int)) (w' : World) : Prop := (∃ fl, Srch w' lo eb db hit fl zss) ∧ Below lo w w'

theorem branch_first (lo eb : Nat) (db : Int) (zss : List (List Int)) (k : Nat) (tv : Value) (ts : List Int) (first : Int) (w : World) (h : Srch w lo eb db false true zss) (hk : k < zss.length)
    (hzk : (zss.getD k []).length ≤ 1048576) (ht : Row w 0 tv ts) (htn : ts.length ≠ 0) (htl : ts.length ≤ 1048576) :
    Calls Try.prog 49 #[.pointer (some ⟨eb, 0, none⟩), .int .i64 k, tv, .int .i64 first] w fun e w' => e = .returned (.tuple #[]) ∧ Out w lo eb db (outHit db k) (outRows db k zss ts first) w' := by
  by_cases hb : 0 < db ∧ db ≤ (k : Int)
  · have e1 : outHit db k = true := by simp [outHit, hb]
    have e2 : outRows db k zss ts first = zss := by simp [outRows, hb]
    rw [e1, e2]
    exact (branch_bound lo eb db false true zss k tv first w h hb.1 hb.2).mono fun e w' ⟨he, hm⟩ => ⟨he, ⟨_, hm.1⟩, hm.2⟩
  · have e1 : outHit db k = false := by simp only [outHit, decide_eq_false_iff_not]; exact hb
    rw [e1]
    refine (branch_free lo eb db false true zss k tv ts first w h hk (by omega) ht htn htl hb (fun _ => ⟨rfl, hzk⟩)).mono fun e w' ⟨he, hm⟩ => ⟨he, ?_⟩
    rcases hm with ⟨⟨t, t1, t2⟩, rfl⟩ | ⟨hno, ha⟩
    · have e2 : outRows db k zss ts first = zss := by
        unfold outRows
        rw [if_neg hb, if_pos (List.any_eq_true.2 ⟨t, t1, by simpa using t2⟩)]
      rw [e2]
      exact ⟨⟨_, h⟩, Below.refl _ _⟩
    · have e2 : outRows db k zss ts first = zss.set k (zss.getD k [] ++ [pick ts first]) := by
        unfold outRows
        rw [if_neg hb, if_neg]
        intro hany
        obtain ⟨t, t1, t2⟩ := List.any_eq_true.1 hany
        exact hno t t1 (by simpa using t2)
      rw [e2]
      exact ⟨⟨_, ha.1⟩, ha.2⟩

theorem has_after {db : Int} {k : Nat} {zss : List (List Int)} {ts : List Int} (first : Int) (hk : k < zss.length) (htn : ts.length ≠ 0) (hb : ¬ (0 < db ∧ db ≤ (k : Int))) : ∃ t ∈ ts, t ∈ (outRows db k zss ts first).getD k [] := by
  unfold outRows
  rw [if_neg hb]
  split
  · next hany =>
    obtain ⟨t, t1, t2⟩ := List.any_eq_true.1 hany
    exact ⟨t, t1, by simpa using t2⟩
  · refine ⟨pick ts first, pick_mem htn first, ?_⟩
    rw [getD_set _ _ _ _ hk, if_pos rfl]
    simp

theorem branch_again (lo eb : Nat) (db : Int) (fl : Bool) (zss : List (List Int)) (k : Nat) (tv : Value) (ts : List Int) (first second : Int) (w : World) (h : Srch w lo eb db (outHit db k) fl (outRows db k zss ts first)) (hk : k < zss.length)
    (hzi : ∀ i, i < zss.length → (zss.getD i []).length ≤ 1048576) (ht : Row w 0 tv ts) (htn : ts.length ≠ 0) (htl : ts.length ≤ 1048576) :
    Calls Try.prog 49 #[.pointer (some ⟨eb, 0, none⟩), .int .i64 k, tv, .int .i64 second] w fun e w' => e = .returned (.tuple #[]) ∧ Out w lo eb db (outHit db k) (outRows db k zss ts first) w' := by
  by_cases hb : 0 < db ∧ db ≤ (k : Int)
  · have e1 : outHit db k = true := by simp [outHit, hb]
    rw [e1] at h ⊢
    exact (branch_bound lo eb db true fl _ k tv second w h hb.1 hb.2).mono fun e w' ⟨he, hm⟩ => ⟨he, ⟨_, hm.1⟩, hm.2⟩
  · have hs := outRows_small (db := db) (ts := ts) (first := first) hk hzi
    have hk' : k < (outRows db k zss ts first).length := by rw [outRows_length]; exact hk
    obtain ⟨t, t1, t2⟩ := has_after first hk htn hb
    refine (branch_free lo eb db (outHit db k) fl (outRows db k zss ts first) k tv ts second w h hk' (hs k hk') ht htn htl hb (fun hno => absurd t2 (hno t t1))).mono fun e w' ⟨he, hm⟩ => ⟨he, ?_⟩
    rcases hm with ⟨_, rfl⟩ | ⟨hno, _⟩
    · exact ⟨⟨_, h⟩, Below.refl _ _⟩
    · exact absurd t2 (hno t t1)

set_option maxHeartbeats 400000 in
theorem zzBranch_first (lo eb : Nat) (db : Int) (zss : List (List Int)) (k : Nat) (tv : Value) (ts : List Int) (first : Int) (w : World) (h : Srch w lo eb db false true zss) (hk : k < zss.length)
    (hzk : (zss.getD k []).length ≤ 1048576) (ht : Row w 0 tv ts) (htn : ts.length ≠ 0) (htl : ts.length ≤ 1048576) :
    Calls Try.prog 28 #[.pointer (some ⟨eb, 0, none⟩), .int .i64 k, tv, .int .i64 first] w fun e w' => e = .returned (.tuple #[]) ∧ Out w lo eb db (outHit db k) (outRows db k zss ts first) w' := by
  go_enter Try.func28, Try.ntmps28
  go_wp2_with (go_at_call 49; refine (branch_first lo eb db zss k tv ts first _ h hk hzk ht htn htl).mono ?_; rintro e w' ⟨rfl, ho⟩)
  go_end0
  exact ⟨rfl, ho⟩

set_option maxHeartbeats 400000 in
theorem zzBranch_again (lo eb : Nat) (db : Int) (fl : Bool) (zss : List (List Int)) (k : Nat) (tv : Value) (ts : List Int) (first second : Int) (w : World) (h : Srch w lo eb db (outHit db k) fl (outRows db k zss ts first)) (hk : k < zss.length)
    (hzi : ∀ i, i < zss.length → (zss.getD i []).length ≤ 1048576) (ht : Row w 0 tv ts) (htn : ts.length ≠ 0) (htl : ts.length ≤ 1048576) :
    Calls Try.prog 28 #[.pointer (some ⟨eb, 0, none⟩), .int .i64 k, tv, .int .i64 second] w fun e w' => e = .returned (.tuple #[]) ∧ Out w lo eb db (outHit db k) (outRows db k zss ts first) w' := by
  go_enter Try.func28, Try.ntmps28
  go_wp2_with (go_at_call 49; refine (branch_again lo eb db fl zss k tv ts first second _ h hk hzi ht htn htl).mono ?_; rintro e w' ⟨rfl, ho⟩)
  go_end0
  exact ⟨rfl, ho⟩

end Go.Proofs.Qxb6600018a
