import Derived.Test.Qxb6001792aSql
namespace Go.Proofs.Qxb6001792a
open Go.RowKit

theorem sqlL_length (t k : List UInt8) : (sqlL t k).length = 291 + 2 * t.length + 2 * k.length := by
  have hA : sA.length = 30 := rfl
  have hB : sB.length = 9 := rfl
  have hC : sC.length = 16 := rfl
  have hD : sD.length = 6 := rfl
  have hE : sE.length = 230 := by decide +kernel
  simp only [sqlL, List.length_append, hA, hB, hC, hD, hE]
  omega

theorem sqlL_inj_table {t t' k : List UInt8} (h : sqlL t k = sqlL t' k) : t = t' := by
  have hl := congrArg List.length h
  rw [sqlL_length, sqlL_length] at hl
  unfold sqlL at h
  have h1 := List.append_cancel_left h
  exact (List.append_inj h1 (by omega)).1

theorem sqlL_inj_key {t k k' : List UInt8} (h : sqlL t k = sqlL t k') : k = k' := by
  have hl := congrArg List.length h
  rw [sqlL_length, sqlL_length] at hl
  unfold sqlL at h
  have h1 := List.append_cancel_left (List.append_cancel_left (List.append_cancel_left h))
  exact (List.append_inj h1 (by omega)).1

theorem tells_table {t t' k s s' : ByteArray} (h : s.data.toList = sqlL t.data.toList k.data.toList) (h' : s'.data.toList = sqlL t'.data.toList k.data.toList) : ((s.toList == s'.toList) == (t.toList == t'.toList)) = true := by
  rw [ByteArray.toList_eq, ByteArray.toList_eq, ByteArray.toList_eq, ByteArray.toList_eq, h, h']
  by_cases e : t.data.toList = t'.data.toList
  · rw [e]; simp
  · have e' : sqlL t.data.toList k.data.toList ≠ sqlL t'.data.toList k.data.toList := fun h => e (sqlL_inj_table h)
    rw [beq_eq_false_iff_ne.2 e, beq_eq_false_iff_ne.2 e']; rfl

theorem tells_key {t k k' s s' : ByteArray} (h : s.data.toList = sqlL t.data.toList k.data.toList) (h' : s'.data.toList = sqlL t.data.toList k'.data.toList) : ((s.toList == s'.toList) == (k.toList == k'.toList)) = true := by
  rw [ByteArray.toList_eq, ByteArray.toList_eq, ByteArray.toList_eq, ByteArray.toList_eq, h, h']
  by_cases e : k.data.toList = k'.data.toList
  · rw [e]; simp
  · have e' : sqlL t.data.toList k.data.toList ≠ sqlL t.data.toList k'.data.toList := fun h => e (sqlL_inj_key h)
    rw [beq_eq_false_iff_ne.2 e, beq_eq_false_iff_ne.2 e']; rfl

/-- It returns some bool. -/
def IsBool (e : Ending) : Prop := ∃ b, e = .returned (.bool b)

set_option maxHeartbeats 400000 in
theorem bytesTables_any (a b c : ByteArray) (w : World) :
    Calls Try.prog 13 #[.string a, .string b, .string c] w fun e w' => IsBool e ∧ w' = w := by
  go_enter Try.func13, Try.ntmps13
  go_wp2
  all_goals (go_ret; exact ⟨⟨_, rfl⟩, rfl⟩)

set_option maxHeartbeats 400000 in
theorem bytesKeys_any (a b c : ByteArray) (w : World) :
    Calls Try.prog 14 #[.string a, .string b, .string c] w fun e w' => IsBool e ∧ w' = w := by
  go_enter Try.func14, Try.ntmps14
  go_wp2
  all_goals (go_ret; exact ⟨⟨_, rfl⟩, rfl⟩)

set_option maxHeartbeats 400000 in
theorem tables_any (a b c : ByteArray) (w : World) :
    Calls Try.prog 4 #[.string a, .string b, .string c] w fun e w' => e = .returned (.bool true) ∧ w' = w := by
  go_enter Try.func4, Try.ntmps4
  go_wp2_with (go_at_call 13; refine (bytesTables_any _ _ _ _).mono ?_; rintro e w' ⟨⟨q, rfl⟩, rfl⟩; cases q)
  iterate 5 (· go_ret; exact ⟨rfl, rfl⟩)
  refine (zzExpired_any a c _ (by omega) (by omega)).mono ?_
  rintro e w1 ⟨⟨s, rfl, hs⟩, rfl⟩
  have HS : Hid (s.data.toList = sqlL a.data.toList c.data.toList) := hs
  clear hs
  go_wp2_with fail
  refine (zzExpired_any b c _ (by omega) (by omega)).mono ?_
  rintro e w2 ⟨⟨s', rfl, hs'⟩, rfl⟩
  have HT := tells_table HS.out hs'
  clear hs'
  go_wp2
  go_ret
  exact ⟨rfl, rfl⟩

set_option maxHeartbeats 400000 in
theorem keys_any (a b c : ByteArray) (w : World) :
    Calls Try.prog 5 #[.string a, .string b, .string c] w fun e w' => e = .returned (.bool true) ∧ w' = w := by
  go_enter Try.func5, Try.ntmps5
  go_wp2_with (go_at_call 14; refine (bytesKeys_any _ _ _ _).mono ?_; rintro e w' ⟨⟨q, rfl⟩, rfl⟩; cases q)
  iterate 5 (· go_ret; exact ⟨rfl, rfl⟩)
  refine (zzExpired_any a b _ (by omega) (by omega)).mono ?_
  rintro e w1 ⟨⟨s, rfl, hs⟩, rfl⟩
  have HS : Hid (s.data.toList = sqlL a.data.toList b.data.toList) := hs
  clear hs
  go_wp2_with fail
  refine (zzExpired_any a c _ (by omega) (by omega)).mono ?_
  rintro e w2 ⟨⟨s', rfl, hs'⟩, rfl⟩
  have HT := tells_key HS.out hs'
  clear hs'
  go_wp2
  go_ret
  exact ⟨rfl, rfl⟩

end Go.Proofs.Qxb6001792a
