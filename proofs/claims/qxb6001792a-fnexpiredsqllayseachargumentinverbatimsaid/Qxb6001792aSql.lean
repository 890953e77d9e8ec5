import Derived.Test.Qxb6001792aRows
import Derived.WalkKit
import Derived.WalkSpells
import Derived.WalkLawsBesides
namespace Go.Proofs.Qxb6001792a
open Go.RowKit

def sA : List UInt8 := [10, 87, 73, 84, 72, 32, 115, 119, 101, 112, 116, 32, 65, 83, 32, 40, 10, 9, 68, 69, 76, 69, 84, 69, 32, 70, 82, 79, 77, 32]
def sB : List UInt8 := [10, 9, 87, 72, 69, 82, 69, 32, 40]
def sC : List UInt8 := [41, 32, 73, 78, 32, 40, 10, 9, 9, 83, 69, 76, 69, 67, 84, 32]
def sD : List UInt8 := [32, 70, 82, 79, 77, 32]
def sE : List UInt8 := [10, 9, 9, 87, 72, 69, 82, 69, 32, 101, 120, 112, 105, 114, 101, 115, 95, 97, 116, 32, 60, 61, 32, 115, 116, 97, 116, 101, 109, 101, 110, 116, 95, 116, 105, 109, 101, 115, 116, 97, 109, 112, 40, 41, 32, 65, 78, 68, 32, 101, 120, 112, 105, 114, 101, 115, 95, 97, 116, 32, 62, 61, 32, 99, 111, 97, 108, 101, 115, 99, 101, 40, 36, 50, 58, 58, 116, 105, 109, 101, 115, 116, 97, 109, 112, 116, 122, 44, 32, 39, 45, 105, 110, 102, 105, 110, 105, 116, 121, 39, 41, 10, 9, 9, 79, 82, 68, 69, 82, 32, 66, 89, 32, 101, 120, 112, 105, 114, 101, 115, 95, 97, 116, 10, 9, 9, 76, 73, 77, 73, 84, 32, 36, 49, 10, 9, 9, 70, 79, 82, 32, 85, 80, 68, 65, 84, 69, 32, 83, 75, 73, 80, 32, 76, 79, 67, 75, 69, 68, 10, 9, 41, 10, 9, 82, 69, 84, 85, 82, 78, 73, 78, 71, 32, 101, 120, 112, 105, 114, 101, 115, 95, 97, 116, 10, 41, 10, 83, 69, 76, 69, 67, 84, 32, 99, 111, 117, 110, 116, 40, 42, 41, 44, 32, 109, 97, 120, 40, 101, 120, 112, 105, 114, 101, 115, 95, 97, 116, 41, 32, 70, 82, 79, 77, 32, 115, 119, 101, 112, 116]

/-- The statement's bytes. -/
def sqlL (t k : List UInt8) : List UInt8 := sA ++ (t ++ (sB ++ (k ++ (sC ++ (k ++ (sD ++ (t ++ sE)))))))

/-- It returns the statement. -/
def IsSql (t k : ByteArray) (e : Ending) : Prop := ∃ s : ByteArray, e = .returned (.string s) ∧ s.data.toList = sqlL t.data.toList k.data.toList

theorem join (t k : ByteArray) : (((((((((⟨sA.toArray⟩ : ByteArray) ++ t) ++ ⟨sB.toArray⟩) ++ k) ++ ⟨sC.toArray⟩) ++ k) ++ ⟨sD.toArray⟩) ++ t) ++ ⟨sE.toArray⟩).data.toList = sqlL t.data.toList k.data.toList := by
  simp only [ByteArray.data_append, Array.toList_append, List.append_assoc, sqlL]

set_option maxRecDepth 100000 in
set_option maxHeartbeats 400000 in
theorem expired_any (t k : ByteArray) (w : World) (ht : t.size ≤ 1048576) (hk : k.size ≤ 1048576) :
    Calls Try.prog 27 #[.string t, .string k] w fun e w' => IsSql t k e ∧ w' = w := by
  go_enter Try.func27, Try.ntmps27
  go_wp2
  go_ret
  exact ⟨⟨_, rfl, join t k⟩, rfl⟩

set_option maxHeartbeats 400000 in
theorem zzExpired_any (t k : ByteArray) (w : World) (ht : t.size ≤ 1048576) (hk : k.size ≤ 1048576) :
    Calls Try.prog 9 #[.string t, .string k] w fun e w' => IsSql t k e ∧ w' = w := by
  go_enter Try.func9, Try.ntmps9
  go_wp2_with (go_at_call 27; refine (expired_any _ _ _ ht hk).mono ?_; rintro e w' ⟨⟨s, rfl, hs⟩, rfl⟩)
  go_ret
  exact ⟨⟨s, rfl, hs⟩, rfl⟩

end Go.Proofs.Qxb6001792a
