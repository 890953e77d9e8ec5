import Derived.Test.Qxb6001792aSql
import Derived.Deep.QuietTactic
import Derived.Deep.Draws
import Derived.BigQuiet
namespace Go.Proofs.Qxb6001792a
open Go.RowKit

set_option maxHeartbeats 400000 in
theorem firstDiff_any (a b : ByteArray) (p : Nat) (w : World) (ha : a.size ≤ 8388608) (hb : b.size ≤ 8388608) (hpa : p < a.size) (hpb : p < b.size) (hsame : ∀ i (h1 : i < a.size) (h2 : i < b.size), i < p → a[i] = b[i]) (hdiff : a[p] ≠ b[p]) :
    Calls Try.prog 11 #[.string a, .string b] w fun e w' => e = .returned (.int .i64 p) ∧ ∃ n, w' = w.drewN n := by
  go_enter Try.func11, Try.ntmps11
  go_wp2
  all_goals
    go_loopw [6] (fun i wr => ∃ k : Nat, k ≤ p ∧ i = .int .i64 k ∧ ∃ n, wr = w.drewN n) (fun i _ => p + 1 - (intOf i).toNat)
    case atStart => exact ⟨0, Nat.zero_le _, rfl, 0, rfl⟩
    case round =>
      obtain ⟨k, hk, rfl, n, rfl⟩ := hrel
      by_cases hlt : k < p
      · have hka : k < a.size := by omega
        have hkb : k < b.size := by omega
        have hka' : (k : Int) < (a.size : Int) := by omega
        have hkb' : (k : Int) < (b.size : Int) := by omega
        have e := hsame k (by omega) (by omega) hlt
        clear hsame hdiff
        go_wp2
        go_quiet (fail)
        go_wp2
        go_roundw
        case rel => exact ⟨k + 1, by omega, by go_num, _, rfl⟩
        case measure => simp [intOf]; omega
      · obtain rfl : k = p := by omega
        have hpa' : (k : Int) < (a.size : Int) := by omega
        have hpb' : (k : Int) < (b.size : Int) := by omega
        have hne : ((a[k].toNat : Int) == (b[k].toNat : Int)) = false := by
          rw [beq_eq_false_iff_ne]
          intro h
          exact hdiff (UInt8.toNat_inj.1 (by omega))
        clear hsame hdiff
        go_wp2
        go_quiet (fail)
        go_wp2
        go_ret
        exact ⟨rfl, n + nq, by rw [World.drewN_drewN]⟩
set_option maxHeartbeats 400000 in
theorem suffix_any (a b : ByteArray) (p : Nat) (w : World) (ha : a.size ≤ 8388608) (hb : b.size ≤ 8388608) (hpa : p < a.size) (hpb : p < b.size)
    (hsame : ∀ i (h1 : a.size - 1 - i < a.size) (h2 : b.size - 1 - i < b.size), i < p → a[a.size - 1 - i] = b[b.size - 1 - i]) (hdiff : ∀ (h1 : a.size - 1 - p < a.size) (h2 : b.size - 1 - p < b.size), a[a.size - 1 - p] ≠ b[b.size - 1 - p]) :
    Calls Try.prog 12 #[.string a, .string b] w fun e w' => e = .returned (.int .i64 p) ∧ ∃ n, w' = w.drewN n := by
  go_enter Try.func12, Try.ntmps12
  go_wp2
  go_loopw [5] (fun i wr => ∃ k : Nat, k ≤ p ∧ i = .int .i64 k ∧ ∃ n, wr = w.drewN n) (fun i _ => p + 1 - (intOf i).toNat)
  case atStart => exact ⟨0, Nat.zero_le _, rfl, 0, rfl⟩
  case round =>
    obtain ⟨k, hk, rfl, n, rfl⟩ := hrel
    have hka : k < a.size := by omega
    have hkb : k < b.size := by omega
    have hka' : (k : Int) < (a.size : Int) := by omega
    have hkb' : (k : Int) < (b.size : Int) := by omega
    have hia : (a.size : Int) - 1 - (k : Int) = ((a.size - 1 - k : Nat) : Int) := by omega
    have hib : (b.size : Int) - 1 - (k : Int) = ((b.size - 1 - k : Nat) : Int) := by omega
    have hja : a.size - 1 - k < a.size := by omega
    have hjb : b.size - 1 - k < b.size := by omega
    by_cases hlt : k < p
    · have e := hsame k hja hjb hlt
      clear hsame hdiff
      go_wp2
      go_quiet (fail)
      go_wp2
      go_roundw
      case rel => exact ⟨k + 1, by omega, by go_num, _, rfl⟩
      case measure => simp [intOf]; omega
    · obtain rfl : k = p := by omega
      have hne : ((a[a.size - 1 - k].toNat : Int) == (b[b.size - 1 - k].toNat : Int)) = false := by
        rw [beq_eq_false_iff_ne]
        intro h
        exact hdiff hja hjb (UInt8.toNat_inj.1 (by omega))
      clear hsame hdiff
      go_wp2
      go_quiet (fail)
      go_wp2
      go_ret
      exact ⟨rfl, n + nq, by rw [World.drewN_drewN]⟩

set_option maxHeartbeats 400000 in
theorem hasAt_any (s part : ByteArray) (at_ : Nat) (w : World) (hs : s.size ≤ 8388608) (hp : at_ + part.size ≤ s.size)
    (hsame : ∀ i (h1 : at_ + i < s.size) (h2 : i < part.size), s[at_ + i] = part[i]) :
    Calls Try.prog 10 #[.string s, .int .i64 at_, .string part] w fun e w' => e = .returned (.bool true) ∧ ∃ n, w' = w.drewN n := by
  have d1 : decide ((at_ : Int) < 0) = false := by simp
  have d2 : decide ((s.size : Int) < (at_ : Int)) = false := by simp; omega
  have d3 : decide ((s.size : Int) - (at_ : Int) < (part.size : Int)) = false := by simp; omega
  go_enter Try.func10, Try.ntmps10
  go_wp2
  go_loopw [7] (fun i wr => ∃ k : Nat, k ≤ part.size ∧ i = .int .i64 k ∧ ∃ n, wr = w.drewN n) (fun i _ => part.size - (intOf i).toNat)
  case atStart => exact ⟨0, Nat.zero_le _, rfl, 0, rfl⟩
  case round =>
    obtain ⟨k, hk, rfl, n, rfl⟩ := hrel
    by_cases hlt : k < part.size
    · have hks : at_ + k < s.size := by omega
      have hlt' : (k : Int) < (part.size : Int) := by omega
      have e := hsame k hks hlt
      obtain ⟨m, hm⟩ : ∃ m, m = at_ + k := ⟨_, rfl⟩
      have hw : IntKind.i64.wrap ((at_ : Int) + (k : Int)) = (m : Int) := by rw [IntKind.wrap_i64]; omega
      have hms : m < s.size := by omega
      have hms' : (m : Int) < (s.size : Int) := by omega
      have e' : s[m] = part[k] := by simp only [hm]; exact e
      clear hsame d1 d2 d3 e hks hm
      go_wp2
      go_quiet (fail)
      go_wp2
      go_roundw
      case rel => exact ⟨k + 1, by omega, by go_num, _, rfl⟩
      case measure => simp [intOf]; omega
    · clear hsame
      go_wp2
      go_ret
      exact ⟨rfl, n, rfl⟩

end Go.Proofs.Qxb6001792a
