import Derived.Test.Qxb6600119aMarshal
import Derived.Deep.QuietTactic
import Derived.BigQuiet
namespace Go.Proofs.Qxb6600119a
open Go.RowKit

theorem wraps31 (n : Int) (h0 : 0 ≤ n) (h1 : n < 2 ^ 31) : IntKind.i64.wrap n = n := by rw [IntKind.wrap_i64]; omega

theorem or1 (x y : Int) (x0 : 0 ≤ x) (x1 : x ≤ 255) (y0 : 0 ≤ y) (y1 : y ≤ 255) : bits .or .i64 (x * 65536) (y * 256) = x * 65536 + y * 256 :=
  bits_join .i64 31 (by decide) wraps31 16 (x * 65536) (y * 256) (by omega) (by omega) (by omega) (by omega) (by omega) (by omega)
theorem or2 (x y z : Int) (x0 : 0 ≤ x) (x1 : x ≤ 255) (y0 : 0 ≤ y) (y1 : y ≤ 255) (z0 : 0 ≤ z) (z1 : z ≤ 255) : bits .or .i64 (x * 65536 + y * 256) z = x * 65536 + y * 256 + z :=
  bits_join .i64 31 (by decide) wraps31 8 (x * 65536 + y * 256) z (by omega) (by omega) (by omega) (by omega) (by omega) (by omega)

theorem ret_int {k : IntKind} {a b : Int} (h : a = b) : Ending.returned (.int k a) = .returned (.int k b) := by rw [h]

set_option maxHeartbeats 400000 in
theorem u24_any (b off n c at_ : Nat) (x y z : Int) (w : World) (hn : n ≤ 16777216) (h : at_ + 2 < n) (hx : w.cell? ⟨b, off + at_, none⟩ = some (.int .u8 x)) (hy : w.cell? ⟨b, off + (at_ + 1), none⟩ = some (.int .u8 y)) (hz : w.cell? ⟨b, off + (at_ + 2), none⟩ = some (.int .u8 z))
    (x0 : 0 ≤ x) (x1 : x ≤ 255) (y0 : 0 ≤ y) (y1 : y ≤ 255) (z0 : 0 ≤ z) (z1 : z ≤ 255) :
    Calls Try.prog 43 #[.slice (some ⟨b, off, none⟩) n c, .int .i64 at_] w fun e w' => e = .returned (.int .i64 (x * 65536 + y * 256 + z)) ∧ ∃ nd, w' = w.drewN nd := by
  have h1 : (at_ : Int) < (n : Int) := by omega
  have h2 : (at_ : Int) + 1 < (n : Int) := by omega
  have h3 : (at_ : Int) + 2 < (n : Int) := by omega
  go_enter Try.func43, Try.ntmps43
  go_wp2
  go_quiet (fail)
  go_wp2
  go_ret
  exact ⟨ret_int (by rw [or1 x y x0 x1 y0 y1, or2 x y z x0 x1 y0 y1 z0 z1]), nq, rfl⟩

theorem getD_mid {L X Y : List Int} {j : Nat} {M : List Int} (hL : L = X ++ (M ++ Y)) (hj : j < M.length) : L.getD (X.length + j) 0 = M.getD j 0 := by
  rw [hL, List.getD, List.getElem?_append_right (by omega), Nat.add_sub_cancel_left, List.getElem?_append_left hj, List.getD]

theorem hd3 (n : Nat) : (hd 3 n 3).getD 0 0 = byteAt n 2 ∧ (hd 3 n 3).getD 1 0 = byteAt n 1 ∧ (hd 3 n 3).getD 2 0 = byteAt n 0 := ⟨rfl, rfl, rfl⟩

theorem hd3_value {n : Nat} (h : n ≤ 16777215) : byteAt n 2 * 65536 + byteAt n 1 * 256 + byteAt n 0 = (n : Int) := by
  rw [byte2 h, byte1, byte0]
  omega

theorem byteAt_bd (n i : Nat) : 0 ≤ byteAt n i ∧ byteAt n i ≤ 255 := by
  unfold byteAt
  omega

theorem hd_bytes (p n k : Nat) : Bytes (hd p n k) := by
  intro z hz
  obtain ⟨j, _, rfl⟩ := List.mem_map.1 hz
  by_cases h : p - 1 - j < k
  · rw [if_pos h]; exact byteAt_bd _ _
  · rw [if_neg h]; omega

/-- zzU24 where a length stands. -/
theorem u24_at (v : Value) (L X Y : List Int) (n at_ : Nat) (w : World) (hr : Row w 0 v L) (hL : L = X ++ (hd 3 n 3 ++ Y)) (hat : at_ = X.length) (hn : n ≤ 16777215) (hl : L.length ≤ 16777216) :
    Calls Try.prog 43 #[v, .int .i64 at_] w fun e w' => e = .returned (.int .i64 n) ∧ ∃ nd, w' = w.drewN nd := by
  have hlen : L.length = X.length + 3 + Y.length := by rw [hL]; simp [hd_length]; omega
  obtain ⟨a, c, rfl, _, hx⟩ := hr
  obtain ⟨b, off, rfl, _, hc⟩ := hx (by omega)
  have e0 : L.getD at_ 0 = byteAt n 2 := by rw [hat, ← (hd3 n).1]; exact getD_mid (j := 0) hL (by rw [hd_length]; omega)
  have e1 : L.getD (at_ + 1) 0 = byteAt n 1 := by rw [hat, ← (hd3 n).2.1]; exact getD_mid (j := 1) hL (by rw [hd_length]; omega)
  have e2 : L.getD (at_ + 2) 0 = byteAt n 0 := by rw [hat, ← (hd3 n).2.2]; exact getD_mid (j := 2) hL (by rw [hd_length]; omega)
  have c0 := hc at_ (by omega)
  have c1 := hc (at_ + 1) (by omega)
  have c2 := hc (at_ + 2) (by omega)
  rw [e0] at c0
  rw [e1] at c1
  rw [e2] at c2
  have := u24_any b off L.length c at_ (byteAt n 2) (byteAt n 1) (byteAt n 0) w hl (by omega) c0 c1 c2 (byteAt_bd _ _).1 (byteAt_bd _ _).2 (byteAt_bd _ _).1 (byteAt_bd _ _).2 (byteAt_bd _ _).1 (byteAt_bd _ _).2
  rw [hd3_value hn] at this
  exact this

end Go.Proofs.Qxb6600119a
