import Derived.Test.Qxb6600018aStep
import Derived.Test.Qxb6600018aSize
namespace Go.Proofs.Qxb6600018a
open Go.RowKit

theorem Row.below {w w' : World} {lo B : Nat} {v : Value} {zs : List Int} (h : Row w lo v zs) (hb : Below B w w') (hB : w.heap.size ≤ B) : Row w' lo v zs := h.keep (hb.mono hB)

set_option maxHeartbeats 1000000 in
theorem law_any (db k first second : Int) (v1 v3 : Value) (zss : List (List Int)) (ts : List Int) (w : World) (h1 : Rows2 w v1 zss) (h3 : Row w 0 v3 ts) :
    Calls Try.prog 7 #[.int .i64 db, v1, .int .i64 k, v3, .int .i64 first, .int .i64 second] w fun e w' => e = .returned (.bool true) ∧ Below w.heap.size w w' := by
  have h1' := h1
  have h3' := h3
  obtain ⟨a1, c1, e1, hh1⟩ := h1'
  obtain ⟨a3, c3, e3, hh3⟩ := h3'
  subst e1; subst e3
  clear hh1 hh3
  go_enter Try.func7, Try.ntmps7
  go_wp2_with fail
  refine (zzBytes_any db k first second _ _ ts zss _ h1 h3).mono ?_
  rintro e w0 ⟨⟨b, rfl⟩, hw0⟩
  rw [hw0]
  clear hw0
  cases b
  · go_wp2
    go_ret
    exact ⟨rfl, Below.refl _ _⟩
  go_wp2_with fail
  refine (branchBytes_any _ _ ts zss _ h1 h3).mono ?_
  rintro e w0 ⟨⟨r, rfl, hr⟩, hw0⟩
  rw [hw0]
  clear hw0
  by_cases q1 : 1048576 < r
  · clear hr
    go_wp2
    go_ret
    exact ⟨rfl, Below.refl _ _⟩
  obtain ⟨htl, hzl, hzi⟩ := hr (by omega)
  have HZI : Hid (∀ i, i < zss.length → (zss.getD i []).length ≤ 1048576) := hzi
  clear hr hzi
  by_cases q2 : k < 0
  · have d2 : decide (k < 0) = true := by simpa using q2
    go_wp2
    go_ret
    exact ⟨rfl, Below.refl _ _⟩
  have d2 : decide (k < 0) = false := by simpa using q2
  by_cases q3 : (zss.length : Int) ≤ k
  · have d3 : decide ((zss.length : Int) ≤ k) = true := by simpa using q3
    go_wp2
    go_ret
    exact ⟨rfl, Below.refl _ _⟩
  have d3 : decide ((zss.length : Int) ≤ k) = false := by simpa using q3
  by_cases q4 : ts.length = 0
  · have d4 : ((ts.length : Int) == 0) = true := by simpa using q4
    clear q4
    go_wp2
    go_ret
    exact ⟨rfl, Below.refl _ _⟩
  have d4 : ((ts.length : Int) == 0) = false := by simpa using q4
  have HQ4 : Hid (ts.length ≠ 0) := q4
  clear q4
  obtain ⟨k, rfl⟩ := Int.eq_ofNat_of_zero_le (show 0 ≤ k by omega)
  have hk : k < zss.length := by omega
  clear q2
  go_wp2_with fail
  refine (cloneNested_any _ zss _ hzl HZI.out h1).mono ?_
  rintro e w1 ⟨bt, rfl, hbt, b1⟩
  replace h3 := h3.keep b1
  clear d2 d3 q3 h1
  go_wp2_with fail
  refine (cloneInts_any _ ts _ htl h3).mono ?_
  rintro e w2 ⟨tv, rfl, htv, b2⟩
  replace hbt := hbt.keep b2
  have ht := htv.row
  have b02 : Below w.heap.size w w2 := b1.trans (b2.mono b1.size)
  clear h3 htv b1 b2
  go_wp2_with fail
  refine (cloneNested_any _ zss _ hzl HZI.out hbt.rows).mono ?_
  rintro e w3 ⟨bt3, rfl, hbt3, b3⟩
  go_wp2_with fail
  refine (new_any db _ zss _ hzl hbt3).mono ?_
  rintro e w4 ⟨e1, rfl, s4, b4⟩
  have b24 : Below w2.heap.size w2 w4 := b3.trans (b4.mono b3.size)
  clear hbt3
  go_wp2_with fail
  refine (zzBranch_first w3.heap.size e1 db zss k tv ts first _ s4 hk (HZI.out k hk) (ht.keep b24) HQ4.out htl).mono ?_
  rintro e w5 ⟨rfl, ⟨f5, s5⟩, b5⟩
  have b25 : Below w2.heap.size w2 w5 := b24.trans (b5.mono b3.size)
  have hbt5 := hbt.keep b25
  clear b24 b3 b4 b5 s4 hbt
  go_wp2_with fail
  refine (cloneNested_any _ zss _ hzl HZI.out hbt5.rows).mono ?_
  rintro e w6 ⟨bt6, rfl, hbt6, b6⟩
  replace s5 := s5.keep b6
  have b26 : Below w2.heap.size w2 w6 := b25.trans (b6.mono b25.size)
  clear b25
  go_wp2_with fail
  refine (new_any db _ zss _ hzl hbt6).mono ?_
  rintro e w7 ⟨e2, rfl, s7, b7⟩
  clear hbt6
  have b27 : Below w2.heap.size w2 w7 := b26.trans (b7.mono b26.size)
  go_wp2_with fail
  refine (zzBranch_first w6.heap.size e2 db zss k tv ts first _ s7 hk (HZI.out k hk) (ht.keep b27) HQ4.out htl).mono ?_
  rintro e w8 ⟨rfl, ⟨f8, s8⟩, b8⟩
  have b28 : Below w2.heap.size w2 w8 := b27.trans (b8.mono b26.size)
  clear s7 b27
  go_wp2_with fail
  refine (zzBranch_again w6.heap.size e2 db f8 zss k tv ts first second _ s8 hk HZI.out (ht.keep b28) HQ4.out htl).mono ?_
  rintro e w9 ⟨rfl, ⟨f9, s9⟩, b9⟩
  replace s5 := s5.keep (b7.trans (b8.trans b9))
  have b29 : Below w2.heap.size w2 w9 := b28.trans (b9.mono b26.size)
  have HL := outRows_length db k zss ts first
  have hs := outRows_small (db := db) (ts := ts) (first := first) hk HZI.out
  have b09 : Below w.heap.size w w9 := b02.trans (b29.mono b02.size)
  clear s8 b6 b7 b8 b9 b28 b29 b02 b26
  have hfin := sameSearch_any w3.heap.size w6.heap.size e1 e2 db db (outHit db k) f5 f9 (outRows db k zss ts first) w9 s5 s9 (by rw [HL]; exact hzl) hs
  rw [HL] at hfin
  have HFIN : Hid (Calls Try.prog 36 #[.pointer (some ⟨e1, 0, none⟩), .pointer (some ⟨e2, 0, none⟩), .int .i64 zss.length] w9 fun e w' => e = .returned (.bool true) ∧ ∃ n, w' = w9.drewN n) := hfin
  clear hfin HL hs s5 s9
  have hbt' := hbt5.rows
  obtain ⟨ba, bc, hv, _⟩ := hbt'
  subst hv
  clear hbt5
  go_wp2_with fail
  refine HFIN.out.mono ?_
  rintro e w10 ⟨rfl, nd, rfl⟩
  go_wp2
  go_ret
  exact ⟨rfl, b09.trans (below_drewN _ _)⟩

end Go.Proofs.Qxb6600018a
