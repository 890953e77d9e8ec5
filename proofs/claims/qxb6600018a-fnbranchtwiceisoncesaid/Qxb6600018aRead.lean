import Derived.Test.Qxb6600018aNew
import Derived.Test.Qxb6600018aSame
namespace Go.Proofs.Qxb6600018a
open Go.RowKit

set_option maxHeartbeats 400000 in
theorem hit_any (lo eb : Nat) (db : Int) (hit fl : Bool) (zss : List (List Int)) (w : World) (h : Srch w lo eb db hit fl zss) :
    Calls Try.prog 29 #[.pointer (some ⟨eb, 0, none⟩)] w fun e w' => e = .returned (.bool hit) ∧ w' = w := by
  obtain ⟨arr, pb, c, parr, _, he, h1, h2, h7, _, _⟩ := h
  have c7 : w.cell? ⟨eb, 7, none⟩ = some (.bool hit) := by rw [cell_at he, h7]
  clear he h1 h2 h7
  go_enter Try.func29, Try.ntmps29
  go_wp2
  go_ret
  exact ⟨rfl, rfl⟩

/-- The list of one yield point is handed back. -/
def Back (w : World) (fl : Bool) (zs : List Int) (e : Ending) : Prop := ∃ v, e = .returned v ∧ RowB w fl v zs

set_option maxHeartbeats 400000 in
theorem back_any (lo eb : Nat) (db : Int) (hit fl : Bool) (zss : List (List Int)) (w : World) (h : Srch w lo eb db hit fl zss) (j : Nat) (hj : j < zss.length) :
    Calls Try.prog 31 #[.pointer (some ⟨eb, 0, none⟩), .int .i64 j] w fun e w' => Back w fl (zss.getD j []) e ∧ w' = w := by
  obtain ⟨arr, pb, c, parr, _, he, h1, h2, h7, _, hp, hps, hx⟩ := h
  obtain ⟨g1, barr, v, g2, g3, g4⟩ := hx j hj
  have c2 : w.cell? ⟨eb, 2, none⟩ = some (.slice (some ⟨pb, 0, none⟩) zss.length c) := by rw [cell_at he, h2]
  have cp : w.cell? ⟨pb, j, none⟩ = some (.pointer (some ⟨pb + 1 + j, 0, none⟩)) := by rw [cell_at hp, g1]
  have cb : w.cell? ⟨pb + 1 + j, 3, none⟩ = some v := by rw [cell_at g2, g3]
  have HB : Hid (RowB w fl v (zss.getD j [])) := g4
  obtain ⟨d, e, hv, hh⟩ := g4
  generalize (zss.getD j []).length = nj at hv
  subst hv
  clear he h1 h2 h7 hp hps hx g1 g2 g3 hh
  go_enter Try.func31, Try.ntmps31
  go_wp2
  go_ret
  exact ⟨⟨_, rfl, HB.out⟩, rfl⟩

theorem Srch.keep {w w' : World} {lo eb : Nat} {db : Int} {hit fl : Bool} {zss : List (List Int)} (h : Srch w lo eb db hit fl zss) (hb : Below w.heap.size w w') : Srch w' lo eb db hit fl zss := by
  obtain ⟨arr, pb, c, parr, hlo, he, h1, h2, h7, hlp, hp, hps, hx⟩ := h
  refine ⟨arr, pb, c, parr, hlo, (hb.block _ (block_lt he)).trans he, h1, h2, h7, hlp, (hb.block _ (block_lt hp)).trans hp, hps, fun j hj => ?_⟩
  obtain ⟨g1, barr, v, g2, g3, g4⟩ := hx j hj
  exact ⟨g1, barr, v, (hb.block _ (block_lt g2)).trans g2, g3, g4.keep (IntsKept.of_below hb)⟩

set_option maxHeartbeats 400000 in
theorem sameSearch_any (lo1 lo2 e1 e2 : Nat) (db1 db2 : Int) (hit f1 f2 : Bool) (zss : List (List Int)) (w : World) (h1 : Srch w lo1 e1 db1 hit f1 zss) (h2 : Srch w lo2 e2 db2 hit f2 zss) (hz : zss.length ≤ 1048576) (hzi : ∀ i, i < zss.length → (zss.getD i []).length ≤ 1048577) :
    Calls Try.prog 36 #[.pointer (some ⟨e1, 0, none⟩), .pointer (some ⟨e2, 0, none⟩), .int .i64 zss.length] w fun e w' => e = .returned (.bool true) ∧ ∃ n, w' = w.drewN n := by
  go_enter Try.func36, Try.ntmps36
  go_wp2_with fail
  refine (hit_any lo1 e1 db1 hit f1 zss _ h1).mono ?_
  rintro e w1 ⟨rfl, rfl⟩
  go_wp2_with fail
  refine (hit_any lo2 e2 db2 hit f2 zss _ h2).mono ?_
  rintro e w2 ⟨rfl, rfl⟩
  go_wp2
  go_loopw [7] (fun i wr => ∃ k : Nat, k ≤ zss.length ∧ i = .int .i64 k ∧ Drew w2 wr) (fun i _ => zss.length - (intOf i).toNat)
  case atStart => exact ⟨0, Nat.zero_le _, rfl, Drew.refl _⟩
  case round =>
    obtain ⟨k, hk, rfl, hd⟩ := hrel
    by_cases hlt : k < zss.length
    · have s1 := h1.keep (hd.below _)
      have s2 := h2.keep (hd.below _)
      have HZ : Hid ((zss.getD k []).length ≤ 1048577) := hzi k hlt
      clear h1 h2 hzi
      go_wp2_with fail
      refine (back_any lo1 e1 db1 hit f1 zss _ s1 k hlt).mono ?_
      rintro e w3 ⟨⟨u1, rfl, r1⟩, rfl⟩
      go_wp2_with fail
      refine (back_any lo2 e2 db2 hit f2 zss _ s2 k hlt).mono ?_
      rintro e w4 ⟨⟨u2, rfl, r2⟩, rfl⟩
      clear s1 s2
      go_wp2_with fail
      refine (same_same u1 u2 (zss.getD k []) _ 0 0 (by have := HZ.out; omega) r1.row r2.row).mono ?_
      rintro e w5 ⟨rfl, nd, rfl⟩
      clear r1 r2
      go_wp2
      go_roundw
      case rel => exact ⟨k + 1, by omega, by go_num, hd.trans (Drew.drewN _ _)⟩
      case measure => simp [intOf]; omega
    · go_wp2
      go_ret
      exact ⟨rfl, hd⟩

end Go.Proofs.Qxb6600018a
