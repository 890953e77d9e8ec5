import Derived.Test.Qxb6001764aConcat
import Derived.Deep.RegionHeld3
namespace Go.Proofs.Qxb6001764a
open Go.RowKit

/-- A key with parts of its own. -/
def MadeKey (w : World) (e : Ending) (w' : World) : Prop :=
  ∃ v' n, e = .returned (.agg #[v', .int .i64 n]) ∧ Fresh w' w.heap.size v' ∧ Below w.heap.size w w'

theorem Row.alloc {w : World} {lo : Nat} {v : Value} {zs : List Int} (h : Row w lo v zs) (o : Obj) : Row (w.alloc o) lo v zs :=
  h.keep ((Below.refl _ _).alloc (Nat.le_refl _) _)

theorem Row.drew {w : World} {lo : Nat} {v : Value} {zs : List Int} (h : Row w lo v zs) : Row w.drew lo v zs :=
  h.keep (Below.refl _ _).drew

theorem push3_0 (h : Array Obj) (a b c : Obj) : (((h.push a).push b).push c)[h.size]? = some a := by
  rw [Array.getElem?_push, if_neg (by simp; omega), Array.getElem?_push, if_neg (by simp), Array.getElem?_push, if_pos rfl]
theorem push3_1 (h : Array Obj) (a b c : Obj) : (((h.push a).push b).push c)[h.size + 1]? = some b := by
  rw [Array.getElem?_push, if_neg (by simp), Array.getElem?_push, if_pos (by simp)]
theorem push3_2 (h : Array Obj) (a b c : Obj) : (((h.push a).push b).push c)[h.size + 1 + 1]? = some c := by
  rw [Array.getElem?_push, if_pos (by simp)]
theorem heap3 (w : World) (a b c : Obj) : (((w.alloc a).alloc b).alloc c).drew.heap = ((w.heap.push a).push b).push c := rfl
theorem size3 (w : World) (a b c : Obj) : (((w.alloc a).alloc b).alloc c).drew.heap.size = w.heap.size + 1 + 1 + 1 := by rw [heap3]; simp

/-- What the caller knows behind the call of Concat. -/
def After (w : World) (u : Value) (o2 : Array Value) (e : Ending) (w1 : World) : Prop :=
  ∃ a n c, e = .returned (.slice a n c) ∧ Fresh w1 w.heap.size (.slice a n c) ∧ Below w.heap.size w w1 ∧ w1.cell? ⟨w.heap.size, 1, none⟩ = some u ∧ w1.heap[w.heap.size + 1]? = some (.cells o2 56 (0, 0))

theorem sec_call (w : World) (s : ByteArray) (u pk : Value) (ub : Bool) (o2 : Array Value) (zs ps : List Int) (hz : zs.length ≤ 1048576) (hp : ps.length ≤ 1048576) (hu : Row w 0 u zs) (hpk : Row w 0 pk ps) :
    Calls Try.prog 20 #[.slice (some ⟨w.heap.size + 1 + 1, 0, none⟩) 2 2] (((w.alloc (.cells #[.string s, u, .bool ub] 53)).alloc (.cells o2 56)).alloc (.cells #[u, pk] 28)).drew fun e w1 => After w u o2 e w1 := by
  refine (concat_any _ [zs, ps] _ (by simp) ?_ ?_).mono ?_
  · intro i hi
    match i, hi with
    | 0, _ => exact hz
    | 1, _ => exact hp
  · refine ⟨_, _, rfl, by simp, fun _ => ⟨_, _, rfl, fun i hi => ?_⟩⟩
    match i, hi with
    | 0, _ => exact ⟨u, by simp only [World.cell?, heap3, push3_2]; rfl, (((hu.alloc _).alloc _).alloc _).drew⟩
    | 1, _ => exact ⟨pk, by simp only [World.cell?, heap3, push3_2]; rfl, (((hpk.alloc _).alloc _).alloc _).drew⟩
  · rintro e w1 ⟨v', rfl, hf, hb⟩
    have hf' := hf
    obtain ⟨a, n, c, rfl, _⟩ := hf'
    refine ⟨a, n, c, rfl, hf.mono (by rw [size3]; omega), ?_, ?_, ?_⟩
    · exact ((((Below.refl _ _).alloc (Nat.le_refl _) _).alloc (by simp) _).alloc (by simp; omega) _).drew.trans (hb.mono (by rw [size3]; omega))
    · rw [hb.cell (p := ⟨w.heap.size, 1, none⟩) (by rw [size3]; show w.heap.size < _; omega)]
      simp only [World.cell?, heap3, push3_0]
      rfl
    · rw [hb.block _ (by rw [size3]; omega)]
      rw [heap3, push3_1]

set_option maxHeartbeats 400000 in
theorem secondary_any (d : Nat) (s : ByteArray) (u pk : Value) (ub : Bool) (zs ps : List Int) (w : World) (hz : zs.length ≤ 1048576) (hp : ps.length ≤ 1048576)
    (hu : Row w 0 u zs) (hpk : Row w 0 pk ps) (hd : w.cell? ⟨d, 2, none⟩ = some pk) :
    Calls Try.prog 19 #[.pointer (some ⟨d, 0, none⟩), .agg #[.string s, u, .bool ub]] w fun e w' => MadeKey w e w' := by
  have hu' := hu
  have hpk' := hpk
  obtain ⟨a1, c1, e1, hh1⟩ := hu'
  obtain ⟨a2, c2, e2, hh2⟩ := hpk'
  subst e1; subst e2
  clear hh1 hh2
  have hdl := lt_of_cell hd
  have hd1 : d ≠ w.heap.size := by omega
  have hd2 : d ≠ w.heap.size + 1 := by omega
  have hq : ∀ o1 o2 o3, (((w.alloc o1).alloc o2).alloc o3).cell? ⟨d, 2, none⟩ = some (.slice a2 ps.length c2) := fun o1 o2 o3 => by
    exact cell_keep ((((Below.refl _ _).alloc (Nat.le_refl _) _).alloc (by simp) _).alloc (by simp; omega) _) hd
  have hq2 : ∀ (W : World) (x y : Value), W.cell? ⟨d, 2, none⟩ = some (.slice a2 ps.length c2) → ((W.setCell ⟨w.heap.size + 1, 0, none⟩ x).setCell ⟨w.heap.size + 1, 1, none⟩ y).cell? ⟨d, 2, none⟩ = some (.slice a2 ps.length c2) := fun W x y h => by
    rw [World.cell?_of_block (w := W.setCell ⟨w.heap.size + 1, 0, none⟩ x) (a := ⟨d, 2, none⟩) (Below.heap_setCell _ _ _ _ hd2), World.cell?_of_block (w := W) (a := ⟨d, 2, none⟩) (Below.heap_setCell _ _ _ _ hd2)]
    exact h
  go_enter Try.func19, Try.ntmps19
  go_wp2
  go_region_held3 (fun w' => w'.cell? ⟨w.heap.size, 1, none⟩ = some (.slice a1 zs.length c1) ∧ w'.cell? ⟨d, 2, none⟩ = some (.slice a2 ps.length c2)) (go_keep) ((go_at_call 20; refine (sec_call w s (.slice a1 zs.length c1) (.slice a2 ps.length c2) ub #[.slice none 0 0, .int .i64 0] zs ps hz hp hu hpk).mono ?_; rintro e w1 ⟨a, n, c, rfl, hfr, hbl, hcl, hbk⟩; have hcd := (hbl.cell (p := ⟨d, 2, none⟩) hdl).trans hd; have hx0 : w1.cell? ⟨w.heap.size + 1, 0, none⟩ = some (.slice none 0 0) := (by simp [World.cell?, hbk]); have hx1 : w1.cell? ⟨w.heap.size + 1, 1, none⟩ = some (.int .i64 0) := (by simp [World.cell?, hbk]); have hy0 : w1.frozen? ⟨w.heap.size + 1, 0, none⟩ = false := (by simp [World.frozen?, hbk]); have hy1 : w1.frozen? ⟨w.heap.size + 1, 1, none⟩ = false := (by simp [World.frozen?, hbk]); have HB : Hid (w1.heap[w.heap.size + 1]? = some (.cells #[.slice none 0 0, .int .i64 0] 56 (0, 0))) := hbk; clear hbk))
  clear hq hq2
  go_wp2
  refine bodyPost_ret (v := .agg #[.slice a n c, .int .i64 zs.length]) (by simp [results, Try.results19, go_sem, hx0, hx1]) rfl ⟨_, _, rfl, ?_, ?_⟩
  · refine hfr.keepBut fun k arr hk => ?_
    have hne : k ≠ w.heap.size + 1 := by
      rintro rfl
      rw [HB.out] at hk
      simp at hk
    rw [Below.heap_setCell _ _ _ _ hne, Below.heap_setCell _ _ _ _ hne]
  · exact (hbl.setCell (by simp) _).setCell (by simp) _

end Go.Proofs.Qxb6001764a
