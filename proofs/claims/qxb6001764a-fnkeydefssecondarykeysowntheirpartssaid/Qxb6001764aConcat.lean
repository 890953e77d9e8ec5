import Derived.Test.Qxb6001764aClone
import Derived.Lib.AppendZeros
import Derived.Laws.AppendOwnNone
namespace Go.Proofs.Qxb6001764a
open Go.RowKit

/-- A row of the call's own, empty. -/
def Grew (w : World) (e : Ending) (w' : World) : Prop :=
  ∃ v', e = .returned v' ∧ w'.ownsRow w.heap.size 3 1 v' 0 [] ∧ Below w.heap.size w w'

set_option maxHeartbeats 400000 in
theorem grow_nil (n : Nat) (w : World) (hn : n ≤ 1073741824) :
    Calls Try.prog 21 #[.slice none 0 0, .int .i64 n] w fun e w' => Grew w e w' := by
  by_cases h0 : n = 0
  · subst h0
    go_enter Try.func21, Try.ntmps21
    go_wp2
    go_ret
    exact ⟨_, rfl, World.ownsRow_nil _ _ _ _, Below.refl _ _⟩
  · obtain ⟨i0, hi, hz0, hz1, hz2⟩ := info_parts Try.info3
    have hr := fun ty => Lib.run_append_nil_zeros (P := Try.prog) w 28 3 ty 3 i0 (.int .i64 0) .i64 .i64 Try.underlying28 Try.underlying3 hi hz0 n (by omega) (by omega) (by omega) (by rw [hz2]; omega)
    have hge := grownCap_ge w n 0 3
    have hle := grownCap_le_maxLen w n 0 3 (by unfold maxLen; omega)
    have hown : (w.drew.alloc (.cells (Builtin.zeroCells (Value.int .i64 0).cells n ++ Builtin.zeroCells (Value.int .i64 0).cells (grownCap w n 0 3 - n)) 3)).ownsRow w.heap.size 3 1 (.slice (some ⟨w.heap.size, 0, none⟩) 0 (grownCap w n 0 3)) 0 [] :=
      World.ownsRow_made w.drew _ _ (Nat.le_refl _) hle (by simp [size_zeroCells, Value.cells]; omega)
    generalize grownCap w n 0 3 = G at hr hge hle hown
    unfold maxLen at hle
    have hpos : (0 : Int) < (n : Int) := by omega
    go_enter Try.func21, Try.ntmps21
    go_wp2_with (at_builtin; refine Lib.wpList_append_run _ rfl _ _ _ _ rfl _ _ rfl rfl _ _ (hr _) ?_)
    go_ret
    exact ⟨_, rfl, hown, ((Below.refl _ w).drew).alloc (Nat.le_refl _) _⟩

/-- Fresh memory has been made; nothing old has turned. -/
def Made1 (w : World) (e : Ending) (w' : World) : Prop :=
  ∃ v', e = .returned v' ∧ Fresh w' w.heap.size v' ∧ Below w.heap.size w w'

/-- What has been gathered so far. -/
def Gath (B k : Nat) (w wr : World) (v : Value) : Prop :=
  ∃ m xs, wr.ownsRow B 3 1 v m xs ∧ (∀ x ∈ xs, ∃ z, x = .int .i64 z) ∧ m ≤ k * 1048576 ∧ Below B w wr

theorem Gath.more {B k : Nat} {w wr : World} {v : Value} (h : Gath B k w wr v) : Gath B (k + 1) w wr v := by
  obtain ⟨m, xs, h1, h2, h3, h4⟩ := h
  have h5 : m ≤ (k + 1) * 1048576 := Nat.le_trans h3 (Nat.mul_le_mul_right _ (Nat.le_succ k))
  exact ⟨m, xs, h1, h2, h5, h4⟩

theorem row_news {w : World} {lo : Nat} {ad : Addr} {c : Nat} {zs : List Int} (h : Row w lo (.slice (some ad) zs.length c) zs) : ∀ j u, (zs.map (Value.int .i64))[j]? = some u → w.cell? (ad.add j) = some u := by
  intro j u hj
  obtain ⟨a', c', hv, _, hc⟩ := h
  simp only [Value.slice.injEq] at hv
  obtain ⟨ha, _, rfl⟩ := hv
  subst ha
  have hlt : j < zs.length := by
    have := (List.getElem?_eq_some_iff.1 hj).1
    simpa using this
  obtain ⟨b, off, hb, _, hx⟩ := hc (by omega)
  obtain rfl := Option.some.inj hb
  have e : (⟨b, off, none⟩ : Addr).add j = ⟨b, off + j, none⟩ := by unfold Addr.add; split <;> simp_all
  rw [e, hx j hlt]
  simp only [List.getElem?_map, List.getElem?_eq_getElem hlt, Option.map_some, Option.some.injEq] at hj
  rw [← hj]
  simp [List.getD, List.getElem?_eq_getElem hlt]

set_option maxHeartbeats 400000 in
theorem concat_any (v : Value) (zss : List (List Int)) (w : World) (hz : zss.length ≤ 512) (hzi : ∀ i, i < zss.length → (zss.getD i []).length ≤ 1048576) (h : Rows2 w v zss) :
    Calls Try.prog 20 #[v] w fun e w' => Made1 w e w' := by
  obtain ⟨a, c, rfl, hnil, hc⟩ := h
  obtain ⟨i0, hi, hz0, hz1, hz2⟩ := info_parts Try.info3
  go_enter Try.func20, Try.ntmps20
  go_wp2
  go_loop [3, 11] (fun t i => ∃ (k s : Nat), k ≤ zss.length ∧ i = .int .i64 k ∧ t = .int .i64 s ∧ s ≤ k * 1048576) (fun _ i => zss.length - (intOf i).toNat)
  case atStart => exact ⟨0, 0, Nat.zero_le _, rfl, rfl, by omega⟩
  case round =>
    obtain ⟨k, s, hk, rfl, rfl, hs⟩ := hrel
    by_cases hlt : k < zss.length
    · obtain ⟨b2, o2, rfl, x2⟩ := hc (by omega)
      obtain ⟨u2, y2, r2⟩ := x2 k hlt
      have hzk := hzi k hlt
      generalize zss.getD k [] = zk at r2 hzk
      obtain ⟨d2, e2, hu2, _⟩ := r2
      subst hu2
      clear x2 hc hzi
      go_wp2
      go_round
      case rel => exact ⟨k + 1, s + zk.length, by omega, by go_num, by go_num, by omega⟩
      case measure => simp [intOf]; omega
    · have hsb : s ≤ 1073741824 := by omega
      go_wp2_with fail
      refine (grow_nil s _ hsb).mono ?_
      rintro e w1 ⟨v1, rfl, hown1, hbel1⟩
      have hg1 : Gath w.heap.size 0 w w1 v1 := ⟨0, [], hown1, by simp, by omega, hbel1⟩
      clear hown1 hbel1
      go_wp2
      go_loopw [6, 27] (fun v i wr => ∃ (k : Nat), k ≤ zss.length ∧ i = .int .i64 k ∧ Gath w.heap.size k w wr v) (fun _ i _ => zss.length - (intOf i).toNat)
      case atStart => exact ⟨0, Nat.zero_le _, rfl, hg1⟩
      case round =>
        obtain ⟨k', hk', rfl, hg⟩ := hrel
        by_cases hlt' : k' < zss.length
        · obtain ⟨b2, o2, rfl, x2⟩ := hc (by omega)
          obtain ⟨u2, y2, r2⟩ := x2 k' hlt'
          have hzk := hzi k' hlt'
          generalize zss.getD k' [] = zk at r2 hzk
          have hmore := hg.more
          obtain ⟨m, xs, hown, hxs, hm, hbel⟩ := hg
          replace y2 := cell_keep hbel y2
          replace r2 := r2.keep hbel
          have r2' := r2
          obtain ⟨d2, e2, hu2, hnl, _⟩ := r2'
          subst hu2
          have hsz := hbel.size
          clear x2 hc hzi
          cases d2 with
          | none =>
            obtain ⟨h0, rfl⟩ := hnl rfl
            clear hnl r2 hnil
            go_wp2_with (at_builtin; refine wpList_append_own_none rfl (.tmp 31) (.tmp 32) 28 rfl w.heap.size 3 i0 1 Try.underlying28 hi _ m xs rfl hown rfl ?_)
            go_roundw
            case rel => exact ⟨k' + 1, by omega, by go_num, hmore⟩
            case measure => simp [intOf]; omega
          | some ad =>
            have HN : Hid (∀ j u, (zk.map (Value.int .i64))[j]? = some u → wr.cell? (ad.add j) = some u) := row_news r2
            have H1 : Hid (∀ u ∈ zk.map (Value.int .i64), u.oneCell' = true) := by
              intro u hu
              obtain ⟨z, _, rfl⟩ := List.mem_map.1 hu
              rfl
            clear hnl r2 hnil
            go_wp2_with (at_builtin; refine wpList_append_own _ rfl (.tmp 31) (.tmp 32) 28 rfl w.heap.size 3 i0 (.int .i64 0) 1 8 Try.underlying28 hi hz0 hz1 hz2 rfl (by decide) _ m xs rfl hown ad zk.length e2 (zk.map (Value.int .i64)) rfl (by simp) HN.out H1.out ?c3 ?c4 ?c5 ?_)
            case c3 => unfold maxLen; omega
            case c4 => omega
            case c5 => exact hsz
            intro v' w' hown' hgrow _
            have hnx : Gath w.heap.size (k' + 1) w w' v' := ⟨_, _, hown', by
              intro x hx
              rcases List.mem_append.1 hx with h | h
              · exact hxs x h
              · obtain ⟨z, _, rfl⟩ := List.mem_map.1 h
                exact ⟨z, rfl⟩, by omega, hbel.grown hgrow hsz (fun k e => (hown.lt k e).1)⟩
            clear hown' hgrow hown hbel HN H1 hxs
            go_wp2
            go_roundw
            case rel => exact ⟨k' + 1, by omega, by go_num, hnx⟩
            case measure => simp [intOf]; omega
        · obtain ⟨m, xs, hown, hxs, hm, hbel⟩ := hg
          go_wp2
          go_ret
          exact ⟨_, rfl, fresh_of_owns hown (by omega) hxs, hbel⟩

end Go.Proofs.Qxb6001764a
