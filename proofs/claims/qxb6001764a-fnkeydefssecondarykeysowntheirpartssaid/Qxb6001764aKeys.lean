import Derived.Test.Qxb6001764aSec
namespace Go.Proofs.Qxb6001764a
open Go.RowKit

theorem Try.info56 : (Try.prog.info? 56).map (fun i => (i.zero, i.size, i.bytes)) = some (some (.agg #[.slice none 0 0, .int .i64 0]), 2, 32) := by kernel_rfl

/-- The keys: m of them, in memory of the call's own; the parts of all but the first are the call's own too. -/
def KeysOk (w : World) (lo : Nat) (v : Value) (m : Nat) : Prop :=
  ∃ xs, w.ownsRow lo 56 2 v m xs ∧ ∀ j, j < m → ∃ a n c z, xs[2 * j]? = some (.slice a n c) ∧ xs[2 * j + 1]? = some (.int .i64 z) ∧ (1 ≤ j → Fresh w lo (.slice a n c))

theorem owns_ne {w : World} {lo n : Nat} {v : Value} {xs : List Value} {t : TypeId} (h : w.ownsRow lo t 2 v n xs) (ht : t ≠ 3) {k : Nat} {arr : Array Value} (hk : w.heap[k]? = some (Obj.cells arr 3 (0, 0))) : some k ≠ v.ownBlock := by
  rcases h.2 with ⟨rfl, _⟩ | ⟨g, cap, cur, rfl, _, hg, _⟩
  · simp [Value.ownBlock]
  · intro e
    simp only [Value.ownBlock, Option.some.injEq] at e
    subst e
    rw [hg] at hk
    simp at hk
    exact ht hk.2

theorem KeysOk.keep {w w' : World} {lo : Nat} {v : Value} {m : Nat} (h : KeysOk w lo v m) (hb : Below w.heap.size w w') : KeysOk w' lo v m := by
  obtain ⟨xs, h1, h2⟩ := h
  refine ⟨xs, h1.kept (row := none) ⟨hb.os, hb.tape, hb.output, hb.size, fun k hk _ => hb.block k hk⟩ (by cases hv : v.ownBlock <;> simp), fun j hj => ?_⟩
  obtain ⟨a, n, c, z, e1, e2, e3⟩ := h2 j hj
  exact ⟨a, n, c, z, e1, e2, fun h => (e3 h).keep hb⟩

theorem KeysOk.step {w w' : World} {lo : Nat} {v v' : Value} {m : Nat} {xs : List Value} {a : Option Addr} {n c : Nat} {z : Int} (h1 : w.ownsRow lo 56 2 v m xs)
    (h2 : ∀ j, j < m → ∃ a n c z, xs[2 * j]? = some (.slice a n c) ∧ xs[2 * j + 1]? = some (.int .i64 z) ∧ (1 ≤ j → Fresh w lo (.slice a n c))) (hf : Fresh w lo (.slice a n c))
    (h3 : w'.ownsRow lo 56 2 v' (m + 1) (xs ++ [.slice a n c, .int .i64 z])) (hg : w.grownBy w' v.ownBlock) : KeysOk w' lo v' (m + 1) := by
  have keep : ∀ {u : Value}, Fresh w lo u → Fresh w' lo u := fun h => h.keepBut fun k arr hk => hg.block k (block_lt hk) (owns_ne h1 (by decide) hk)
  have hl := h1.1
  refine ⟨_, h3, fun j hj => ?_⟩
  by_cases e : j < m
  · obtain ⟨a, n, c, z, e1, e2, e3⟩ := h2 j e
    refine ⟨a, n, c, z, ?_, ?_, fun h => keep (e3 h)⟩
    · rw [List.getElem?_append_left (by omega)]; exact e1
    · rw [List.getElem?_append_left (by omega)]; exact e2
  · have : j = m := by omega
    subst this
    refine ⟨a, n, c, z, ?_, ?_, fun _ => keep hf⟩
    · rw [List.getElem?_append_right (by omega), hl, show 2 * j - j * 2 = 0 by omega]; rfl
    · rw [List.getElem?_append_right (by omega), hl, show 2 * j + 1 - j * 2 = 1 by omega]; rfl

/-- The indexes as they lie. -/
def IxsOk (w : World) (v : Value) (zss : List (List Int)) : Prop :=
  ∃ a c, v = .slice a zss.length c ∧ (zss.length ≠ 0 → ∃ b, a = some ⟨b, 0, none⟩ ∧ ∀ i, i < zss.length → ∃ u, w.cell? ⟨b, i * 3, none⟩ = some (.string ⟨#[]⟩) ∧ w.cell? ⟨b, i * 3 + 1, none⟩ = some u ∧ w.cell? ⟨b, i * 3 + 2, none⟩ = some (.bool false) ∧ Row w 0 u (zss.getD i []))

/-- What keyDefs leaves. -/
def MadeKeys (w : World) (m : Nat) (e : Ending) (w' : World) : Prop :=
  ∃ v', e = .returned v' ∧ KeysOk w' w.heap.size v' m ∧ Below w.heap.size w w'

set_option maxHeartbeats 400000 in
theorem keyDefs_any (d : Nat) (pk iv : Value) (zss : List (List Int)) (ps : List Int) (w : World) (hz : zss.length ≤ 4096) (hzi : ∀ i, i < zss.length → (zss.getD i []).length ≤ 1048576) (hp : ps.length ≤ 1048576)
    (hpk : Row w 0 pk ps) (hiv : IxsOk w iv zss) (hd2 : w.cell? ⟨d, 2, none⟩ = some pk) (hd3 : w.cell? ⟨d, 3, none⟩ = some iv) :
    Calls Try.prog 16 #[.pointer (some ⟨d, 0, none⟩)] w fun e w' => MadeKeys w (zss.length + 1) e w' := by
  have hpk' := hpk
  obtain ⟨a2, c2, e2, hh2⟩ := hpk'
  subst e2
  clear hh2
  obtain ⟨a3, c3, rfl, hix⟩ := hiv
  have hdl := lt_of_cell hd2
  have hd1 : d ≠ w.heap.size := by omega
  obtain ⟨i0, hi, hz0, hz1, hz2⟩ := info_parts Try.info56
  go_enter Try.func16, Try.ntmps16
  go_wp2
  go_loopw [4, 21, 6] (fun v i _ wr => ∃ (k : Nat), k ≤ zss.length ∧ i = .int .i64 k ∧ KeysOk wr w.heap.size v (k + 1) ∧ Below w.heap.size w wr) (fun _ i _ _ => zss.length - (intOf i).toNat)
  case atStart =>
    refine ⟨0, Nat.zero_le _, rfl, ⟨_, World.ownsRow_lit w _ 1 (Nat.le_refl _) (by unfold maxLen; omega) rfl, fun j hj => ?_⟩, (Below.refl _ _).alloc (Nat.le_refl _) _⟩
    obtain rfl : j = 0 := by omega
    exact ⟨_, _, _, _, rfl, rfl, fun h => absurd h (by omega)⟩
  case round =>
    obtain ⟨k, hk, rfl, hkeys, hbel⟩ := hrel
    by_cases hlt : k < zss.length
    · obtain ⟨ib, rfl, x⟩ := hix (by omega)
      obtain ⟨u, y0, y1, y2, r⟩ := x k hlt
      have hzk := hzi k hlt
      generalize zss.getD k [] = zk at r hzk
      replace y0 := cell_keep hbel y0
      replace y1 := cell_keep hbel y1
      replace y2 := cell_keep hbel y2
      replace r := r.keep hbel
      have hpk' := hpk.keep hbel
      have hd2' := cell_keep hbel hd2
      have r' := r
      obtain ⟨d2, e2, hu2, _⟩ := r'
      subst hu2
      clear x hix hzi hd2 hd3 hpk
      have hal : ∀ o : Obj, Below wr.heap.size wr (wr.alloc o) := fun o => (Below.refl _ _).alloc (Nat.le_refl _) o
      go_wp2_with fail
      refine (secondary_any d ⟨#[]⟩ (.slice d2 zk.length e2) (.slice a2 ps.length c2) false zk ps _ hzk hp (r.alloc _) (hpk'.alloc _) (cell_keep (hal _) hd2')).mono ?_
      rintro e w1 ⟨v', n', rfl, hfr, hbl⟩
      have hfr' := hfr
      obtain ⟨a', m', c', hv', _⟩ := hfr'
      subst hv'
      have hb1 : Below wr.heap.size wr w1 := (hal _).trans (hbl.mono (by simp))
      have hsz := hbel.size
      have hsz1 := hb1.size
      replace hfr : Fresh w1 w.heap.size (.slice a' m' c') := hfr.mono (by simp; omega)
      replace hkeys := hkeys.keep hb1
      replace hbel := hbel.trans (hb1.mono hsz)
      obtain ⟨xs, hown, hxs⟩ := hkeys
      have HX : Hid (∀ j, j < k + 1 → ∃ a n c z, xs[2 * j]? = some (.slice a n c) ∧ xs[2 * j + 1]? = some (.int .i64 z) ∧ (1 ≤ j → Fresh w1 w.heap.size (.slice a n c))) := hxs
      clear hxs hal r hpk' hd2' y0 y1 y2 hbl hb1
      go_wp2_with (at_builtin; refine wpList_append_own _ rfl (.tmp 25) (.tmp 29) 46 rfl w.heap.size 56 i0 (.agg #[.slice none 0 0, .int .i64 0]) 2 32 Try.underlying46 hi hz0 hz1 hz2 rfl (by decide) _ (k + 1) xs rfl (hown.alloc _) ⟨w1.heap.size, 0, none⟩ 1 1 [.slice a' m' c', .int .i64 n'] rfl rfl ?c1 ?c2 ?c3 ?c4 ?c5 ?_)
      case c1 =>
        intro j u hj
        match j, hj with
        | 0, hj => simp at hj; subst hj; simp [Addr.add]
        | 1, hj => simp at hj; subst hj; simp [Addr.add]
      case c2 =>
        intro u hu
        simp at hu
        rcases hu with rfl | rfl <;> rfl
      case c3 => unfold maxLen; omega
      case c4 => omega
      case c5 => simp; omega
      intro v2 w2 hown2 hgrow _
      have hnx : KeysOk w2 w.heap.size v2 (k + 1 + 1) := KeysOk.step (hown.alloc _) (fun j hj => by
        obtain ⟨a, n, c, z, e1, e2, e3⟩ := HX.out j hj
        exact ⟨a, n, c, z, e1, e2, fun h => (e3 h).keep ((Below.refl _ _).alloc (Nat.le_refl _) _)⟩) (hfr.keep ((Below.refl _ _).alloc (Nat.le_refl _) _)) hown2 hgrow
      have hbn : Below w.heap.size w w2 := (hbel.alloc (by omega) _).grown hgrow (by simp; omega) (fun k e => (hown.lt k e).1)
      clear hown2 hgrow hown HX hfr hbel
      go_wp2
      go_roundw
      case rel => exact ⟨k + 1, by omega, by go_num, hnx, hbn⟩
      case measure => simp [intOf]; omega
    · go_wp2
      go_ret
      have : k = zss.length := by omega
      subst this
      exact ⟨_, rfl, hkeys, hbel⟩

end Go.Proofs.Qxb6001764a
