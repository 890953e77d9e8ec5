import Derived.Test.Qxb6001764aKeys
import Derived.BigRegion
namespace Go.Proofs.Qxb6001764a
open Go.RowKit

theorem Try.info53 : (Try.prog.info? 53).map (fun i => (i.zero, i.size, i.bytes)) = some (some (.agg #[.string ⟨#[]⟩, .slice none 0 0, .bool false]), 3, 48) := by kernel_rfl

/-- The indexes, k of them filled. -/
def Filled (w wr : World) (iv : Value) (zss : List (List Int)) (k : Nat) : Prop :=
  ∃ a c, iv = .slice a zss.length c ∧ (zss.length ≠ 0 → ∃ b arr, a = some ⟨b, 0, none⟩ ∧ w.heap.size + 1 ≤ b ∧ wr.heap[b]? = some (Obj.cells arr 53 (0, 0)) ∧ arr.size = zss.length * 3 ∧
    ∀ i, i < k → ∃ u, arr[i * 3]? = some (.string ⟨#[]⟩) ∧ arr[i * 3 + 1]? = some u ∧ arr[i * 3 + 2]? = some (.bool false) ∧ Row w 0 u (zss.getD i []))

/-- What holds while the indexes are filled. -/
structure L1 (w wr : World) (pk : Value) (zss : List (List Int)) (k : Nat) : Prop where
  bel : Below w.heap.size w wr
  c2 : wr.cell? ⟨w.heap.size, 2, none⟩ = some pk
  c3 : ∃ iv, wr.cell? ⟨w.heap.size, 3, none⟩ = some iv ∧ Filled w wr iv zss k

theorem cell_at {w : World} {b i : Nat} {arr : Array Value} {t : TypeId} (h : w.heap[b]? = some (Obj.cells arr t (0, 0))) : w.cell? ⟨b, i, none⟩ = arr[i]? := by
  simp [World.cell?, h]
theorem frozen_at {w : World} {b i : Nat} {arr : Array Value} {t : TypeId} (h : w.heap[b]? = some (Obj.cells arr t (0, 0))) : w.frozen? ⟨b, i, none⟩ = false := by
  simp [World.frozen?, h]

theorem L1.ixs {w wr : World} {pk : Value} {zss : List (List Int)} (h : L1 w wr pk zss zss.length) : ∃ iv, wr.cell? ⟨w.heap.size, 3, none⟩ = some iv ∧ IxsOk wr iv zss := by
  obtain ⟨iv, hc, a, c, rfl, hf⟩ := h.c3
  refine ⟨_, hc, a, c, rfl, fun h0 => ?_⟩
  obtain ⟨b, arr, rfl, _, hb, hs, hx⟩ := hf h0
  refine ⟨b, rfl, fun i hi => ?_⟩
  obtain ⟨u, e0, e1, e2, r⟩ := hx i hi
  exact ⟨u, by rw [cell_at hb, e0], by rw [cell_at hb, e1], by rw [cell_at hb, e2], r.keep h.bel⟩

/-- One round of the filling: what it reads and where it writes, and what holds behind it. -/
theorem L1.step {w wr : World} {pk : Value} {zss : List (List Int)} {k : Nat} (h : L1 w wr pk zss k) (hk : k < zss.length) :
    ∃ b c, wr.cell? ⟨w.heap.size, 3, none⟩ = some (.slice (some ⟨b, 0, none⟩) zss.length c) ∧ w.heap.size + 1 ≤ b ∧ (∃ x, wr.cell? ⟨b, k * 3, none⟩ = some x) ∧ (∃ x, wr.cell? ⟨b, k * 3 + 1, none⟩ = some x) ∧ (∃ x, wr.cell? ⟨b, k * 3 + 2, none⟩ = some x) ∧
      (∀ i, wr.frozen? ⟨b, i, none⟩ = false) ∧ ∀ u, Row w 0 u (zss.getD k []) → L1 w (((wr.setCell ⟨b, k * 3, none⟩ (.string ⟨#[]⟩)).setCell ⟨b, k * 3 + 1, none⟩ u).setCell ⟨b, k * 3 + 2, none⟩ (.bool false)).drew pk zss (k + 1) := by
  obtain ⟨iv, hc, a, c, rfl, hf⟩ := h.c3
  obtain ⟨b, arr, rfl, hlo, hb, hs, hx⟩ := hf (by omega)
  have some_at : ∀ i, i < arr.size → ∃ x, wr.cell? ⟨b, i, none⟩ = some x := fun i hi => ⟨arr[i], by rw [cell_at hb, Array.getElem?_eq_getElem hi]⟩
  refine ⟨b, c, hc, hlo, some_at _ (by omega), some_at _ (by omega), some_at _ (by omega), fun i => frozen_at hb, fun u hu => ?_⟩
  have hb3 := heap_setCell_same _ b (k * 3 + 2) _ 53 (.bool false) (heap_setCell_same _ b (k * 3 + 1) _ 53 u (heap_setCell_same wr b (k * 3) arr 53 (.string ⟨#[]⟩) hb))
  have other : ∀ o, (((wr.setCell ⟨b, k * 3, none⟩ (.string ⟨#[]⟩)).setCell ⟨b, k * 3 + 1, none⟩ u).setCell ⟨b, k * 3 + 2, none⟩ (.bool false)).drew.cell? ⟨w.heap.size, o, none⟩ = wr.cell? ⟨w.heap.size, o, none⟩ := fun o => by
    refine World.cell?_of_block (w := wr) (a := ⟨w.heap.size, o, none⟩) ?_
    show (((wr.setCell ⟨b, k * 3, none⟩ (.string ⟨#[]⟩)).setCell ⟨b, k * 3 + 1, none⟩ u).setCell ⟨b, k * 3 + 2, none⟩ (.bool false)).heap[w.heap.size]? = _
    rw [Below.heap_setCell _ _ _ _ (by show w.heap.size ≠ b; omega), Below.heap_setCell _ _ _ _ (by show w.heap.size ≠ b; omega), Below.heap_setCell _ _ _ _ (by show w.heap.size ≠ b; omega)]
  refine ⟨(((h.bel.setCell (by show w.heap.size ≤ b; omega) _).setCell (by show w.heap.size ≤ b; omega) _).setCell (by show w.heap.size ≤ b; omega) _).drew, (other 2).trans h.c2, _, (other 3).trans hc, _, _, rfl, fun _ => ⟨b, _, rfl, hlo, hb3, by simpa using hs, fun i hi => ?_⟩⟩
  simp only [Array.getElem?_setIfInBounds, Array.size_setIfInBounds]
  by_cases e : i = k
  · subst e
    refine ⟨u, ?_, ?_, ?_, hu⟩
    · rw [if_neg (by omega), if_neg (by omega), if_pos rfl, if_pos (by omega)]
    · rw [if_neg (by omega), if_pos rfl, if_pos (by omega)]
    · rw [if_pos rfl, if_pos (by omega)]
  · obtain ⟨u', e0, e1, e2, r⟩ := hx i (by omega)
    refine ⟨u', ?_, ?_, ?_, r⟩
    · rw [if_neg (by omega), if_neg (by omega), if_neg (by omega)]; exact e0
    · rw [if_neg (by omega), if_neg (by omega), if_neg (by omega)]; exact e1
    · rw [if_neg (by omega), if_neg (by omega), if_neg (by omega)]; exact e2

theorem L1.start_none (w : World) (pk : Value) (zss : List (List Int)) (cs : Array Value) (h2 : cs[2]? = some pk) (h3 : cs[3]? = some (.slice none 0 0)) (h0 : zss.length = 0) : L1 w (w.alloc (.cells cs 51)) pk zss 0 := by
  have hb : (w.alloc (.cells cs 51)).heap[w.heap.size]? = some (Obj.cells cs 51 (0, 0)) := heap_alloc_new w _
  exact ⟨(Below.refl _ _).alloc (Nat.le_refl _) _, by rw [cell_at hb, h2], _, by rw [cell_at hb, h3], none, 0, by rw [h0], fun h => absurd h0 h⟩

theorem L1.start_some (w : World) (pk : Value) (zss : List (List Int)) (cs : Array Value) (z : Array Value) (h2 : cs[2]? = some pk) (h3 : cs[3]? = some (.slice (some ⟨w.heap.size + 1, 0, none⟩) zss.length zss.length)) :
    L1 w ((w.alloc (.cells cs 51)).alloc (.cells (madeCells z (zss.length * 3)) 53)) pk zss 0 := by
  have hb : ((w.alloc (.cells cs 51)).alloc (.cells (madeCells z (zss.length * 3)) 53)).heap[w.heap.size]? = some (Obj.cells cs 51 (0, 0)) := by
    rw [Below.heap_alloc _ _ _ (by simp)]; exact heap_alloc_new w _
  have hb1 : ((w.alloc (.cells cs 51)).alloc (.cells (madeCells z (zss.length * 3)) 53)).heap[w.heap.size + 1]? = some (Obj.cells (madeCells z (zss.length * 3)) 53 (0, 0)) := by
    have := heap_alloc_new (w.alloc (.cells cs 51)) (.cells (madeCells z (zss.length * 3)) 53)
    rwa [World.size_alloc] at this
  exact ⟨((Below.refl _ _).alloc (Nat.le_refl _) _).alloc (by simp) _, by rw [cell_at hb, h2], _, by rw [cell_at hb, h3], _, _, rfl, fun _ => ⟨_, _, rfl, Nat.le_refl _, hb1, size_madeCells _ _, fun i hi => absurd hi (Nat.not_lt_zero _)⟩⟩

/-- The parts of the keys: all but the first may be written. -/
def PartsOk (w : World) (lo : Nat) (v : Value) (m : Nat) : Prop :=
  ∃ b c arr, v = .slice (some ⟨b, 0, none⟩) m c ∧ lo ≤ b ∧ w.heap[b]? = some (Obj.cells arr 28 (0, 0)) ∧ ∀ j, 1 ≤ j → j < m → ∃ u, arr[j]? = some u ∧ Fresh w lo u

/-- What ZZKeyDefs leaves. -/
def MadeParts (w : World) (m : Nat) (e : Ending) (w' : World) : Prop :=
  ∃ v' ns, e = .returned (.tuple #[v', ns]) ∧ PartsOk w' w.heap.size v' m ∧ Below w.heap.size w w'

/-- So many parts are handed over. -/
structure L2 (w1 wr : World) (xs : List Value) (m k : Nat) : Prop where
  bel : Below w1.heap.size w1 wr
  parts : ∃ f, wr.rowIs w1.heap.size 28 m f ∧ ∀ j, j < k → xs[2 * j]? = some (f j)
  ns : ∃ f, wr.rowIs (w1.heap.size + 1) 3 m f

theorem L2.start (w1 : World) (xs : List Value) (m : Nat) (z z' : Value) : L2 w1 ((w1.alloc (.cells (madeCells #[z] m) 28)).alloc (.cells (madeCells #[z'] m) 3)) xs m 0 := by
  refine ⟨((Below.refl _ _).alloc (Nat.le_refl _) _).alloc (by simp) _, ⟨_, (World.rowIs_made w1 z m 28).alloc _, fun j hj => absurd hj (Nat.not_lt_zero _)⟩, ?_⟩
  have := World.rowIs_made (w1.alloc (.cells (madeCells #[z] m) 28)) z' m 3
  rw [World.size_alloc] at this
  exact ⟨_, this⟩

theorem L2.step {w1 wr : World} {xs : List Value} {m k : Nat} (h : L2 w1 wr xs m k) {v : Value} (n : Value) (hv : xs[2 * k]? = some v) :
    L2 w1 ((wr.setCell ⟨w1.heap.size, k, none⟩ v).setCell ⟨w1.heap.size + 1, k, none⟩ n) xs m (k + 1) := by
  obtain ⟨f, hf, hx⟩ := h.parts
  obtain ⟨g, hg⟩ := h.ns
  refine ⟨(h.bel.setCell (Nat.le_refl _) _).setCell (Nat.le_succ _) _, ⟨_, (hf.set k v).setOther (by show w1.heap.size ≠ w1.heap.size + 1; omega) _, fun j hj => ?_⟩, _, (hg.setOther (by show w1.heap.size + 1 ≠ w1.heap.size; omega) _).set k n⟩
  by_cases e : j = k
  · subst e; simp only [if_true]; exact hv
  · simp only [if_neg e]; exact hx j (by omega)

theorem L2.done {w1 wr : World} {xs : List Value} {m lo : Nat} {v : Value} (h : L2 w1 wr xs m m) (hk : ∀ j, j < m → ∃ a n c z, xs[2 * j]? = some (.slice a n c) ∧ xs[2 * j + 1]? = some (.int .i64 z) ∧ (1 ≤ j → Fresh w1 lo (.slice a n c))) (hlo : lo ≤ w1.heap.size)
    (hv : v = .slice (some ⟨w1.heap.size, 0, none⟩) m m) : PartsOk wr lo v m := by
  obtain ⟨f, ⟨arr, ha, hs, hc⟩, hx⟩ := h.parts
  refine ⟨_, _, arr, hv, hlo, ha, fun j h1 hj => ⟨f j, hc j hj, ?_⟩⟩
  obtain ⟨a, n, c, z, e1, _, e3⟩ := hk j hj
  have e := hx j hj
  rw [e1] at e
  rw [← Option.some.inj e]
  exact (e3 h1).keep h.bel

set_option maxHeartbeats 1000000 in
theorem zzKeyDefs_any (v1 v2 : Value) (zss : List (List Int)) (ps : List Int) (w : World) (hz : zss.length ≤ 4096) (hzi : ∀ i, i < zss.length → (zss.getD i []).length ≤ 1048576) (hp : ps.length ≤ 1048576)
    (hpk : Row w 0 v1 ps) (hrw : Rows2 w v2 zss) :
    Calls Try.prog 12 #[v1, v2] w fun e w' => MadeParts w (zss.length + 1) e w' := by
  have hpk' := hpk
  obtain ⟨a2, c2, e2, hh2⟩ := hpk'
  subst e2
  clear hh2
  obtain ⟨a3, c3, rfl, hnil, hix⟩ := hrw
  have hcase : (a3 = none ∧ Hid (zss.length = 0)) ∨ ∃ x, a3 = some x := by
    cases a3 with
    | none => exact Or.inl ⟨rfl, hnil rfl⟩
    | some x => exact Or.inr ⟨x, rfl⟩
  have HX : Hid (zss.length ≠ 0 → ∃ b off, a3 = some ⟨b, off, none⟩ ∧ ∀ i, i < zss.length → ∃ u, w.cell? ⟨b, off + i, none⟩ = some u ∧ Row w 0 u (zss.getD i [])) := hix
  clear hnil hix
  have HZ : Hid (∀ i, i < zss.length → (zss.getD i []).length ≤ 1048576) := hzi
  clear hzi
  obtain ⟨i0, hi, hz0, hz1, hz2⟩ := info_parts Try.info53
  have hmk := fun W => run_make (P := Try.prog) W 45 53 i0 (.agg #[.string ⟨#[]⟩, .slice none 0 0, .bool false]) Try.underlying45 hi hz0 .i64 .i64 zss.length zss.length (by omega) (Int.le_refl _) (by rw [hz2]; omega) (by omega)
  have hneq := fun W => run_neq_slice_nil_any (P := Try.prog) W 29 28 a3 zss.length c3 0 0 Try.underlying29
  simp only [hz1] at hmk
  clear hi hz0 hz1 hz2
  obtain ⟨m, HM⟩ : ∃ m, Hid (m = zss.length + 1) := ⟨_, rfl⟩
  rw [← HM.out]
  have hmb : m ≤ 4097 := by have := HM.out; omega
  rcases hcase with ⟨rfl, H0⟩ | ⟨ax, rfl⟩
  all_goals go_enter Try.func12, Try.ntmps12
  all_goals go_wp2
  all_goals
    go_loopw [7] (fun i wr => ∃ (k : Nat), k ≤ zss.length ∧ i = .int .i64 k ∧ L1 w wr (.slice a2 ps.length c2) zss k) (fun i _ => zss.length - (intOf i).toNat)
    case atStart =>
      refine ⟨0, Nat.zero_le _, rfl, ?_⟩
      first
        | (refine L1.start_none w _ zss _ ?_ ?_ H0.out <;> rfl)
        | (refine L1.start_some w _ zss _ _ ?_ ?_ <;> rfl)
    case round =>
      obtain ⟨k, hk, rfl, hl1⟩ := hrel
      clear hmk hneq
      by_cases hlt : k < zss.length
      · obtain ⟨ab, ao, ha, x⟩ := HX.out (by omega)
        cases ha
        all_goals
          obtain ⟨u, y, r⟩ := x k hlt
          replace y := cell_keep hl1.bel y
          obtain ⟨b, c, hc3, hlo, ⟨x0, hx0⟩, ⟨x1, hx1⟩, ⟨x2, hx2⟩, hfz, hnx⟩ := hl1.step hlt
          have hnx' := hnx u r
          have hab := lt_of_cell y
          have r' := r
          obtain ⟨d2, e2, hu2, _⟩ := r'
          subst hu2
          generalize (zss.getD k []).length = nk at hnx' y
          clear x hnx r
          go_wp2
          go_region
          go_wp2
          go_roundw
          case rel => exact ⟨k + 1, by omega, by go_num, hnx'⟩
          case measure => simp [intOf]; omega
      · obtain rfl : k = zss.length := by omega
        obtain ⟨iv, hc3, hiv⟩ := hl1.ixs
        have hc2 := hl1.c2
        have hbl := hl1.bel
        have hpk1 := hpk.keep hbl
        have hszo := hbl.size
        clear hl1
        have hmk1 := run_make_row' (P := Try.prog) 29 28 (.slice none 0 0) 24 Try.underlying29 Try.info28 rfl .i64 .i64 m (by omega) (by omega)
        have hmk2 := run_make_row' (P := Try.prog) 28 3 (.int .i64 0) 8 Try.underlying28 Try.info3 rfl .i64 .i64 m (by omega) (by omega)
        go_wp2_with fail
        refine (keyDefs_any w.heap.size (.slice a2 ps.length c2) iv zss ps _ hz HZ.out hp hpk1 hiv hc2 hc3).mono ?_
        rintro e w1 ⟨v', rfl, hkeys, hb1⟩
        rw [← HM.out] at hkeys
        obtain ⟨xs, hown, hxs⟩ := hkeys
        replace hbl : Below w.heap.size w w1 := hbl.trans (hb1.mono hbl.size)
        obtain ⟨g, cap, hv⟩ : ∃ g cap, v' = .slice (some ⟨g, 0, none⟩) m cap := by
          rcases hown.2 with ⟨_, h⟩ | ⟨g, cap, cur, rfl, _⟩
          · have := HM.out; omega
          · exact ⟨g, cap, rfl⟩
        subst hv
        have HKX : Hid (∀ j, j < m → ∃ a n c z, xs[2 * j]? = some (.slice a n c) ∧ xs[2 * j + 1]? = some (.int .i64 z) ∧ (1 ≤ j → Fresh w1 wr.heap.size (.slice a n c))) := hxs
        have HO : Hid (w1.ownsRow wr.heap.size 56 2 (.slice (some ⟨g, 0, none⟩) m cap) m xs) := hown
        clear hxs hown hb1 hc2 hc3 hpk1 hiv
        go_wp2
        go_loopw [9] (fun i wr => ∃ (k : Nat), k ≤ m ∧ i = .int .i64 k ∧ L2 w1 wr xs m k) (fun i _ => m - (intOf i).toNat)
        case atStart => exact ⟨0, Nat.zero_le _, rfl, L2.start w1 xs m _ _⟩
        case round =>
          obtain ⟨k, hk, rfl, hl2⟩ := hrel
          by_cases hlt' : k < m
          · obtain ⟨a, n, c, z, x0, x1, _⟩ := HKX.out k hlt'
            have hg := (HO.out.lt g rfl).2
            have y0 : wr.cell? ⟨g, k * 2, none⟩ = some (.slice a n c) := by
              rw [hl2.bel.cell (p := ⟨g, k * 2, none⟩) hg, HO.out.cellAt _ (by omega), Nat.mul_comm k 2]
              exact x0
            have y1 : wr.cell? ⟨g, k * 2 + 1, none⟩ = some (.int .i64 z) := by
              rw [hl2.bel.cell (p := ⟨g, k * 2 + 1, none⟩) hg, HO.out.cellAt _ (by omega), Nat.mul_comm k 2]
              exact x1
            have hnx := hl2.step (.int .i64 z) x0
            obtain ⟨f, hf, _⟩ := hl2.parts
            obtain ⟨f', hf'⟩ := hl2.ns
            have z0 := hf.cell hlt'
            have z1 := hf.frozen k
            have z2 := hf'.cell hlt'
            have z3 := hf'.frozen k
            generalize f k = fk at z0
            generalize f' k = fk' at z2
            clear x0 x1 hmk1 hmk2 hf hf' hl2
            go_wp2
            go_roundw
            case rel => exact ⟨k + 1, by omega, by go_num, hnx⟩
            case measure => simp [intOf]; omega
          · obtain rfl : k = m := by omega
            have hsz := hbl.size
            have hpo : ∀ v, v = .slice (some ⟨w1.heap.size, 0, none⟩) k k → PartsOk wr w.heap.size v k := fun v hv => hl2.done (fun j hj => by
              obtain ⟨a, n, c, z, e1, e2, e3⟩ := HKX.out j hj
              exact ⟨a, n, c, z, e1, e2, fun h => (e3 h).mono hszo⟩) hsz hv
            have hbn := hbl.trans (hl2.bel.mono hsz)
            clear hmk1 hmk2 hl2 HKX HO
            go_wp2
            go_ret2
            exact ⟨_, _, rfl, hpo _ rfl, hbn⟩

end Go.Proofs.Qxb6001764a
