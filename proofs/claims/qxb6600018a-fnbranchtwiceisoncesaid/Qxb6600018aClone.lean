import Derived.Test.Qxb6600018aBase
namespace Go.Proofs.Qxb6600018a
open Go.RowKit

theorem Try.info3 : (Try.prog.info? 3).map (fun i => (i.zero, i.size, i.bytes)) = some (some (.int .i64 0), 1, 8) := by kernel_rfl
theorem Try.info22 : (Try.prog.info? 22).map (fun i => (i.zero, i.size, i.bytes)) = some (some (.slice none 0 0), 1, 24) := by kernel_rfl

/-- A copy of the row has been made in new memory; nothing old has turned. -/
def Cloned (w : World) (zs : List Int) (e : Ending) (w' : World) : Prop :=
  ∃ v', e = .returned v' ∧ RowB w' true v' zs ∧ Below w.heap.size w w'

theorem row_of_rowIs {w : World} {b : Nat} {f : Nat → Value} {zs : List Int} (h : w.rowIs b 3 zs.length f) (hf : ∀ i, i < zs.length → f i = .int .i64 (zs.getD i 0)) : RowB w true (.slice (some ⟨b, 0, none⟩) zs.length zs.length) zs := by
  obtain ⟨arr, ha, hs, hx⟩ := h
  exact ⟨_, _, rfl, fun _ => rfl, by simp, fun _ => ⟨b, arr, rfl, ha, fun i hi => by rw [hx i hi, hf i hi]⟩⟩

set_option maxHeartbeats 400000 in
theorem cloneInts_any (v : Value) (zs : List Int) (w : World) (hz : zs.length ≤ 1048576) (h : Row w 0 v zs) :
    Calls Try.prog 15 #[v] w fun e w' => Cloned w zs e w' := by
  obtain ⟨a, c, rfl, hnil, hc⟩ := h
  have hmk := run_make_row' (P := Try.prog) 22 3 (.int .i64 0) 8 Try.underlying22 Try.info3 rfl .i64 .i64 zs.length (by omega) (by omega)
  have heq := fun w => Lib.run_eql_slice_nil (P := Try.prog) w 22 3 a zs.length c 0 0 Try.underlying22
  cases a with
  | none =>
    have H0 : Hid (zs.length = 0) := (hnil rfl).1
    clear hnil hc hmk
    go_enter Try.func15, Try.ntmps15
    go_wp2
    go_ret
    refine ⟨_, rfl, ⟨none, 0, ?_, fun _ => H0.out.symm, fun _ => ⟨H0.out, rfl⟩, fun h => absurd H0.out h⟩, Below.refl _ _⟩
    rw [H0.out]; rfl
  | some a =>
    go_enter Try.func15, Try.ntmps15
    go_wp2
    go_loopw [4] (fun i wr => ∃ k : Nat, k ≤ zs.length ∧ i = .int .i64 k ∧ wr.rowIs w.heap.size 3 zs.length (fun j => if j < k then .int .i64 (zs.getD j 0) else .int .i64 0) ∧ Below w.heap.size w wr) (fun i _ => zs.length - (intOf i).toNat)
    case atStart => exact ⟨0, Nat.zero_le _, rfl, (World.rowIs_made w _ zs.length 3).congr (fun _ _ => by simp), (Below.refl _ _).alloc (Nat.le_refl _) _⟩
    case round =>
      obtain ⟨k, hk, rfl, hrow, hbel⟩ := hrel
      by_cases hlt : k < zs.length
      · obtain ⟨b, off, ha, _, x⟩ := hc (by omega)
        obtain rfl := Option.some.inj ha
        have y := x k hlt
        replace y := (hbel.cell (p := ⟨b, off + k, none⟩) (lt_of_cell y)).trans y
        have hx : ∃ u, wr.cell? ⟨w.heap.size, k, none⟩ = some u := ⟨_, hrow.cell hlt⟩
        obtain ⟨u, hx⟩ := hx
        have hf := hrow.frozen k
        generalize hzk : zs.getD k 0 = zk at y
        have HZ : Hid (zs.getD k 0 = zk) := hzk
        have HR : Hid (wr.rowIs w.heap.size 3 zs.length (fun j => if j < k then .int .i64 (zs.getD j 0) else .int .i64 0)) := hrow
        clear x hc ha hzk hrow
        go_wp2
        go_roundw
        case rel =>
          refine ⟨k + 1, by omega, by go_num, (HR.out.set k _).congr (fun j hj => ?_), hbel.setCell (Nat.le_refl _) _⟩
          by_cases e : j = k
          · subst e; simp [← HZ.out]
          · rw [if_neg e]
            by_cases e2 : j < k
            · rw [if_pos e2, if_pos (by omega)]
            · rw [if_neg e2, if_neg (by omega)]
        case measure => simp [intOf]; omega
      · go_wp2
        go_ret
        exact ⟨_, rfl, row_of_rowIs hrow (fun i hi => by rw [if_pos (by omega)]), hbel⟩

/-- A deep copy has been made in new memory. -/
def Cloned2 (w : World) (zss : List (List Int)) (e : Ending) (w' : World) : Prop :=
  ∃ v', e = .returned v' ∧ RowsB w' v' zss ∧ Below w.heap.size w w'

/-- So many rows of the copy are made. -/
def Made (w wr : World) (zss : List (List Int)) (k : Nat) : Prop :=
  ∃ f, wr.rowIs w.heap.size 22 zss.length f ∧ (∀ j, j < k → RowB wr true (f j) (zss.getD j [])) ∧ Below w.heap.size w wr

theorem Made.next {w wr w1 : World} {zss : List (List Int)} {k : Nat} (h : Made w wr zss k) {v : Value} (hr : RowB w1 true v (zss.getD k [])) (hb : Below wr.heap.size wr w1) :
    Made w (w1.setCell ⟨w.heap.size, k, none⟩ v) zss (k + 1) := by
  obtain ⟨f, h1, h2, h3⟩ := h
  have hlt := h1.lt
  have h1' : w1.rowIs w.heap.size 22 zss.length f := h1.of_block (hb.block _ hlt)
  have hk : IntsKept w1 (w1.setCell ⟨w.heap.size, k, none⟩ v) := by
    obtain ⟨c, hc, _⟩ := h1'
    exact IntsKept.set hc (by decide) _
  refine ⟨_, h1'.set k v, fun j hj => ?_, (h3.trans (hb.mono (by omega))).setCell (Nat.le_refl _) _⟩
  by_cases e : j = k
  · subst e
    simp only [if_true]
    exact hr.keep hk
  · simp only [if_neg e]
    exact ((h2 j (by omega)).keep (IntsKept.of_below hb)).keep hk

set_option maxHeartbeats 400000 in
theorem cloneNested_any (v : Value) (zss : List (List Int)) (w : World) (hz : zss.length ≤ 1048576) (hzi : ∀ i, i < zss.length → (zss.getD i []).length ≤ 1048576) (h : Rows2 w v zss) :
    Calls Try.prog 17 #[v] w fun e w' => Cloned2 w zss e w' := by
  obtain ⟨a, c, rfl, hnil, hc⟩ := h
  have hmk := run_make_row' (P := Try.prog) 24 22 (.slice none 0 0) 24 Try.underlying24 Try.info22 rfl .i64 .i64 zss.length (by omega) (by omega)
  have heq := fun w => Lib.run_eql_slice_nil (P := Try.prog) w 24 22 a zss.length c 0 0 Try.underlying24
  cases a with
  | none =>
    have H0 : Hid (zss.length = 0) := hnil rfl
    clear hnil hc hmk
    go_enter Try.func17, Try.ntmps17
    go_wp2
    go_ret
    refine ⟨_, rfl, ⟨none, 0, ?_, fun _ => H0.out, fun h => absurd H0.out h⟩, Below.refl _ _⟩
    rw [H0.out]; rfl
  | some a =>
    go_enter Try.func17, Try.ntmps17
    go_wp2
    go_loopw [4] (fun i wr => ∃ k : Nat, k ≤ zss.length ∧ i = .int .i64 k ∧ Made w wr zss k) (fun i _ => zss.length - (intOf i).toNat)
    case atStart => exact ⟨0, Nat.zero_le _, rfl, _, World.rowIs_made w _ zss.length 22, fun j hj => absurd hj (Nat.not_lt_zero _), (Below.refl _ _).alloc (Nat.le_refl _) _⟩
    case round =>
      obtain ⟨k, hk, rfl, hmade⟩ := hrel
      by_cases hlt : k < zss.length
      · obtain ⟨b, off, ha, x⟩ := hc (by omega)
        obtain rfl := Option.some.inj ha
        obtain ⟨u, y, r⟩ := x k hlt
        have hzk := hzi k hlt
        have hm' := hmade
        obtain ⟨f, hrow, _, hbel⟩ := hm'
        replace y := cell_keep hbel y
        replace r := r.keep hbel
        have HK : ∃ zk, Hid (zk = zss.getD k []) := ⟨_, rfl⟩
        obtain ⟨zk, HK⟩ := HK
        rw [← HK.out] at r hzk
        have r' := r
        obtain ⟨d, e, hu, _⟩ := r'
        subst hu
        have hsz := hrow.lt
        have hx := hrow.cell hlt
        have hf := hrow.frozen k
        clear x hc ha hrow hmk heq hzi
        go_wp2_with fail
        refine (cloneInts_any _ zk _ hzk r).mono ?_
        rintro e w1 ⟨v', rfl, hr1, hb1⟩
        have hr1' := hr1
        obtain ⟨d', e', hv', hh'⟩ := hr1'
        clear hh'
        rw [hv'] at hr1 ⊢
        clear hv'
        replace hx := cell_keep hb1 hx
        replace hf := (hb1.frozen (p := ⟨w.heap.size, k, none⟩) hsz).trans hf
        rw [HK.out] at hr1
        have hnx := hmade.next hr1 hb1
        rw [← HK.out] at hnx
        clear hr1 hmade r y
        go_wp2
        go_roundw
        case rel => exact ⟨k + 1, by omega, by go_num, hnx⟩
        case measure => simp [intOf]; omega
      · go_wp2
        go_ret
        obtain ⟨f, h1, h2, h3⟩ := hmade
        exact ⟨_, rfl, ⟨_, _, rfl, by simp, fun _ => ⟨w.heap.size, 0, rfl, fun i hi => ⟨f i, by rw [Nat.zero_add]; exact h1.cell hi, h2 i (by omega)⟩⟩⟩, h3⟩

end Go.Proofs.Qxb6600018a
