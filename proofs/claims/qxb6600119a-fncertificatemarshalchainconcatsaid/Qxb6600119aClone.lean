import Derived.Test.Qxb6600119aBase
namespace Go.Proofs.Qxb6600119a
open Go.RowKit

theorem Try.info5 : (Try.prog.info? 5).map (fun i => (i.zero, i.size, i.bytes)) = some (some (.int .u8 0), 1, 1) := by kernel_rfl
theorem Try.info22 : (Try.prog.info? 22).map (fun i => (i.zero, i.size, i.bytes)) = some (some (.slice none 0 0), 1, 24) := by kernel_rfl

/-- A copy of the row has been made in new memory; nothing old has turned. -/
def Cloned (w : World) (zs : List Int) (e : Ending) (w' : World) : Prop :=
  ∃ v', e = .returned v' ∧ Row w' w.heap.size v' zs ∧ Below w.heap.size w w'

theorem row_of_rowIs {w : World} {b n lo : Nat} {f : Nat → Value} {zs : List Int} (h : w.rowIs b 5 n f) (hlo : lo ≤ b) (hn : zs.length = n) (hf : ∀ i, i < n → f i = .int .u8 (zs.getD i 0)) : Row w lo (.slice (some ⟨b, 0, none⟩) zs.length n) zs := by
  refine ⟨_, _, rfl, by simp, fun _ => ⟨b, 0, rfl, hlo, fun i hi => ?_⟩⟩
  rw [Nat.zero_add, h.cell (by omega), hf i (by omega)]

set_option maxHeartbeats 400000 in
theorem cloneInts_any (v : Value) (zs : List Int) (w : World) (hz : zs.length ≤ 1048576) (h : Row w 0 v zs) :
    Calls Try.prog 12 #[v] w fun e w' => Cloned w zs e w' := by
  obtain ⟨a, c, rfl, hnil, hc⟩ := h
  have hmk := run_make_row' (P := Try.prog) 22 5 (.int .u8 0) 1 Try.underlying22 Try.info5 rfl .i64 .i64 zs.length (by omega) (by omega)
  have heq := fun w => Lib.run_eql_slice_nil (P := Try.prog) w 22 5 a zs.length c 0 0 Try.underlying22
  cases a with
  | none =>
    have H0 : Hid (zs.length = 0) := (hnil rfl).1
    clear hnil hc hmk
    go_enter Try.func12, Try.ntmps12
    go_wp2
    go_ret
    refine ⟨_, rfl, ⟨none, 0, ?_, fun _ => ⟨H0.out, rfl⟩, fun h => absurd H0.out h⟩, Below.refl _ _⟩
    rw [H0.out]; rfl
  | some a =>
    go_enter Try.func12, Try.ntmps12
    go_wp2
    go_loopw [4] (fun i wr => ∃ k : Nat, k ≤ zs.length ∧ i = .int .i64 k ∧ wr.rowIs w.heap.size 5 zs.length (fun j => if j < k then .int .u8 (zs.getD j 0) else .int .u8 0) ∧ Below w.heap.size w wr) (fun i _ => zs.length - (intOf i).toNat)
    case atStart => exact ⟨0, Nat.zero_le _, rfl, (World.rowIs_made w _ zs.length 5).congr (fun _ _ => by simp), (Below.refl _ _).alloc (Nat.le_refl _) _⟩
    case round =>
      obtain ⟨k, hk, rfl, hrow, hbel⟩ := hrel
      by_cases hlt : k < zs.length
      · obtain ⟨b, off, ha, _, x⟩ := hc (by omega)
        obtain rfl := Option.some.inj ha
        have y := x k hlt
        replace y := (hbel.cell (p := ⟨b, off + k, none⟩) (lt_of_cell y)).trans y
        have hx : ∃ u, wr.cell? ⟨w.heap.size, k, none⟩ = some u := ⟨_, hrow.cell hlt⟩
        obtain ⟨u, hx⟩ := hx
        have hf := hrow.frozen k
        generalize hzk : zs.getD k 0 = zk at y
        have HZ : Hid (zs.getD k 0 = zk) := hzk
        have HR : Hid (wr.rowIs w.heap.size 5 zs.length (fun j => if j < k then .int .u8 (zs.getD j 0) else .int .u8 0)) := hrow
        clear x hc ha hzk hrow
        go_wp2
        go_roundw
        case rel =>
          refine ⟨k + 1, by omega, by go_num, (HR.out.set k _).congr (fun j hj => ?_), hbel.setCell (Nat.le_refl _) _⟩
          by_cases e : j = k
          · subst e; simp [← HZ.out]
          · rw [if_neg e]
            by_cases e2 : j < k
            · rw [if_pos e2, if_pos (by omega)]
            · rw [if_neg e2, if_neg (by omega)]
        case measure => simp [intOf]; omega
      · go_wp2
        go_ret
        exact ⟨_, rfl, row_of_rowIs hrow (Nat.le_refl _) rfl (fun i hi => by rw [if_pos (by omega)]), hbel⟩

/-- A deep copy has been made in new memory. -/
def Cloned2 (w : World) (zss : List (List Int)) (e : Ending) (w' : World) : Prop :=
  ∃ v', e = .returned v' ∧ Rows2 w' v' zss ∧ Below w.heap.size w w'

/-- So many rows of the copy are made. -/
def Made (w wr : World) (zss : List (List Int)) (k : Nat) : Prop :=
  ∃ f, wr.rowIs w.heap.size 22 zss.length f ∧ (∀ j, j < k → Row wr (w.heap.size + 1) (f j) (zss.getD j [])) ∧ Below w.heap.size w wr

theorem Row.setOther {w : World} {lo : Nat} {v : Value} {zs : List Int} (h : Row w lo v zs) {p : Addr} (hp : p.block < lo) (u : Value) : Row (w.setCell p u) lo v zs := by
  obtain ⟨a, c, rfl, hn, hc⟩ := h
  refine ⟨a, c, rfl, hn, fun h0 => ?_⟩
  obtain ⟨b, off, rfl, hlo, hx⟩ := hc h0
  refine ⟨b, off, rfl, hlo, fun i hi => ?_⟩
  rw [World.cell?_of_block (w := w) (a := ⟨b, off + i, none⟩) (Below.heap_setCell w p u b (by omega))]
  exact hx i hi

theorem Made.next {w wr w1 : World} {zss : List (List Int)} {k : Nat} (h : Made w wr zss k) (hk : k < zss.length) {v : Value} (hr : Row w1 wr.heap.size v (zss.getD k [])) (hb : Below wr.heap.size wr w1) :
    Made w (w1.setCell ⟨w.heap.size, k, none⟩ v) zss (k + 1) := by
  obtain ⟨f, h1, h2, h3⟩ := h
  have hlt := h1.lt
  have h1' : w1.rowIs w.heap.size 22 zss.length f := h1.of_block (hb.block _ hlt)
  refine ⟨_, h1'.set k v, fun j hj => ?_, (h3.trans (hb.mono (by omega))).setCell (Nat.le_refl _) _⟩
  by_cases e : j = k
  · subst e
    simp only [if_true]
    exact (hr.mono (by omega)).setOther (by simp) _
  · simp only [if_neg e]
    exact ((h2 j (by omega)).keep hb).setOther (by simp) _

set_option maxHeartbeats 400000 in
theorem cloneNested_any (v : Value) (zss : List (List Int)) (w : World) (hz : zss.length ≤ 1048576) (hzi : ∀ i, i < zss.length → (zss.getD i []).length ≤ 1048576) (h : Rows2 w v zss) :
    Calls Try.prog 13 #[v] w fun e w' => Cloned2 w zss e w' := by
  obtain ⟨a, c, rfl, hnil, hc⟩ := h
  have hmk := run_make_row' (P := Try.prog) 23 22 (.slice none 0 0) 24 Try.underlying23 Try.info22 rfl .i64 .i64 zss.length (by omega) (by omega)
  have heq := fun w => Lib.run_eql_slice_nil (P := Try.prog) w 23 22 a zss.length c 0 0 Try.underlying23
  cases a with
  | none =>
    have H0 : Hid (zss.length = 0) := hnil rfl
    clear hnil hc hmk
    go_enter Try.func13, Try.ntmps13
    go_wp2
    go_ret
    refine ⟨_, rfl, ⟨none, 0, ?_, fun _ => H0.out, fun h => absurd H0.out h⟩, Below.refl _ _⟩
    rw [H0.out]; rfl
  | some a =>
    go_enter Try.func13, Try.ntmps13
    go_wp2
    go_loopw [4] (fun i wr => ∃ k : Nat, k ≤ zss.length ∧ i = .int .i64 k ∧ Made w wr zss k) (fun i _ => zss.length - (intOf i).toNat)
    case atStart => exact ⟨0, Nat.zero_le _, rfl, _, World.rowIs_made w _ zss.length 22, fun j hj => absurd hj (Nat.not_lt_zero _), (Below.refl _ _).alloc (Nat.le_refl _) _⟩
    case round =>
      obtain ⟨k, hk, rfl, hmade⟩ := hrel
      by_cases hlt : k < zss.length
      · obtain ⟨b, off, ha, x⟩ := hc (by omega)
        obtain rfl := Option.some.inj ha
        obtain ⟨u, y, r⟩ := x k hlt
        have hzk := hzi k hlt
        have hm' := hmade
        obtain ⟨f, hrow, _, hbel⟩ := hm'
        replace y := cell_keep hbel y
        replace r := r.keep hbel
        have HK : ∃ zk, Hid (zk = zss.getD k []) := ⟨_, rfl⟩
        obtain ⟨zk, HK⟩ := HK
        rw [← HK.out] at r hzk
        have r' := r
        obtain ⟨d, e, hu, _⟩ := r'
        subst hu
        have hsz := hrow.lt
        have hx := hrow.cell hlt
        have hf := hrow.frozen k
        clear x hc ha hrow hmk heq hzi
        go_wp2_with fail
        refine (cloneInts_any _ zk _ hzk r).mono ?_
        rintro e w1 ⟨v', rfl, hr1, hb1⟩
        have hr1' := hr1
        obtain ⟨d', e', hv', _⟩ := hr1'
        rw [hv'] at hr1 ⊢
        clear hv'
        replace hx := cell_keep hb1 hx
        replace hf := (hb1.frozen (p := ⟨w.heap.size, k, none⟩) hsz).trans hf
        rw [HK.out] at hr1
        have hnx := hmade.next hlt hr1 hb1
        rw [← HK.out] at hnx
        clear hr1 hmade r y
        go_wp2
        go_roundw
        case rel => exact ⟨k + 1, by omega, by go_num, hnx⟩
        case measure => simp [intOf]; omega
      · go_wp2
        go_ret
        obtain ⟨f, h1, h2, h3⟩ := hmade
        exact ⟨_, rfl, ⟨_, _, rfl, by simp, fun _ => ⟨w.heap.size, 0, rfl, fun i hi => ⟨f i, by rw [Nat.zero_add]; exact h1.cell hi, (h2 i (by omega)).mono (Nat.zero_le _)⟩⟩⟩, h3⟩

end Go.Proofs.Qxb6600119a
