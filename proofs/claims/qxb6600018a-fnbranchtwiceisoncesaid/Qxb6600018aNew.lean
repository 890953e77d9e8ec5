import Derived.Test.Qxb6600018aClone
namespace Go.Proofs.Qxb6600018a
open Go.RowKit

theorem Try.info64 : (Try.prog.info? 64).map (fun i => (i.zero, i.size, i.bytes)) = some (some (.pointer none), 1, 8) := by kernel_rfl

/-- The path: one block a yield point, each behind the path's own. -/
def Path (w : World) (pb : Nat) (parr : Array Value) (fl : Bool) (zss : List (List Int)) (k : Nat) : Prop :=
  w.heap[pb]? = some (Obj.cells parr 64 (0, 0)) ∧ parr.size = zss.length ∧
    ∀ j, j < k → parr[j]? = some (.pointer (some ⟨pb + 1 + j, 0, none⟩)) ∧ ∃ barr v, w.heap[pb + 1 + j]? = some (Obj.cells barr 67 (0, 0)) ∧ barr[3]? = some v ∧ RowB w fl v (zss.getD j [])

/-- A search: its bound, its mark, its yield points' lists. -/
def Srch (w : World) (lo eb : Nat) (db : Int) (hit fl : Bool) (zss : List (List Int)) : Prop :=
  ∃ arr pb c parr, lo ≤ eb ∧ w.heap[eb]? = some (Obj.cells arr 69 (0, 0)) ∧ arr[1]? = some (.int .i64 db) ∧ arr[2]? = some (.slice (some ⟨pb, 0, none⟩) zss.length c) ∧ arr[7]? = some (.bool hit) ∧ lo ≤ pb ∧ Path w pb parr fl zss zss.length

/-- So many yield points are laid. -/
structure Laid (w wr : World) (zss : List (List Int)) (k : Nat) : Prop where
  bel : Below w.heap.size w wr
  size : wr.heap.size = w.heap.size + 1 + k
  path : ∃ parr, Path wr w.heap.size parr true zss k

theorem Laid.start (w : World) (zss : List (List Int)) : Laid w (w.alloc (.cells (madeCells #[.pointer none] zss.length) 64)) zss 0 :=
  ⟨(Below.refl _ _).alloc (Nat.le_refl _) _, by simp, _, heap_alloc_new w _, size_madeCells _ _, fun j hj => absurd hj (Nat.not_lt_zero _)⟩

theorem Laid.step {w wr : World} {zss : List (List Int)} {k : Nat} (h : Laid w wr zss k) (hk : k < zss.length) {u : Value} (hr : RowB wr true u (zss.getD k [])) (x0 x1 x2 x4 : Value) :
    Laid w ((wr.alloc (.cells #[x0, x1, x2, u, x4] 67)).setCell ⟨w.heap.size, k, none⟩ (.pointer (some ⟨wr.heap.size, 0, none⟩))) zss (k + 1) := by
  obtain ⟨hb, hs, parr, hp, hps, hx⟩ := h
  have hp1 : (wr.alloc (.cells #[x0, x1, x2, u, x4] 67)).heap[w.heap.size]? = some (Obj.cells parr 64 (0, 0)) := by
    rw [Below.heap_alloc _ _ _ (by omega)]; exact hp
  have hnew : (wr.alloc (.cells #[x0, x1, x2, u, x4] 67)).heap[wr.heap.size]? = some (Obj.cells #[x0, x1, x2, u, x4] 67 (0, 0)) := heap_alloc_new wr _
  have hik : IntsKept wr ((wr.alloc (.cells #[x0, x1, x2, u, x4] 67)).setCell ⟨w.heap.size, k, none⟩ (.pointer (some ⟨wr.heap.size, 0, none⟩))) := fun i arr hi => by
    rw [IntsKept.set hp1 (by decide) _ i arr (by rw [Below.heap_alloc _ _ _ (block_lt hi)]; exact hi), Below.heap_alloc _ _ _ (block_lt hi)]
  refine ⟨(hb.alloc (by omega) _).setCell (Nat.le_refl _) _, by simp [hs]; omega, _, heap_setCell_same _ _ _ _ _ _ hp1, by simpa using hps, fun j hj => ?_⟩
  rw [Array.getElem?_setIfInBounds]
  by_cases e : k = j
  · subst e
    rw [if_pos rfl, if_pos (by omega)]
    refine ⟨by rw [hs], #[x0, x1, x2, u, x4], u, ?_, rfl, hr.keep hik⟩
    rw [Below.heap_setCell _ _ _ _ (by show w.heap.size + 1 + k ≠ w.heap.size; omega)]
    rw [hs] at hnew
    exact hnew
  · rw [if_neg e]
    obtain ⟨h1, barr, v, h2, h3, h4⟩ := hx j (by omega)
    refine ⟨h1, barr, v, ?_, h3, h4.keep hik⟩
    rw [Below.heap_setCell _ _ _ _ (by show w.heap.size + 1 + j ≠ w.heap.size; omega), Below.heap_alloc _ _ _ (block_lt h2)]
    exact h2

theorem Laid.step' {w wr : World} {zss : List (List Int)} {k : Nat} (h : Laid w wr zss k) (hk : k < zss.length) {u : Value} (hr : RowB wr true u (zss.getD k [])) (x0 x1 x2 x4 : Value) :
    Laid w ((wr.setCell ⟨w.heap.size, k, none⟩ (.pointer (some ⟨wr.heap.size, 0, none⟩))).alloc (.cells #[x0, x1, x2, u, x4] 67)) zss (k + 1) := by
  have hs := h.size
  rw [← World.setCell_alloc_past (.cells #[x0, x1, x2, u, x4] 67) w.heap.size k _ (by omega)]
  exact h.step hk hr x0 x1 x2 x4

/-- A search has been laid out. -/
def MadeNew (w : World) (db : Int) (zss : List (List Int)) (e : Ending) (w' : World) : Prop :=
  ∃ eb, e = .returned (.pointer (some ⟨eb, 0, none⟩)) ∧ Srch w' w.heap.size eb db false true zss ∧ Below w.heap.size w w'

theorem Laid.done {w wr : World} {zss : List (List Int)} (h : Laid w wr zss zss.length) (db : Int) (arr : Array Value) (h1 : arr[1]? = some (.int .i64 db)) (h2 : arr[2]? = some (.slice (some ⟨w.heap.size, 0, none⟩) zss.length zss.length)) (h7 : arr[7]? = some (.bool false)) :
    Srch (wr.alloc (.cells arr 69)) w.heap.size wr.heap.size db false true zss ∧ Below w.heap.size w (wr.alloc (.cells arr 69)) := by
  obtain ⟨hb, hs, parr, hp, hps, hx⟩ := h
  refine ⟨⟨arr, w.heap.size, zss.length, parr, hb.size, heap_alloc_new wr _, h1, h2, h7, Nat.le_refl _, ?_, hps, fun j hj => ?_⟩, hb.alloc (by omega) _⟩
  · rw [Below.heap_alloc _ _ _ (block_lt hp)]; exact hp
  · obtain ⟨g1, barr, v, g2, g3, g4⟩ := hx j hj
    exact ⟨g1, barr, v, by rw [Below.heap_alloc _ _ _ (block_lt g2)]; exact g2, g3, g4.keep (IntsKept.of_below ((Below.refl _ _).alloc (Nat.le_refl _) _))⟩

set_option maxHeartbeats 400000 in
theorem new_any (db : Int) (v : Value) (zss : List (List Int)) (w : World) (hz : zss.length ≤ 1048576) (h : RowsB w v zss) :
    Calls Try.prog 27 #[.int .i64 db, .slice none 0 0, v] w fun e w' => MadeNew w db zss e w' := by
  obtain ⟨a, c, rfl, _, hc⟩ := h
  have hmk := run_make_row' (P := Try.prog) 63 64 (.pointer none) 8 Try.underlying63 Try.info64 rfl .i64 .i64 zss.length (by omega) (by omega)
  go_enter Try.func27, Try.ntmps27
  go_wp2
  go_loopw [8, 9] (fun i _ wr => ∃ k : Nat, k ≤ zss.length ∧ i = .int .i64 k ∧ Laid w wr zss k) (fun i _ _ => zss.length - (intOf i).toNat)
  case atStart => exact ⟨0, Nat.zero_le _, rfl, Laid.start w zss⟩
  case round =>
    obtain ⟨k, hk, rfl, hl⟩ := hrel
    clear hmk
    by_cases hlt : k < zss.length
    · obtain ⟨b, off, rfl, x⟩ := hc (by omega)
      obtain ⟨u, y, r⟩ := x k hlt
      replace y := cell_keep hl.bel y
      replace r := r.keep (IntsKept.of_below hl.bel)
      have hst := hl.step' hlt r
      obtain ⟨parr, hp, hps, _⟩ := hl.path
      have hsz := hl.size
      have hlt2 : w.heap.size < wr.heap.size := by omega
      have HS : Hid (wr.heap.size = w.heap.size + 1 + k) := hsz
      have p0 : ∃ q, wr.cell? ⟨w.heap.size, k, none⟩ = some q := ⟨parr[k]'(by omega), by rw [cell_at hp, Array.getElem?_eq_getElem (by omega)]⟩
      obtain ⟨q, p0⟩ := p0
      have p1 : wr.frozen? ⟨w.heap.size, k, none⟩ = false := frozen_at hp
      obtain ⟨d2, e2, hu2, hh2⟩ := r
      generalize (zss.getD k []).length = nk at hu2
      subst hu2
      clear x hc hh2 hp hps hl hsz
      go_wp2
      go_roundw
      case rel => exact ⟨k + 1, by omega, by go_num, hst _ _ _ _⟩
      case measure => simp [intOf]; omega
    · obtain rfl : k = zss.length := by omega
      go_wp2
      go_ret
      exact ⟨_, rfl, hl.done db _ rfl rfl rfl⟩

end Go.Proofs.Qxb6600018a
