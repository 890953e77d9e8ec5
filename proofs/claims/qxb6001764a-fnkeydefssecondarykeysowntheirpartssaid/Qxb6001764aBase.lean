import Derived.Test.Qxb6001764aRows
import Derived.WalkKit
import Derived.WalkSpells
import Derived.WalkLawsBesides
import Derived.Deep.OwnRows
import Derived.Deep.Draws
namespace Go.Proofs.Qxb6001764a
open Go.RowKit

/-- A slice of ints as it is read: its numbers, in a block from 'lo' on. -/
def Row (w : World) (lo : Nat) (v : Value) (zs : List Int) : Prop :=
  ∃ a c, v = .slice a zs.length c ∧ (a = none → zs.length = 0 ∧ c = 0) ∧
    (zs.length ≠ 0 → ∃ b off, a = some ⟨b, off, none⟩ ∧ lo ≤ b ∧ ∀ i, i < zs.length → w.cell? ⟨b, off + i, none⟩ = some (.int .i64 (zs.getD i 0)))

/-- A slice of slices of ints. -/
def Rows2 (w : World) (v : Value) (zss : List (List Int)) : Prop :=
  ∃ a c, v = .slice a zss.length c ∧ (a = none → zss.length = 0) ∧
    (zss.length ≠ 0 → ∃ b off, a = some ⟨b, off, none⟩ ∧ ∀ i, i < zss.length → ∃ u, w.cell? ⟨b, off + i, none⟩ = some u ∧ Row w 0 u (zss.getD i []))

theorem lt_of_cell {w : World} {b o : Nat} {v : Value} (h : w.cell? ⟨b, o, none⟩ = some v) : b < w.heap.size :=
  World.block_lt_of_cell? w ⟨b, o, none⟩ h

theorem cell_keep {w w' : World} (hb : Below w.heap.size w w') {b o : Nat} {v : Value} (h : w.cell? ⟨b, o, none⟩ = some v) : w'.cell? ⟨b, o, none⟩ = some v :=
  (hb.cell (p := ⟨b, o, none⟩) (lt_of_cell h)).trans h

theorem Row.keep {w w' : World} {lo : Nat} {v : Value} {zs : List Int} (h : Row w lo v zs) (hb : Below w.heap.size w w') : Row w' lo v zs := by
  obtain ⟨a, c, rfl, hn, hc⟩ := h
  refine ⟨a, c, rfl, hn, fun h0 => ?_⟩
  obtain ⟨b, off, rfl, hlo, hx⟩ := hc h0
  exact ⟨b, off, rfl, hlo, fun i hi => cell_keep hb (hx i hi)⟩

theorem Row.mono {w : World} {lo lo' : Nat} {v : Value} {zs : List Int} (h : Row w lo v zs) (hl : lo' ≤ lo) : Row w lo' v zs := by
  obtain ⟨a, c, rfl, hn, hc⟩ := h
  refine ⟨a, c, rfl, hn, fun h0 => ?_⟩
  obtain ⟨b, off, rfl, hlo, hx⟩ := hc h0
  exact ⟨b, off, rfl, Nat.le_trans hl hlo, hx⟩

theorem Rows2.keep {w w' : World} {v : Value} {zss : List (List Int)} (h : Rows2 w v zss) (hb : Below w.heap.size w w') : Rows2 w' v zss := by
  obtain ⟨a, c, rfl, hn, hc⟩ := h
  refine ⟨a, c, rfl, hn, fun h0 => ?_⟩
  obtain ⟨b, off, rfl, hx⟩ := hc h0
  refine ⟨b, off, rfl, fun i hi => ?_⟩
  obtain ⟨u, hu, hr⟩ := hx i hi
  exact ⟨u, cell_keep hb hu, hr.keep hb⟩

theorem below_drewN {w : World} (B n : Nat) : Below B w (w.drewN n) := ⟨rfl, rfl, rfl, Nat.le_refl _, fun _ _ => rfl⟩

/-- The world has drawn, and nothing more. -/
def Drew (w w' : World) : Prop := ∃ n, w' = w.drewN n

theorem Drew.refl (w : World) : Drew w w := ⟨0, rfl⟩
theorem Drew.trans {a b c : World} (h : Drew a b) (k : Drew b c) : Drew a c := by
  obtain ⟨n, rfl⟩ := h
  obtain ⟨m, rfl⟩ := k
  exact ⟨n + m, by rw [World.drewN_drewN]⟩
theorem Drew.below {w w' : World} (h : Drew w w') (B : Nat) : Below B w w' := by
  obtain ⟨n, rfl⟩ := h
  exact below_drewN B n
theorem Drew.drewN (w : World) (n : Nat) : Drew w (w.drewN n) := ⟨n, rfl⟩

/-- A slice of ints that the call itself has made: it may be written. -/
def Fresh (w : World) (lo : Nat) (v : Value) : Prop :=
  ∃ a n c, v = .slice a n c ∧ n ≤ 1073741824 ∧
    (n ≠ 0 → ∃ b arr, a = some ⟨b, 0, none⟩ ∧ lo ≤ b ∧ w.heap[b]? = some (.cells arr 3 (0, 0)) ∧ ∀ i, i < n → ∃ z, arr[i]? = some (.int .i64 z))

theorem Fresh.mono {w : World} {lo lo' : Nat} {v : Value} (h : Fresh w lo v) (hl : lo' ≤ lo) : Fresh w lo' v := by
  obtain ⟨a, n, c, rfl, hn, hc⟩ := h
  refine ⟨a, n, c, rfl, hn, fun h0 => ?_⟩
  obtain ⟨b, arr, rfl, hlo, hx⟩ := hc h0
  exact ⟨b, arr, rfl, Nat.le_trans hl hlo, hx⟩

theorem block_lt {w : World} {b : Nat} {o : Obj} (h : w.heap[b]? = some o) : b < w.heap.size := (Array.getElem?_eq_some_iff.1 h).1

/-- It stays while every block that bears ints stays. -/
theorem Fresh.keepBut {w w' : World} {lo : Nat} {v : Value} (h : Fresh w lo v) (hb : ∀ (k : Nat) (arr : Array Value), w.heap[k]? = some (Obj.cells arr 3 (0, 0)) → w'.heap[k]? = w.heap[k]?) : Fresh w' lo v := by
  obtain ⟨a, n, c, rfl, hn, hc⟩ := h
  refine ⟨a, n, c, rfl, hn, fun h0 => ?_⟩
  obtain ⟨b, arr, rfl, hlo, hx, hz⟩ := hc h0
  exact ⟨b, arr, rfl, hlo, (hb b arr hx).trans hx, hz⟩

theorem Fresh.keep {w w' : World} {lo : Nat} {v : Value} (h : Fresh w lo v) (hb : Below w.heap.size w w') : Fresh w' lo v :=
  h.keepBut fun k _ hk => hb.block k (block_lt hk)

/-- An int stored anywhere. -/
theorem Fresh.setInt {w : World} {lo : Nat} {v : Value} (h : Fresh w lo v) (p : Addr) (z : Int) : Fresh (w.setCell p (.int .i64 z)) lo v := by
  obtain ⟨a, n, c, rfl, hn, hc⟩ := h
  refine ⟨a, n, c, rfl, hn, fun h0 => ?_⟩
  obtain ⟨b, arr, rfl, hlo, hx, hz⟩ := hc h0
  by_cases e : b = p.block
  · subst e
    refine ⟨p.block, if p.spot.isSome then arr else arr.setIfInBounds p.off (.int .i64 z), rfl, hlo, by simp [World.setCell, Array.getElem?_modify, hx], fun i hi => ?_⟩
    split
    · exact hz i hi
    · rw [Array.getElem?_setIfInBounds]
      split
      · split
        · exact ⟨z, rfl⟩
        · obtain ⟨z', hz'⟩ := hz i hi
          have := (Array.getElem?_eq_some_iff.1 hz').1
          omega
      · exact hz i hi
  · exact ⟨b, arr, rfl, hlo, (Below.heap_setCell w p _ b e).trans hx, hz⟩

theorem Fresh.here {w : World} {lo : Nat} {a : Option Addr} {n c : Nat} (h : Fresh w lo (.slice a n c)) {i : Nat} (hi : i < n) :
    ∃ b z, a = some ⟨b, 0, none⟩ ∧ lo ≤ b ∧ w.cell? ⟨b, i, none⟩ = some (.int .i64 z) ∧ w.frozen? ⟨b, i, none⟩ = false := by
  obtain ⟨a', n', c', hv, _, hc⟩ := h
  simp only [Value.slice.injEq] at hv
  obtain ⟨rfl, rfl, rfl⟩ := hv
  obtain ⟨b, arr, rfl, hlo, hx, hz⟩ := hc (by omega)
  obtain ⟨z, hz⟩ := hz i hi
  exact ⟨b, z, rfl, hlo, by simp [World.cell?, hx, hz], by simp [World.frozen?, hx]⟩

theorem fresh_of_owns {w : World} {lo n : Nat} {v : Value} {xs : List Value} (h : w.ownsRow lo 3 1 v n xs) (hn : n ≤ 1073741824) (hx : ∀ x ∈ xs, ∃ z, x = .int .i64 z) : Fresh w lo v := by
  obtain ⟨hl, h⟩ := h
  rcases h with ⟨rfl, rfl⟩ | ⟨g, cap, cur, rfl, hb, hg, _, _, _, ht⟩
  · exact ⟨none, 0, 0, rfl, by omega, fun h0 => absurd rfl h0⟩
  · refine ⟨_, n, cap, rfl, hn, fun _ => ⟨g, cur, rfl, hb, hg, fun i hi => ?_⟩⟩
    have hlt : i < xs.length := by omega
    obtain ⟨z, hz⟩ := hx xs[i] (List.getElem_mem hlt)
    have e : xs[i]? = some (.int .i64 z) := by rw [List.getElem?_eq_getElem hlt, hz]
    rw [← ht, List.getElem?_take, if_pos (by omega)] at e
    exact ⟨z, by simpa using e⟩

end Go.Proofs.Qxb6001764a
