import Derived.Test.Qxb6600119aRows
import Derived.WalkKit
import Derived.WalkSpells
import Derived.WalkLawsBesides
import Derived.Deep.OwnRows
import Derived.Deep.Draws
namespace Go.Proofs.Qxb6600119a
open Go.RowKit

/-- A slice of bytes as it is read: its numbers, in a block from 'lo' on. -/
def Row (w : World) (lo : Nat) (v : Value) (zs : List Int) : Prop :=
  ∃ a c, v = .slice a zs.length c ∧ (a = none → zs.length = 0 ∧ c = 0) ∧
    (zs.length ≠ 0 → ∃ b off, a = some ⟨b, off, none⟩ ∧ lo ≤ b ∧ ∀ i, i < zs.length → w.cell? ⟨b, off + i, none⟩ = some (.int .u8 (zs.getD i 0)))

/-- A slice of slices of bytes. -/
def Rows2 (w : World) (v : Value) (zss : List (List Int)) : Prop :=
  ∃ a c, v = .slice a zss.length c ∧ (a = none → zss.length = 0) ∧
    (zss.length ≠ 0 → ∃ b off, a = some ⟨b, off, none⟩ ∧ ∀ i, i < zss.length → ∃ u, w.cell? ⟨b, off + i, none⟩ = some u ∧ Row w 0 u (zss.getD i []))

theorem lt_of_cell {w : World} {b o : Nat} {v : Value} (h : w.cell? ⟨b, o, none⟩ = some v) : b < w.heap.size :=
  World.block_lt_of_cell? w ⟨b, o, none⟩ h

theorem cell_keep {w w' : World} (hb : Below w.heap.size w w') {b o : Nat} {v : Value} (h : w.cell? ⟨b, o, none⟩ = some v) : w'.cell? ⟨b, o, none⟩ = some v :=
  (hb.cell (p := ⟨b, o, none⟩) (lt_of_cell h)).trans h

theorem Row.keep {w w' : World} {lo : Nat} {v : Value} {zs : List Int} (h : Row w lo v zs) (hb : Below w.heap.size w w') : Row w' lo v zs := by
  obtain ⟨a, c, rfl, hn, hc⟩ := h
  refine ⟨a, c, rfl, hn, fun h0 => ?_⟩
  obtain ⟨b, off, rfl, hlo, hx⟩ := hc h0
  exact ⟨b, off, rfl, hlo, fun i hi => cell_keep hb (hx i hi)⟩

theorem Row.mono {w : World} {lo lo' : Nat} {v : Value} {zs : List Int} (h : Row w lo v zs) (hl : lo' ≤ lo) : Row w lo' v zs := by
  obtain ⟨a, c, rfl, hn, hc⟩ := h
  refine ⟨a, c, rfl, hn, fun h0 => ?_⟩
  obtain ⟨b, off, rfl, hlo, hx⟩ := hc h0
  exact ⟨b, off, rfl, Nat.le_trans hl hlo, hx⟩

theorem Rows2.keep {w w' : World} {v : Value} {zss : List (List Int)} (h : Rows2 w v zss) (hb : Below w.heap.size w w') : Rows2 w' v zss := by
  obtain ⟨a, c, rfl, hn, hc⟩ := h
  refine ⟨a, c, rfl, hn, fun h0 => ?_⟩
  obtain ⟨b, off, rfl, hx⟩ := hc h0
  refine ⟨b, off, rfl, fun i hi => ?_⟩
  obtain ⟨u, hu, hr⟩ := hx i hi
  exact ⟨u, cell_keep hb hu, hr.keep hb⟩

theorem below_drewN {w : World} (B n : Nat) : Below B w (w.drewN n) := ⟨rfl, rfl, rfl, Nat.le_refl _, fun _ _ => rfl⟩

/-- The world has drawn, and nothing more. -/
def Drew (w w' : World) : Prop := ∃ n, w' = w.drewN n

theorem Drew.refl (w : World) : Drew w w := ⟨0, rfl⟩
theorem Drew.trans {a b c : World} (h : Drew a b) (k : Drew b c) : Drew a c := by
  obtain ⟨n, rfl⟩ := h
  obtain ⟨m, rfl⟩ := k
  exact ⟨n + m, by rw [World.drewN_drewN]⟩
theorem Drew.below {w w' : World} (h : Drew w w') (B : Nat) : Below B w w' := by
  obtain ⟨n, rfl⟩ := h
  exact below_drewN B n
theorem Drew.drewN (w : World) (n : Nat) : Drew w (w.drewN n) := ⟨n, rfl⟩

theorem block_lt {w : World} {b : Nat} {o : Obj} (h : w.heap[b]? = some o) : b < w.heap.size := (Array.getElem?_eq_some_iff.1 h).1

theorem cell_at {w : World} {b i : Nat} {arr : Array Value} {t : TypeId} (h : w.heap[b]? = some (Obj.cells arr t (0, 0))) : w.cell? ⟨b, i, none⟩ = arr[i]? := by
  simp [World.cell?, h]
theorem frozen_at {w : World} {b i : Nat} {arr : Array Value} {t : TypeId} (h : w.heap[b]? = some (Obj.cells arr t (0, 0))) : w.frozen? ⟨b, i, none⟩ = false := by
  simp [World.frozen?, h]

/-- Every number is a byte. -/
def Bytes (zs : List Int) : Prop := ∀ z ∈ zs, 0 ≤ z ∧ z ≤ 255

theorem Bytes.getD {zs : List Int} (h : Bytes zs) (i : Nat) : 0 ≤ zs.getD i 0 ∧ zs.getD i 0 ≤ 255 := by
  by_cases hi : i < zs.length
  · rw [List.getD, List.getElem?_eq_getElem hi]
    exact h _ (List.getElem_mem hi)
  · rw [List.getD, List.getElem?_eq_none (by omega)]
    simp

theorem Bytes.append {a b : List Int} (ha : Bytes a) (hb : Bytes b) : Bytes (a ++ b) := fun z hz => by
  rcases List.mem_append.1 hz with h | h
  · exact ha z h
  · exact hb z h

end Go.Proofs.Qxb6600119a
