import Derived.Test.Qxb6001764aEq
import Derived.Test.Qxb6001764aSize
import Derived.Test.Qxb6001764aParts
namespace Go.Proofs.Qxb6001764a
open Go.RowKit

theorem Fresh.block {w : World} {lo : Nat} {a : Option Addr} {n c : Nat} (h : Fresh w lo (.slice a n c)) {i : Nat} (hi : i < n) :
    ∃ b arr z, a = some ⟨b, 0, none⟩ ∧ lo ≤ b ∧ w.heap[b]? = some (Obj.cells arr 3 (0, 0)) ∧ w.cell? ⟨b, i, none⟩ = some (.int .i64 z) ∧ w.frozen? ⟨b, i, none⟩ = false := by
  obtain ⟨a', n', c', hv, _, hc⟩ := h
  simp only [Value.slice.injEq] at hv
  obtain ⟨rfl, rfl, rfl⟩ := hv
  obtain ⟨b, arr, rfl, hlo, hx, hz⟩ := hc (by omega)
  obtain ⟨z, hz⟩ := hz i hi
  exact ⟨b, arr, z, rfl, hlo, hx, by rw [cell_at hx, hz], frozen_at hx⟩

/-- What holds while the parts are written. -/
structure Inv (w2 wr : World) (B pb c m : Nat) : Prop where
  bel : Below B w2 wr
  parts : PartsOk wr B (.slice (some ⟨pb, 0, none⟩) m c) m

theorem Inv.drew {w2 wr : World} {B pb c m : Nat} (h : Inv w2 wr B pb c m) : Inv w2 wr.drew B pb c m := by
  obtain ⟨hb, b, c', arr, hv, hlo, ha, hx⟩ := h
  exact ⟨hb.drew, b, c', arr, hv, hlo, ha, fun j h1 hj => by
    obtain ⟨u, e, f⟩ := hx j h1 hj
    exact ⟨u, e, f.keep (Below.refl _ _).drew⟩⟩

theorem Inv.drewN {w2 wr : World} {B pb c m : Nat} (h : Inv w2 wr B pb c m) (n : Nat) : Inv w2 (wr.drewN n) B pb c m := by
  obtain ⟨hb, b, c', arr, hv, hlo, ha, hx⟩ := h
  exact ⟨hb.trans (below_drewN _ _), b, c', arr, hv, hlo, ha, fun j h1 hj => by
    obtain ⟨u, e, f⟩ := hx j h1 hj
    exact ⟨u, e, f.keep (below_drewN _ _)⟩⟩

theorem Inv.here {w2 wr : World} {B pb c m : Nat} (h : Inv w2 wr B pb c m) {j : Nat} (h1 : 1 ≤ j) (hj : j < m) : ∃ a n c', wr.cell? ⟨pb, j, none⟩ = some (.slice a n c') ∧ Fresh wr B (.slice a n c') := by
  obtain ⟨hb, b, c', arr, hv, hlo, ha, hx⟩ := h
  simp only [Value.slice.injEq, Option.some.injEq, Addr.mk.injEq, and_true, true_and] at hv
  obtain ⟨rfl, rfl⟩ := hv
  obtain ⟨u, e, f⟩ := hx j h1 hj
  have f' := f
  obtain ⟨a, n, c'', rfl, _⟩ := f'
  exact ⟨a, n, c'', by rw [cell_at ha, e], f⟩

theorem Inv.store {w2 wr : World} {B pb c m : Nat} (h : Inv w2 wr B pb c m) {fb i : Nat} {arr' : Array Value} (hlo' : B ≤ fb) (hf : wr.heap[fb]? = some (Obj.cells arr' 3 (0, 0))) (z : Int) :
    Inv w2 (wr.setCell ⟨fb, i, none⟩ (.int .i64 z)) B pb c m ∧ ∀ j v, wr.cell? ⟨pb, j, none⟩ = some v → (wr.setCell ⟨fb, i, none⟩ (.int .i64 z)).cell? ⟨pb, j, none⟩ = some v := by
  obtain ⟨hb, b, c', arr, hv, hlo, ha, hx⟩ := h
  simp only [Value.slice.injEq, Option.some.injEq, Addr.mk.injEq, and_true, true_and] at hv
  obtain ⟨rfl, rfl⟩ := hv
  have hne : pb ≠ fb := by
    rintro rfl
    rw [ha] at hf
    simp at hf
  refine ⟨⟨hb.setCell hlo' _, pb, c, arr, rfl, hlo, (Below.heap_setCell wr ⟨fb, i, none⟩ _ _ hne).trans ha, fun j h1 hj => ?_⟩, fun j v hv => ?_⟩
  · obtain ⟨u, e, f⟩ := hx j h1 hj
    exact ⟨u, e, f.setInt _ _⟩
  · rw [World.cell?_of_block (w := wr) (a := ⟨pb, j, none⟩) (Below.heap_setCell wr ⟨fb, i, none⟩ _ _ hne)]
    exact hv

/-- What the inner loop keeps. -/
structure In2 (w2 wr : World) (B pb c m j : Nat) (a : Option Addr) (n c' : Nat) : Prop where
  inv : Inv w2 wr B pb c m
  cell : wr.cell? ⟨pb, j, none⟩ = some (.slice a n c')
  fresh : Fresh wr B (.slice a n c')

set_option maxHeartbeats 1000000 in
theorem law_any (v1 v2 : Value) (zs : List Int) (zss : List (List Int)) (w : World) (h1 : Row w 0 v1 zs) (h2 : Rows2 w v2 zss) :
    Calls Try.prog 4 #[v1, v2] w fun e w' => e = .returned (.bool true) ∧ Below w.heap.size w w' := by
  have h2' := h2
  obtain ⟨a2, c2, e2, _⟩ := h2'
  subst e2
  go_enter Try.func4, Try.ntmps4
  go_wp2_with fail
  refine (zzBytes_any _ _ zs zss _ h1 h2).mono ?_
  rintro e w' ⟨⟨b, rfl⟩, rfl⟩
  cases b
  · go_wp2
    go_ret
    exact ⟨rfl, Below.refl _ _⟩
  go_wp2_with fail
  refine (tooBig_any _ _ zs zss _ h1 h2).mono ?_
  rintro e w' ⟨hbig, rfl⟩
  rcases hbig with rfl | ⟨rfl, hz, hzz, hzi⟩
  · go_wp2
    go_ret
    exact ⟨rfl, Below.refl _ _⟩
  have HZI : Hid (∀ i, i < zss.length → (zss.getD i []).length ≤ 131072) := hzi
  clear hzi
  go_wp2_with fail
  refine (cloneInts_any _ zs _ (by omega) h1).mono ?_
  rintro e w1 ⟨pkC, rfl, hpkC, hb1⟩
  have h1' := h1.keep hb1
  have h2' := h2.keep hb1
  go_wp2_with fail
  refine (cloneNested_any _ zss _ (by omega) (fun i hi => Nat.le_trans (HZI.out i hi) (by omega)) h2').mono ?_
  rintro e w2 ⟨ixC, rfl, hixC, hb2⟩
  replace hpkC := (hpkC.keep hb2).mono (Nat.zero_le _)
  replace h1' := h1'.keep hb2
  replace h2' := h2'.keep hb2
  have hb12 : Below w'.heap.size w' w2 := hb1.trans (hb2.mono hb1.size)
  clear hb1 hb2 h1 h2
  go_wp2_with fail
  refine (zzKeyDefs_any _ _ zss zs _ hzz (fun i hi => Nat.le_trans (HZI.out i hi) (by omega)) (by omega) hpkC hixC).mono ?_
  rintro e w3 ⟨pv, ns, rfl, hparts, hb3⟩
  obtain ⟨m, HM⟩ : ∃ m, Hid (m = zss.length + 1) := ⟨_, rfl⟩
  rw [← HM.out] at hparts
  have hparts' := hparts
  obtain ⟨pb, pc, _, rfl, _⟩ := hparts'
  have hinv : Inv w2 w3 w2.heap.size pb pc m := ⟨hb3, hparts⟩
  have hne : ((m : Int) != 1 + (zss.length : Int)) = false := by have := HM.out; simp; omega
  have hm1 : m ≤ 4097 := by have := HM.out; omega
  have hm2 : 1 ≤ m := by have := HM.out; omega
  have hs2 := hb12.size
  clear hparts hb3
  go_wp2
  go_loopw [9, 10] (fun t _ wr => ∃ (j : Nat), 1 ≤ j ∧ j ≤ m ∧ t = .int .i64 j ∧ Inv w2 wr w2.heap.size pb pc m) (fun t _ _ => m - (intOf t).toNat)
  case atStart => exact ⟨1, Nat.le_refl _, hm2, rfl, hinv⟩
  case round =>
    obtain ⟨j, hj1, hjm, rfl, hi⟩ := hrel
    clear hinv hne
    by_cases hlt : j < m
    · obtain ⟨fa, fn, fc, hcell, hfr⟩ := hi.here hj1 hlt
      have hfn : fn ≤ 1073741824 := by
        obtain ⟨_, _, _, hv, hn, _⟩ := hfr
        simp only [Value.slice.injEq] at hv
        rw [hv.2.1]; exact hn
      have hin : In2 w2 wr w2.heap.size pb pc m j fa fn fc := ⟨hi, hcell, hfr⟩
      clear hi hcell hfr
      go_wp2
      go_loopw [10] (fun t wr => ∃ (p : Nat), p ≤ fn ∧ t = .int .i64 p ∧ In2 w2 wr w2.heap.size pb pc m j fa fn fc) (fun t _ => fn - (intOf t).toNat)
      case atStart => exact ⟨0, Nat.zero_le _, rfl, hin⟩
      case round =>
        obtain ⟨p, hp, rfl, hin⟩ := hrel
        have hcell := hin.cell
        by_cases hpl : p < fn
        · obtain ⟨fb, arr, z, hfa, hlo, hbk, y, yf⟩ := hin.fresh.block hpl
          subst hfa
          have hst := fun z' => hin.inv.store (i := p) hlo hbk z'
          have hfs := fun z' => hin.fresh.setInt ⟨fb, p, none⟩ z'
          have HST : Hid (∀ z', In2 w2 (wr.setCell ⟨fb, p, none⟩ (.int .i64 z')).drew w2.heap.size pb pc m j (some ⟨fb, 0, none⟩) fn fc) := fun z' => ⟨(hst z').1.drew, (hst z').2 j _ hcell, (hfs z').keep (Below.refl _ _).drew⟩
          clear hst hfs hbk hin
          go_wp2
          go_region
          go_wp2
          go_roundw
          case rel => exact ⟨p + 1, by omega, by go_num, HST.out _⟩
          case measure => simp [intOf]; omega
        · have hi := hin.inv
          clear hin
          go_wp2_with fail
          refine (unchanged_same _ _ _ _ zs zss _ (by omega) (by omega) (fun i hi => Nat.le_trans (HZI.out i hi) (by omega)) (hpkC.keep hi.bel) (hixC.keep hi.bel) (h1'.keep hi.bel) (h2'.keep hi.bel)).mono ?_
          rintro e w4 ⟨rfl, nd, rfl⟩
          replace hi := hi.drewN nd
          go_wp2
          go_roundw
          case rel => exact ⟨j + 1, by omega, by omega, by go_num, hi⟩
          case measure => simp [intOf]; omega
    · go_wp2
      go_ret
      exact ⟨rfl, hb12.trans (hi.bel.mono hs2)⟩

end Go.Proofs.Qxb6001764a
