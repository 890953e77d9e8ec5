import Derived.Test.Qxb6600018aRead
import Derived.Test.Qxb6600018aIndex
import Derived.Lib.AppendZeros
namespace Go.Proofs.Qxb6600018a
open Go.RowKit

theorem getD_append_last (zs : List Int) (x : Int) (i : Nat) (hi : i < zs.length + 1) : (zs ++ [x]).getD i 0 = if i < zs.length then zs.getD i 0 else x := by
  by_cases h : i < zs.length
  · rw [if_pos h, List.getD, List.getElem?_append_left h, List.getD]
  · obtain rfl : i = zs.length := by omega
    rw [if_neg h, List.getD, List.getElem?_append_right (Nat.le_refl _)]
    simp

/-- One int appended to a row with no room: a new row; nothing old has turned. -/
theorem append_full (W : World) (v : Value) (zs : List Int) (x : Int) (hr : RowB W true v zs) (ad : Addr) (had : W.cell? ad = some (.int .i64 x)) (hz : zs.length ≤ 1048576) :
    ∃ a1 c1 w1, (∀ ty, (Builtin.append_ #[22, 22] ty #[v, .slice (some ad) 1 1]).run Try.prog W = .ok (.slice a1 (zs.length + 1) c1) w1) ∧ RowB w1 false (.slice a1 (zs.length + 1) c1) (zs ++ [x]) ∧ Below W.heap.size W w1 := by
  obtain ⟨i0, hi, hz0, hz1, hz2⟩ := info_parts Try.info3
  obtain ⟨a, c, rfl, hf, hn, hc⟩ := hr
  have hc' := hf rfl
  subst hc'
  have hnews : ∀ j u, ([.int .i64 x] : List Value)[j]? = some u → W.cell? (ad.add j) = some u := by
    intro j u hj
    match j, hj with
    | 0, hj => simp at hj; subst hj; simpa [Addr.add] using had
  have fin : ∀ (arr : Array Value) (G : Nat), arr.toList.take (zs.length + 1) = (zs ++ [x]).map (Value.int .i64) →
      RowB (W.drew.alloc (.cells arr 3)) false (.slice (some ⟨W.heap.size, 0, none⟩) (zs.length + 1) G) (zs ++ [x]) ∧ Below W.heap.size W (W.drew.alloc (.cells arr 3)) := by
    intro arr G ht
    refine ⟨⟨some ⟨W.heap.size, 0, none⟩, G, by simp, (fun h => by cases h), (fun h => by cases h), fun _ => ⟨W.heap.size, arr, rfl, heap_alloc_new W.drew _, fun i hi => ?_⟩⟩, (Below.refl _ W).drew.alloc (Nat.le_refl _) _⟩
    have hi' : i < zs.length + 1 := by simpa using hi
    have e : (arr.toList.take (zs.length + 1))[i]? = some (.int .i64 ((zs ++ [x]).getD i 0)) := by
      rw [ht, List.getElem?_map, List.getElem?_eq_getElem hi, List.getD, List.getElem?_eq_getElem hi]
      rfl
    rw [List.getElem?_take, if_pos hi'] at e
    simpa using e
  cases a with
  | none =>
    obtain ⟨h0, _⟩ := hn rfl
    have hz' : zs = [] := List.eq_nil_of_length_eq_zero h0
    subst hz'
    refine ⟨_, _, _, fun ty => run_append_nil (P := Try.prog) W 22 ty 3 i0 (.int .i64 0) Try.underlying22 hi hz0 ad 1 1 [.int .i64 x] (by rw [hz1]; rfl) hnews (by omega) (by omega) (by rw [hz2]; omega), ?_⟩
    exact fin _ _ (by simp)
  | some b =>
    have holds : ∀ j u, (zs.map (Value.int .i64))[j]? = some u → W.cell? (b.add j) = some u := by
      intro j u hj
      have hlt : j < zs.length := by simpa using (List.getElem?_eq_some_iff.1 hj).1
      obtain ⟨g, arr, hb, hg, hx⟩ := hc (by omega)
      obtain rfl := Option.some.inj hb
      have e : (⟨g, 0, none⟩ : Addr).add j = ⟨g, j, none⟩ := by unfold Addr.add; split <;> simp_all
      rw [e, cell_at hg, hx j hlt]
      rw [List.getElem?_map, List.getElem?_eq_getElem hlt] at hj
      rw [List.getD, List.getElem?_eq_getElem hlt]
      exact hj
    refine ⟨_, _, _, fun ty => run_append_grow (P := Try.prog) W 22 ty 3 i0 (.int .i64 0) Try.underlying22 hi hz0 b zs.length zs.length (zs.map (Value.int .i64)) (by rw [hz1]; simp) holds ad 1 1 [.int .i64 x] (by rw [hz1]; rfl) hnews (by omega) (by omega) (growslice_fits (by omega) (by rw [hz2]; omega)), ?_⟩
    refine fin _ _ ?_
    simp [List.take_append]
    exact List.take_of_length_le (by simp)

/-- The one to be added. -/
def pick (ts : List Int) (first : Int) : Int := if first ∈ ts then first else ts.getD 0 0

theorem pick_mem {ts : List Int} (h : ts.length ≠ 0) (first : Int) : pick ts first ∈ ts := by
  unfold pick
  split
  · assumption
  · exact mem_getD (by omega)

/-- What branch leaves where the bound is past. -/
def Marked (w : World) (lo eb : Nat) (db : Int) (fl : Bool) (zss : List (List Int)) (w' : World) : Prop := Srch w' lo eb db true fl zss ∧ Below lo w w'

theorem Srch.mark {w : World} {lo eb : Nat} {db : Int} {hit fl : Bool} {zss : List (List Int)} (h : Srch w lo eb db hit fl zss) : Marked w lo eb db fl zss (w.setCell ⟨eb, 7, none⟩ (.bool true)) := by
  obtain ⟨arr, pb, c, parr, hlo, he, h1, h2, h7, hlp, hp, hps, hx⟩ := h
  have hik : IntsKept w (w.setCell ⟨eb, 7, none⟩ (.bool true)) := IntsKept.set he (by decide) _
  have hne : ∀ {k : Nat} {arr' : Array Value} {t : TypeId}, w.heap[k]? = some (Obj.cells arr' t (0, 0)) → t ≠ 69 → (w.setCell ⟨eb, 7, none⟩ (.bool true)).heap[k]? = w.heap[k]? := fun {k arr' t} hk ht => by
    refine Below.heap_setCell w ⟨eb, 7, none⟩ _ k ?_
    rintro rfl
    rw [he] at hk
    simp at hk
    exact ht hk.2.symm
  have h7lt := (Array.getElem?_eq_some_iff.1 h7).1
  refine ⟨⟨_, pb, c, parr, hlo, heap_setCell_same _ _ _ _ _ _ he, ?_, ?_, ?_, hlp, (hne hp (by decide)).trans hp, hps, fun j hj => ?_⟩, (Below.refl _ _).setCell hlo _⟩
  · rw [Array.getElem?_setIfInBounds, if_neg (by omega)]; exact h1
  · rw [Array.getElem?_setIfInBounds, if_neg (by omega)]; exact h2
  · rw [Array.getElem?_setIfInBounds, if_pos rfl, if_pos h7lt]
  · obtain ⟨g1, barr, v, g2, g3, g4⟩ := hx j hj
    exact ⟨g1, barr, v, (hne g2 (by decide)).trans g2, g3, g4.keep hik⟩

set_option maxHeartbeats 400000 in
theorem branch_bound (lo eb : Nat) (db : Int) (hit fl : Bool) (zss : List (List Int)) (at_ : Nat) (tv : Value) (first : Int) (w : World) (h : Srch w lo eb db hit fl zss) (h0 : 0 < db) (h1 : db ≤ at_) :
    Calls Try.prog 49 #[.pointer (some ⟨eb, 0, none⟩), .int .i64 at_, tv, .int .i64 first] w fun e w' => e = .returned (.tuple #[]) ∧ Marked w lo eb db fl zss w' := by
  have hm := h.mark
  obtain ⟨arr, pb, c, parr, _, he, g1, g2, g7, _, _⟩ := h
  have c1 : w.cell? ⟨eb, 1, none⟩ = some (.int .i64 db) := by rw [cell_at he, g1]
  have c7 : w.cell? ⟨eb, 7, none⟩ = some (.bool hit) := by rw [cell_at he, g7]
  have f7 : w.frozen? ⟨eb, 7, none⟩ = false := frozen_at he
  clear he g1 g2 g7
  go_enter Try.func49, Try.ntmps49
  go_wp2
  exact bodyPost_ret (v := .tuple #[]) (by simp [results, Try.results49, go_sem]) rfl ⟨rfl, hm⟩

/-- What branch leaves where it has added one. -/
def Added (w : World) (lo eb : Nat) (db : Int) (hit : Bool) (zss : List (List Int)) (w' : World) : Prop := Srch w' lo eb db hit false zss ∧ Below lo w w'

theorem getD_set (zss : List (List Int)) (k j : Nat) (zs : List Int) (hk : k < zss.length) : (zss.set k zs).getD j [] = if j = k then zs else zss.getD j [] := by
  rw [List.getD, List.getElem?_set]
  by_cases e : k = j
  · subst e
    rw [if_pos rfl, if_pos hk, if_pos rfl]
    rfl
  · rw [if_neg e, if_neg (fun h => e h.symm), List.getD]

/-- One yield point of a search, opened: what is read there, and what holds where its list has been replaced. -/
theorem Srch.point {w : World} {lo eb : Nat} {db : Int} {hit fl : Bool} {zss : List (List Int)} (h : Srch w lo eb db hit fl zss) {k : Nat} (hk : k < zss.length) :
    ∃ pb c v, w.cell? ⟨eb, 1, none⟩ = some (.int .i64 db) ∧ w.cell? ⟨eb, 2, none⟩ = some (.slice (some ⟨pb, 0, none⟩) zss.length c) ∧ w.cell? ⟨pb, k, none⟩ = some (.pointer (some ⟨pb + 1 + k, 0, none⟩)) ∧
      w.cell? ⟨pb + 1 + k, 3, none⟩ = some v ∧ RowB w fl v (zss.getD k []) ∧ w.frozen? ⟨pb + 1 + k, 3, none⟩ = false ∧
      ∀ w1 v1 zs', Below w.heap.size w w1 → RowB w1 false v1 zs' → Added w lo eb db hit (zss.set k zs') (w1.setCell ⟨pb + 1 + k, 3, none⟩ v1) := by
  obtain ⟨arr, pb, c, parr, hlo, he, h1, h2, h7, hlp, hp, hps, hx⟩ := h
  obtain ⟨g1, barr, v, g2, g3, g4⟩ := hx k hk
  refine ⟨pb, c, v, by rw [cell_at he, h1], by rw [cell_at he, h2], by rw [cell_at hp, g1], by rw [cell_at g2, g3], g4, frozen_at g2, fun w1 v1 zs' hb hr => ?_⟩
  have q2 : w1.heap[pb + 1 + k]? = some (Obj.cells barr 67 (0, 0)) := (hb.block _ (block_lt g2)).trans g2
  have hik : IntsKept w1 (w1.setCell ⟨pb + 1 + k, 3, none⟩ v1) := IntsKept.set q2 (by decide) _
  have hne : ∀ {i : Nat} {arr' : Array Value} {t : TypeId}, w.heap[i]? = some (Obj.cells arr' t (0, 0)) → t ≠ 67 → (w1.setCell ⟨pb + 1 + k, 3, none⟩ v1).heap[i]? = w.heap[i]? := fun {i arr' t} hi ht => by
    rw [Below.heap_setCell w1 ⟨pb + 1 + k, 3, none⟩ v1 i ?_, hb.block _ (block_lt hi)]
    rintro rfl
    rw [g2] at hi
    simp at hi
    exact ht hi.2.symm
  have h3lt := (Array.getElem?_eq_some_iff.1 g3).1
  refine ⟨⟨arr, pb, c, parr, hlo, (hne he (by decide)).trans he, h1, by rw [List.length_set]; exact h2, h7, hlp, (hne hp (by decide)).trans hp, by rw [List.length_set]; exact hps, fun j hj => ?_⟩, (hb.mono (by have := block_lt he; omega)).setCell (by show lo ≤ pb + 1 + k; omega) _⟩
  rw [List.length_set] at hj
  rw [getD_set _ _ _ _ hk]
  by_cases e : j = k
  · subst e
    rw [if_pos rfl]
    refine ⟨g1, _, v1, heap_setCell_same _ _ _ _ _ _ q2, ?_, hr.keep hik⟩
    rw [Array.getElem?_setIfInBounds, if_pos rfl, if_pos h3lt]
  · rw [if_neg e]
    obtain ⟨y1, barr', v', y2, y3, y4⟩ := hx j hj
    refine ⟨y1, barr', v', ?_, y3, (y4.loose.keep (IntsKept.of_below hb)).keep hik⟩
    rw [Below.heap_setCell w1 ⟨pb + 1 + k, 3, none⟩ v1 _ (by show pb + 1 + j ≠ pb + 1 + k; omega), hb.block _ (block_lt y2)]
    exact y2

/-- What branch leaves within the bound. -/
def Freed (w : World) (lo eb : Nat) (db : Int) (hit : Bool) (zss : List (List Int)) (k : Nat) (ts : List Int) (first : Int) (w' : World) : Prop :=
  ((∃ t ∈ ts, t ∈ zss.getD k []) ∧ w' = w) ∨ ((∀ t ∈ ts, ¬ t ∈ zss.getD k []) ∧ Added w lo eb db hit (zss.set k (zss.getD k [] ++ [pick ts first])) w')

set_option maxHeartbeats 1000000 in
theorem branch_free (lo eb : Nat) (db : Int) (hit fl : Bool) (zss : List (List Int)) (k : Nat) (tv : Value) (ts : List Int) (first : Int) (w : World) (h : Srch w lo eb db hit fl zss) (hk : k < zss.length)
    (hzk : (zss.getD k []).length ≤ 1048577) (ht : Row w 0 tv ts) (htn : ts.length ≠ 0) (htl : ts.length ≤ 1048576) (hb : ¬ (0 < db ∧ db ≤ k)) (hfull : (∀ t ∈ ts, ¬ t ∈ zss.getD k []) → fl = true ∧ (zss.getD k []).length ≤ 1048576) :
    Calls Try.prog 49 #[.pointer (some ⟨eb, 0, none⟩), .int .i64 k, tv, .int .i64 first] w fun e w' => e = .returned (.tuple #[]) ∧ Freed w lo eb db hit zss k ts first w' := by
  obtain ⟨pb, c, v, c1, c2, c3, c4, hr, f4, hput⟩ := h.point hk
  have HP : Hid (∀ w1 v1 zs', Below w.heap.size w w1 → RowB w1 false v1 zs' → Added w lo eb db hit (zss.set k zs') (w1.setCell ⟨pb + 1 + k, 3, none⟩ v1)) := hput
  clear hput h
  have ht' := ht
  obtain ⟨ta, tc, e1, _, hc⟩ := ht'
  subst e1
  obtain ⟨tb, toff, rfl, _, hcell⟩ := hc htn
  have hcase : (Hid (¬ 0 < db) ∧ decide (0 < db) = false) ∨ (decide (0 < db) = true ∧ decide (db ≤ (k : Int)) = false) := by
    by_cases q : 0 < db
    · exact Or.inr ⟨by simpa using q, by simpa using fun h => hb ⟨q, h⟩⟩
    · exact Or.inl ⟨q, by simpa using q⟩
  have HF : Hid ((∀ t ∈ ts, ¬ t ∈ zss.getD k []) → fl = true ∧ (zss.getD k []).length ≤ 1048576) := hfull
  obtain ⟨row, HROW⟩ : ∃ row, Hid (row = zss.getD k []) := ⟨_, rfl⟩
  rw [← HROW.out] at hr hzk
  have hr' := hr
  obtain ⟨va, vc, e2, hh2⟩ := hr'
  subst e2
  clear hh2 hb hfull hc
  rcases hcase with ⟨_, d1⟩ | ⟨d1, d2⟩
  all_goals go_enter Try.func49, Try.ntmps49
  all_goals go_wp2
  all_goals
    go_loop [36, 10] (fun i _ => ∃ j : Nat, j ≤ ts.length ∧ i = .int .i64 j ∧ Hid (∀ i, i < j → ¬ ts.getD i 0 ∈ row)) (fun i _ => ts.length - (intOf i).toNat)
    case atStart => exact ⟨0, Nat.zero_le _, rfl, fun i hi => absurd hi (Nat.not_lt_zero _)⟩
    case round =>
      obtain ⟨j, hj, rfl, hall⟩ := hrel
      by_cases hlt : j < ts.length
      · have y := hcell j hlt
        obtain ⟨t, HT⟩ : ∃ t, Hid (t = ts.getD j 0) := ⟨_, rfl⟩
        rw [← HT.out] at y
        clear hcell
        go_wp2_with fail
        refine (indexOf_any _ row t _ hzk hr.row).mono ?_
        rintro e w1 ⟨⟨r, rfl, hr1, hr2⟩, hw1⟩
        rw [hw1]
        clear hw1
        by_cases hm : t ∈ row
        · have hr0 := hr1 hm
          have HM : Hid (∃ t ∈ ts, t ∈ zss.getD k []) := ⟨t, by rw [HT.out]; exact mem_getD hlt, by rw [← HROW.out]; exact hm⟩
          clear hr1 hr2 hm
          go_wp2
          exact bodyPost_ret (v := .tuple #[]) (by simp [results, Try.results49, go_sem]) rfl ⟨rfl, Or.inl ⟨HM.out, rfl⟩⟩
        · have hr0 := hr2 hm
          have HM : Hid (¬ t ∈ row) := hm
          clear hr1 hr2 hm
          go_wp2
          go_round
          case rel =>
            refine ⟨j + 1, by omega, by go_num, fun i hi => ?_⟩
            by_cases e : i = j
            · subst e; rw [← HT.out]; exact HM.out
            · exact hall.out i (by omega)
          case measure => simp [intOf]; omega
      · obtain rfl : j = ts.length := by omega
        have HNO : Hid (∀ t ∈ ts, ¬ t ∈ zss.getD k []) := by
          intro t hm
          obtain ⟨i, hi, e⟩ := List.mem_iff_getElem.1 hm
          have := hall.out i hi
          rw [List.getD, List.getElem?_eq_getElem hi] at this
          rw [← HROW.out, ← e]
          exact this
        have hfl : fl = true := (HF.out HNO.out).1
        have hzr : row.length ≤ 1048576 := by have := (HF.out HNO.out).2; rw [← HROW.out] at this; exact this
        have HR : Hid (RowB w true (.slice va row.length vc) row) := by rw [hfl] at hr; exact hr
        clear hr hfl
        have y0 := hcell 0 (by omega)
        obtain ⟨t0, HT0⟩ : ∃ t, Hid (t = ts.getD 0 0) := ⟨_, rfl⟩
        rw [← HT0.out] at y0
        rw [Nat.add_zero] at y0
        clear hcell
        go_wp2_with fail
        refine (indexOf_any _ ts first _ (by omega) ht).mono ?_
        rintro e w1 ⟨⟨r, rfl, hr1, hr2⟩, hw1⟩
        rw [hw1]
        clear hw1
        obtain ⟨x, HX⟩ : ∃ x, Hid (x = pick ts first) := ⟨_, rfl⟩
        have had : (w.alloc (.cells #[.int .i64 x] 3)).cell? ⟨w.heap.size, 0, none⟩ = some (.int .i64 x) := by rw [cell_at (heap_alloc_new w _)]; rfl
        have hal : Below w.heap.size w (w.alloc (.cells #[.int .i64 x] 3)) := (Below.refl _ _).alloc (Nat.le_refl _) _
        obtain ⟨na, nc, w2, hrun, hnr, hnb⟩ := append_full (w.alloc (.cells #[.int .i64 x] 3)) (.slice va row.length vc) row x (HR.out.keep (IntsKept.of_below hal)) ⟨w.heap.size, 0, none⟩ had hzr
        have hb2 : Below w.heap.size w w2 := hal.trans (hnb.mono (by simp))
        have HFIN : Hid (Added w lo eb db hit (zss.set k (row ++ [x])) (w2.setCell ⟨pb + 1 + k, 3, none⟩ (.slice na (row.length + 1) nc))) := HP.out w2 _ _ hb2 hnr
        have c5 := cell_keep hb2 c4
        have f5 := (hb2.frozen (p := ⟨pb + 1 + k, 3, none⟩) (lt_of_cell c4)).trans f4
        have HRUN : Hid (∀ ty, (Builtin.append_ #[22, 22] ty #[.slice va row.length vc, .slice (some ⟨w.heap.size, 0, none⟩) 1 1]).run Try.prog (w.alloc (.cells #[.int .i64 x] 3)) = .ok (.slice na (row.length + 1) nc) w2) := hrun
        have hpl := lt_of_cell c4
        clear hrun hnr hnb hb2 had hal
        by_cases hm : first ∈ ts
        · have hr0 := hr1 hm
          obtain rfl : x = first := by have := HX.out; unfold pick at this; rw [if_pos hm] at this; exact this
          clear hr1 hr2 hm
          go_wp2_with (at_builtin; refine Lib.wpList_append_run _ rfl _ _ _ _ rfl _ _ rfl rfl _ _ (HRUN.out _) ?_)
          go_end0
          refine ⟨rfl, Or.inr ⟨HNO.out, ?_⟩⟩
          rw [← HROW.out, ← HX.out]
          exact HFIN.out
        · have hr0 := hr2 hm
          obtain rfl : x = t0 := by have := HX.out; unfold pick at this; rw [if_neg hm, ← HT0.out] at this; exact this
          clear hr1 hr2 hm
          go_wp2_with (at_builtin; refine Lib.wpList_append_run _ rfl _ _ _ _ rfl _ _ rfl rfl _ _ (HRUN.out _) ?_)
          go_end0
          refine ⟨rfl, Or.inr ⟨HNO.out, ?_⟩⟩
          rw [← HROW.out, ← HX.out]
          exact HFIN.out

end Go.Proofs.Qxb6600018a
