import Derived.Test.Qxb6600119aClone
import Derived.Laws.AppendOwnNone
namespace Go.Proofs.Qxb6600119a
open Go.RowKit

/-- The writer behind 'wb' holds the bytes 'bs', in a row of its own from block B on. -/
def Wr (w : World) (B wb : Nat) (bs : List Int) : Prop :=
  ∃ v, B ≤ wb ∧ B ≤ w.heap.size ∧ w.heap[wb]? = some (Obj.cells #[v] 58 (0, 0)) ∧ w.ownsRow B 5 1 v bs.length (bs.map (Value.int .u8))

/-- What a call of the writer's leaves alone: all blocks below B, and every block that bears no bytes but the writer's own. -/
structure Fr (B wb : Nat) (w w' : World) : Prop where
  bel : Below B w w'
  other : ∀ (k : Nat) (arr : Array Value) (t : TypeId), w.heap[k]? = some (Obj.cells arr t (0, 0)) → t ≠ 5 → k ≠ wb → w'.heap[k]? = w.heap[k]?

theorem Fr.refl (B wb : Nat) (w : World) : Fr B wb w w := ⟨Below.refl _ _, fun _ _ _ _ _ _ => rfl⟩
theorem Fr.trans {B wb : Nat} {a b c : World} (h : Fr B wb a b) (k : Fr B wb b c) : Fr B wb a c :=
  ⟨h.bel.trans k.bel, fun i arr t hi ht hn => by
    have e := h.other i arr t hi ht hn
    rw [k.other i arr t (e.trans hi) ht hn, e]⟩
theorem Fr.alloc {B wb : Nat} {w w' : World} (h : Fr B wb w w') (hB : B ≤ w'.heap.size) (o : Obj) : Fr B wb w (w'.alloc o) :=
  h.trans ⟨(Below.refl _ _).alloc hB _, fun _ _ _ hk _ _ => Below.heap_alloc _ _ _ (block_lt hk)⟩
theorem Fr.drew {B wb : Nat} {w w' : World} (h : Fr B wb w w') : Fr B wb w w'.drew := h.trans ⟨(Below.refl _ _).drew, fun _ _ _ _ _ _ => rfl⟩

theorem own_slice {w : World} {B n : Nat} {v : Value} {xs : List Value} {t : TypeId} (h : w.ownsRow B t 1 v n xs) : ∃ a c, v = .slice a n c := by
  rcases h.2 with ⟨rfl, rfl⟩ | ⟨g, cap, cur, rfl, _⟩
  · exact ⟨none, 0, rfl⟩
  · exact ⟨_, cap, rfl⟩

theorem own_ne {w : World} {B n : Nat} {v : Value} {xs : List Value} (h : w.ownsRow B 5 1 v n xs) {k : Nat} {arr : Array Value} {t : TypeId} (hk : w.heap[k]? = some (Obj.cells arr t (0, 0))) (ht : t ≠ 5) : some k ≠ v.ownBlock := by
  rcases h.2 with ⟨rfl, _⟩ | ⟨g, cap, cur, rfl, _, hg, _⟩
  · simp [Value.ownBlock]
  · intro e
    simp only [Value.ownBlock, Option.some.injEq] at e
    subst e
    rw [hg] at hk
    simp at hk
    exact ht hk.2.symm

/-- The row has been appended to (and may lie elsewhere now), the new slice is stored into the writer. -/
theorem wr_put {w w1 : World} {B wb n n' : Nat} {v v' : Value} {xs xs' : List Value} (hB : B ≤ wb) (hBw : B ≤ w.heap.size) (hwb : w.heap[wb]? = some (Obj.cells #[v] 58 (0, 0))) (hown : w.ownsRow B 5 1 v n xs)
    (hown1 : w1.ownsRow B 5 1 v' n' xs') (hg : w.grownBy w1 v.ownBlock) :
    (w1.setCell ⟨wb, 0, none⟩ v').heap[wb]? = some (Obj.cells #[v'] 58 (0, 0)) ∧ (w1.setCell ⟨wb, 0, none⟩ v').ownsRow B 5 1 v' n' xs' ∧ Fr B wb w (w1.setCell ⟨wb, 0, none⟩ v') ∧ w1.cell? ⟨wb, 0, none⟩ = some v ∧ w1.frozen? ⟨wb, 0, none⟩ = false := by
  have h1 : w1.heap[wb]? = some (Obj.cells #[v] 58 (0, 0)) := (hg.block wb (block_lt hwb) (own_ne hown hwb (by decide))).trans hwb
  have hne := own_ne hown1 h1 (by decide)
  have hbel : Below B w w1 := (Below.refl _ _).grown hg hBw (fun k e => (hown.lt k e).1)
  refine ⟨?_, ?_, ⟨hbel.setCell hB _, fun k arr t hk ht hn => ?_⟩, by rw [cell_at h1]; rfl, frozen_at h1⟩
  · have := heap_setCell_same w1 wb 0 #[v] 58 v' h1
    simpa using this
  · refine ⟨hown1.1, ?_⟩
    rcases hown1.2 with h | ⟨g, cap, cur, rfl, hb, hgg, r⟩
    · exact Or.inl h
    · refine Or.inr ⟨g, cap, cur, rfl, hb, ?_, r⟩
      rw [Below.heap_setCell w1 ⟨wb, 0, none⟩ _ g (by intro e; exact hne (by simp [Value.ownBlock]; exact e.symm))]
      exact hgg
  · rw [Below.heap_setCell w1 ⟨wb, 0, none⟩ _ k hn]
    exact hg.block k (block_lt hk) (own_ne hown hk ht)

/-- What a call of the writer's comes to. -/
def Wrote (w : World) (B wb : Nat) (bs : List Int) (e : Ending) (w' : World) : Prop := e = .returned (.tuple #[]) ∧ Wr w' B wb bs ∧ Fr B wb w w'

theorem row_news {w : World} {lo : Nat} {ad : Addr} {c : Nat} {zs : List Int} (h : Row w lo (.slice (some ad) zs.length c) zs) : ∀ j u, (zs.map (Value.int .u8))[j]? = some u → w.cell? (ad.add j) = some u := by
  intro j u hj
  obtain ⟨a', c', hv, _, hc⟩ := h
  simp only [Value.slice.injEq] at hv
  obtain ⟨ha, _, rfl⟩ := hv
  subst ha
  have hlt : j < zs.length := by
    have := (List.getElem?_eq_some_iff.1 hj).1
    simpa using this
  obtain ⟨b, off, hb, _, hx⟩ := hc (by omega)
  obtain rfl := Option.some.inj hb
  have e : (⟨b, off, none⟩ : Addr).add j = ⟨b, off + j, none⟩ := by unfold Addr.add; split <;> simp_all
  rw [e, hx j hlt]
  simp only [List.getElem?_map, List.getElem?_eq_getElem hlt, Option.map_some, Option.some.injEq] at hj
  rw [← hj]
  simp [List.getD, List.getElem?_eq_getElem hlt]

theorem ints_one (zs : List Int) : ∀ u ∈ zs.map (Value.int .u8), u.oneCell' = true := by
  intro u hu
  obtain ⟨z, _, rfl⟩ := List.mem_map.1 hu
  rfl

set_option maxHeartbeats 400000 in
theorem bytes_any (B wb : Nat) (bs zs : List Int) (sv : Value) (w : World) (h : Wr w B wb bs) (hs : Row w 0 sv zs) (hsz : bs.length + zs.length ≤ 16777216) :
    Calls Try.prog 50 #[.pointer (some ⟨wb, 0, none⟩), sv] w fun e w' => Wrote w B wb (bs ++ zs) e w' := by
  obtain ⟨v, hB, hBw, hwb, hown⟩ := h
  obtain ⟨i0, hi, hz0, hz1, hz2⟩ := info_parts Try.info5
  have cw : w.cell? ⟨wb, 0, none⟩ = some v := by rw [cell_at hwb]; rfl
  have fw : w.frozen? ⟨wb, 0, none⟩ = false := frozen_at hwb
  have HO : Hid (w.ownsRow B 5 1 v bs.length (bs.map (Value.int .u8))) := hown
  have HW : Hid (w.heap[wb]? = some (Obj.cells #[v] 58 (0, 0))) := hwb
  obtain ⟨va, vc, hv⟩ := own_slice hown
  subst hv
  have hs' := hs
  obtain ⟨sa, sc, hsv, hn, _⟩ := hs'
  subst hsv
  clear hown hwb
  cases sa with
  | none =>
    obtain ⟨h0, rfl⟩ := hn rfl
    have hz : zs = [] := List.eq_nil_of_length_eq_zero h0
    subst hz
    clear hn hs h0
    go_enter Try.func50, Try.ntmps50
    go_wp2_with (at_builtin; refine wpList_append_own_none rfl (.tmp 8) (.tmp 9) 22 rfl B 5 i0 1 Try.underlying22 hi _ _ _ rfl HO.out rfl ?_)
    go_end0
    have hg : w.grownBy w (Value.ownBlock (.slice va bs.length vc)) := ⟨rfl, rfl, rfl, Nat.le_refl _, fun _ _ _ => rfl⟩
    obtain ⟨p1, p2, p3, _⟩ := wr_put hB hBw HW.out HO.out HO.out hg
    rw [List.append_nil]
    exact ⟨rfl, ⟨_, hB, by simpa using hBw, p1, p2⟩, p3⟩
  | some ad =>
    have HN : Hid (∀ j u, (zs.map (Value.int .u8))[j]? = some u → w.cell? (ad.add j) = some u) := row_news hs
    clear hn hs
    go_enter Try.func50, Try.ntmps50
    go_wp2_with (at_builtin; refine wpList_append_own _ rfl (.tmp 8) (.tmp 9) 22 rfl B 5 i0 (.int .u8 0) 1 1 Try.underlying22 hi hz0 hz1 hz2 rfl (by decide) _ _ _ rfl HO.out ad zs.length sc (zs.map (Value.int .u8)) rfl (by simp) HN.out (ints_one zs) ?c3 ?c4 hBw ?_)
    case c3 => unfold maxLen; omega
    case c4 => omega
    intro v' w1 hown1 hgrow _
    obtain ⟨p1, p2, p3, p4, p5⟩ := wr_put hB hBw HW.out HO.out hown1 hgrow
    obtain ⟨na, nc, hv'⟩ := own_slice hown1
    rw [hv'] at p1 p2 p3 ⊢
    have HF : Hid (Wr (w1.setCell ⟨wb, 0, none⟩ (.slice na (bs.length + zs.length) nc)) B wb (bs ++ zs) ∧ Fr B wb w (w1.setCell ⟨wb, 0, none⟩ (.slice na (bs.length + zs.length) nc))) :=
      ⟨⟨_, hB, Nat.le_trans hBw p3.bel.size, p1, by rw [List.length_append, List.map_append]; exact p2⟩, p3⟩
    clear p1 p2 p3 hown1 hgrow hv'
    go_wp2
    go_end0
    exact ⟨rfl, HF.out⟩

theorem Wr.alloc {w : World} {B wb : Nat} {bs : List Int} (h : Wr w B wb bs) (o : Obj) : Wr (w.alloc o) B wb bs := by
  obtain ⟨v, hB, hBw, hwb, hown⟩ := h
  exact ⟨v, hB, by simp; omega, by rw [Below.heap_alloc _ _ _ (block_lt hwb)]; exact hwb, hown.alloc _⟩

/-- 'n' bytes that lie at the head of a new block are appended: the law for the walk, its end told at once. -/
theorem put_new {w : World} {B wb : Nat} {bs : List Int} {va : Option Addr} {vc : Nat} (news : List Int) (hB : B ≤ wb) (hBw : B ≤ w.heap.size) (hwb : w.heap[wb]? = some (Obj.cells #[.slice va bs.length vc] 58 (0, 0)))
    (hown : w.ownsRow B 5 1 (.slice va bs.length vc) bs.length (bs.map (Value.int .u8))) {o : Obj} {w1 : World} {v' : Value} (hown1 : w1.ownsRow B 5 1 v' (bs.length + news.length) (bs.map (Value.int .u8) ++ news.map (Value.int .u8)))
    (hg : (w.alloc o).grownBy w1 (Value.ownBlock (.slice va bs.length vc))) :
    ∃ na nc, v' = .slice na (bs.length + news.length) nc ∧ Wr (w1.setCell ⟨wb, 0, none⟩ (.slice na (bs.length + news.length) nc)) B wb (bs ++ news) ∧ Fr B wb w (w1.setCell ⟨wb, 0, none⟩ (.slice na (bs.length + news.length) nc)) ∧
      w1.cell? ⟨wb, 0, none⟩ = some (.slice va bs.length vc) ∧ w1.frozen? ⟨wb, 0, none⟩ = false := by
  have hwb1 : (w.alloc o).heap[wb]? = some (Obj.cells #[.slice va bs.length vc] 58 (0, 0)) := by rw [Below.heap_alloc _ _ _ (block_lt hwb)]; exact hwb
  obtain ⟨p1, p2, p3, p4, p5⟩ := wr_put hB (by simp; omega) hwb1 (hown.alloc o) hown1 hg
  obtain ⟨na, nc, hv'⟩ := own_slice hown1
  rw [hv'] at p1 p2 p3
  have hsz := p3.bel.size
  refine ⟨na, nc, hv', ⟨_, hB, by simp at hsz ⊢; omega, p1, by rw [List.length_append, List.map_append]; exact p2⟩, ((Fr.refl B wb w).alloc hBw o).trans p3, p4, p5⟩

set_option maxHeartbeats 400000 in
theorem u16_zero (B wb : Nat) (bs : List Int) (w : World) (h : Wr w B wb bs) (hsz : bs.length ≤ 16777216) :
    Calls Try.prog 42 #[.pointer (some ⟨wb, 0, none⟩), .int .u16 0] w fun e w' => Wrote w B wb (bs ++ [0, 0]) e w' := by
  obtain ⟨v, hB, hBw, hwb, hown⟩ := h
  obtain ⟨i0, hi, hz0, hz1, hz2⟩ := info_parts Try.info5
  obtain ⟨va, vc, hv⟩ := own_slice hown
  subst hv
  have cw : w.cell? ⟨wb, 0, none⟩ = some (.slice va bs.length vc) := by rw [cell_at hwb]; rfl
  have fw : w.frozen? ⟨wb, 0, none⟩ = false := frozen_at hwb
  have HO : Hid (w.ownsRow B 5 1 (.slice va bs.length vc) bs.length (bs.map (Value.int .u8))) := hown
  have HW : Hid (w.heap[wb]? = some (Obj.cells #[.slice va bs.length vc] 58 (0, 0))) := hwb
  clear hown hwb
  go_enter Try.func42, Try.ntmps42
  go_wp2_with (at_builtin; refine wpList_append_own _ rfl (.tmp 8) (.tmp 14) 22 rfl B 5 i0 (.int .u8 0) 1 1 Try.underlying22 hi hz0 hz1 hz2 rfl (by decide) _ _ _ rfl (HO.out.alloc _) ⟨w.heap.size, 0, none⟩ 2 2 ([0, 0].map (Value.int .u8)) rfl rfl ?c1 (ints_one _) ?c3 ?c4 ?c5 ?_)
  case c1 =>
    intro j u hj
    match j, hj with
    | 0, hj => simp at hj; subst hj; simp [Addr.add]
    | 1, hj => simp at hj; subst hj; simp [Addr.add]
  case c3 => unfold maxLen; omega
  case c4 => omega
  case c5 => simp; omega
  intro v' w1 hown1 hgrow _
  obtain ⟨na, nc, hv', q1, q2, q3, q4⟩ := put_new [0, 0] hB hBw HW.out HO.out hown1 hgrow
  rw [hv']
  have HF : Hid (Wr (w1.setCell ⟨wb, 0, none⟩ (.slice na (bs.length + 2) nc)) B wb (bs ++ [0, 0]) ∧ Fr B wb w (w1.setCell ⟨wb, 0, none⟩ (.slice na (bs.length + 2) nc))) := ⟨q1, q2⟩
  clear q1 q2 hown1 hgrow hv'
  go_wp2
  go_end0
  exact ⟨rfl, HF.out⟩

end Go.Proofs.Qxb6600119a
