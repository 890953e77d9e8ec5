import Derived.Test.Qxb6600119aWriter
import Derived.BigRegion
namespace Go.Proofs.Qxb6600119a
open Go.RowKit

theorem rep_succ (bs : List Int) (k : Nat) : bs ++ List.replicate k 0 ++ [(0 : Int)] = bs ++ List.replicate (k + 1) 0 := by
  rw [List.append_assoc, ← List.replicate_succ']

/-- While the writer's length bytes are laid. -/
structure Lz (w wr : World) (B wb : Nat) (bs : List Int) : Prop where
  held : Wr wr B wb bs
  fr : Fr B wb w wr

/-- 1 << 24, behind a name. -/
def LIM : Int := 16777216

/-- One byte of a length. -/
def byteAt (n i : Nat) : Int := ((n / 256 ^ i % 256 : Nat) : Int)
theorem byte0 (n : Nat) : byteAt n 0 = (n : Int) % 256 := by unfold byteAt; simp
theorem byte1 (n : Nat) : byteAt n 1 = (n : Int) / 256 % 256 := by unfold byteAt; simp
theorem byte2 {n : Nat} (h : n ≤ 16777215) : byteAt n 2 = (n : Int) / 65536 := by
  unfold byteAt
  rw [show n / 256 ^ 2 % 256 = n / 65536 by omega]
  simp
/-- The length's p bytes, the last k of them laid. -/
def hd (p n k : Nat) : List Int := (List.range p).map fun j => if p - 1 - j < k then byteAt n (p - 1 - j) else 0

theorem hd_zero (p n : Nat) : hd p n 0 = List.replicate p 0 := by
  unfold hd
  apply List.ext_getElem?
  intro i
  by_cases hi : i < p
  · simp [hi]
  · simp [hi]

theorem hd_length (p n k : Nat) : (hd p n k).length = p := by simp [hd]

/-- One byte of the writer's row, opened: what is read, and what holds where it has been replaced. -/
theorem Lz.point {w wr : World} {B wb : Nat} {L : List Int} (h : Lz w wr B wb L) {j : Nat} (hj : j < L.length) :
    ∃ g cap, wr.cell? ⟨wb, 0, none⟩ = some (.slice (some ⟨g, 0, none⟩) L.length cap) ∧ (∃ x, wr.cell? ⟨g, j, none⟩ = some x) ∧ wr.frozen? ⟨g, j, none⟩ = false ∧ g ≠ wb ∧
      ∀ u : Int, Lz w (wr.setCell ⟨g, j, none⟩ (.int .u8 u)).drew B wb (L.set j u) := by
  obtain ⟨⟨v, hB, hBw, hwb, hown⟩, hfr⟩ := h
  obtain ⟨g, cap, hv⟩ : ∃ g cap, v = .slice (some ⟨g, 0, none⟩) L.length cap := by
    rcases hown.2 with ⟨_, h0⟩ | ⟨g, cap, cur, rfl, _⟩
    · omega
    · exact ⟨g, cap, rfl⟩
  subst hv
  have hne : g ≠ wb := by
    intro e
    exact own_ne hown hwb (by decide) (by simp [Value.ownBlock, e])
  have hgB := (hown.lt g rfl).1
  refine ⟨g, cap, by rw [cell_at hwb]; rfl, ⟨_, by rw [hown.cellAt j (by omega), List.getElem?_map, List.getElem?_eq_getElem hj]; rfl⟩, hown.frozenAt j, hne, fun u => ?_⟩
  have hst := hown.stored j (.int .u8 u)
  have hk : Fr B wb wr (wr.setCell ⟨g, j, none⟩ (.int .u8 u)) := ⟨(Below.refl _ _).setCell hgB _, fun k arr t hk ht _ => hst.2.block k (block_lt hk) (own_ne hown hk ht)⟩
  refine ⟨⟨.slice (some ⟨g, 0, none⟩) L.length cap, hB, by simpa using hBw, ?_, ?_⟩, (hfr.trans hk).drew⟩
  · show (wr.setCell ⟨g, j, none⟩ (.int .u8 u)).heap[wb]? = _
    rw [Below.heap_setCell wr ⟨g, j, none⟩ _ wb (fun e => hne e.symm)]
    exact hwb
  · have := hst.1
    rw [← List.map_set] at this
    rw [List.length_set]
    exact this

theorem hd_step (bs fs : List Int) (P n k : Nat) (hk : k < P) : (bs ++ hd P n k ++ fs).set (bs.length + P - 1 - k) (byteAt n k) = bs ++ hd P n (k + 1) ++ fs := by
  apply List.ext_getElem?
  intro i
  rw [List.getElem?_set]
  have hl := hd_length P n k
  have hl' := hd_length P n (k + 1)
  have hlen : (bs ++ hd P n k ++ fs).length = bs.length + P + fs.length := by simp [hl]; omega
  by_cases e : bs.length + P - 1 - k = i
  · rw [if_pos e, if_pos (by omega), List.getElem?_append_left (by simp [hl']; omega), List.getElem?_append_right (by omega)]
    unfold hd
    rw [List.getElem?_map, List.getElem?_range (by omega)]
    simp only [Option.map_some]
    rw [if_pos (by omega), show P - 1 - (i - bs.length) = k by omega]
  · rw [if_neg e]
    by_cases h1 : i < bs.length
    · rw [List.getElem?_append_left (by simp; omega), List.getElem?_append_left h1, List.getElem?_append_left (by simp; omega), List.getElem?_append_left h1]
    · by_cases h2 : i < bs.length + P
      · rw [List.getElem?_append_left (by simp [hl]; omega), List.getElem?_append_right (by omega), List.getElem?_append_left (by simp [hl']; omega), List.getElem?_append_right (by omega)]
        unfold hd
        rw [List.getElem?_map, List.getElem?_map, List.getElem?_range (by omega)]
        simp only [Option.map_some]
        by_cases h3 : P - 1 - (i - bs.length) < k
        · rw [if_pos h3, if_pos (by omega)]
        · rw [if_neg h3, if_neg (by omega)]
      · rw [List.getElem?_append_right (by simp [hl]; omega), List.getElem?_append_right (by simp [hl']; omega)]
        simp [hl, hl']

theorem hd_step' (bs fs : List Int) (P n k q : Nat) (hq : q + k + 1 = P) : (bs ++ hd P n k ++ fs).set (bs.length + q) (byteAt n k) = bs ++ hd P n (k + 1) ++ fs := by
  rw [← hd_step bs fs P n k (by omega), show bs.length + P - 1 - k = bs.length + q by omega]

set_option maxRecDepth 100000 in
set_option maxHeartbeats 1000000 in
theorem vector_any (p : Nat) (hp : p = 1 ∨ p = 3) (f : Nat) (hf : f = 49 ∨ f = 41) (cb : Nat) (B wb : Nat) (bs fs : List Int) (w : World) (h : Wr w B wb bs) (hsz : bs.length + 3 ≤ 8388608) (hfl : p = 1 → fs.length ≤ 255) (hfl3 : fs.length ≤ 16777215)
    (hfill : ∀ w1, Wr w1 B wb (bs ++ List.replicate p 0) → Fr B wb w w1 → Calls Try.prog f #[.pointer (some ⟨wb, 0, none⟩), .pointer (some ⟨cb, 0, none⟩)] w1 fun e w' => Wrote w1 B wb (bs ++ List.replicate p 0 ++ fs) e w') :
    Calls Try.prog 40 #[.pointer (some ⟨wb, 0, none⟩), .int .i64 p, .func (.func f) #[] #[.pointer (some ⟨cb, 0, none⟩)]] w fun e w' => Wrote w B wb (bs ++ (hd p fs.length p ++ fs)) e w' := by
  have HF : Hid (∀ w1, Wr w1 B wb (bs ++ List.replicate p 0) → Fr B wb w w1 → Calls Try.prog f #[.pointer (some ⟨wb, 0, none⟩), .pointer (some ⟨cb, 0, none⟩)] w1 fun e w' => Wrote w1 B wb (bs ++ List.replicate p 0 ++ fs) e w') := hfill
  clear hfill
  have hl0 : Lz w w B wb (bs ++ List.replicate 0 0) := ⟨by simpa using h, Fr.refl _ _ _⟩
  obtain ⟨v, hB, hBw, hwb, hown⟩ := h
  obtain ⟨va, vc, hv⟩ := own_slice hown
  subst hv
  have cw : w.cell? ⟨wb, 0, none⟩ = some (.slice va bs.length vc) := by rw [cell_at hwb]; rfl
  clear hown hwb
  obtain ⟨i0, hi, hz0, hz1, hz2⟩ := info_parts Try.info5
  have hp3 : p ≤ 3 := by omega
  go_enter Try.func40, Try.ntmps40
  go_wp2
  go_loopw [7] (fun i wr => ∃ k : Nat, k ≤ p ∧ i = .int .i64 k ∧ Lz w wr B wb (bs ++ List.replicate k 0)) (fun i _ => p - (intOf i).toNat)
  case atStart => exact ⟨0, Nat.zero_le _, rfl, hl0⟩
  case round =>
    obtain ⟨k, hk, rfl, hl⟩ := hrel
    clear hl0 cw
    by_cases hlt : k < p
    · obtain ⟨⟨v, _, hBw', hwb, hown⟩, hfr⟩ := hl
      obtain ⟨xs, hx⟩ : ∃ xs : List Int, xs = bs ++ List.replicate k 0 := ⟨_, rfl⟩
      have HX : Hid (xs = bs ++ List.replicate k 0) := hx
      clear hx
      rw [← HX.out] at hown
      have hxl : xs.length = bs.length + k := by rw [HX.out]; simp
      have hxl' : xs.length ≤ 8388608 := by omega
      clear hxl
      obtain ⟨ua, uc, hv⟩ := own_slice hown
      subst hv
      have cw : wr.cell? ⟨wb, 0, none⟩ = some (.slice ua xs.length uc) := by rw [cell_at hwb]; rfl
      have fw : wr.frozen? ⟨wb, 0, none⟩ = false := frozen_at hwb
      have HO : Hid (wr.ownsRow B 5 1 (.slice ua xs.length uc) xs.length (xs.map (Value.int .u8))) := hown
      have HW : Hid (wr.heap[wb]? = some (Obj.cells #[.slice ua xs.length uc] 58 (0, 0))) := hwb
      clear hown hwb
      go_wp2_with (at_builtin; refine wpList_append_own _ rfl (.tmp 24) (.tmp 25) 22 rfl B 5 i0 (.int .u8 0) 1 1 Try.underlying22 hi hz0 hz1 hz2 rfl (by decide) _ _ _ rfl (HO.out.alloc _) ⟨wr.heap.size, 0, none⟩ 1 1 ([0].map (Value.int .u8)) rfl rfl ?c1 (ints_one _) ?c3 ?c4 ?c5 ?_)
      case c1 =>
        intro j u hj
        match j, hj with
        | 0, hj => simp at hj; subst hj; simp [Addr.add]
      case c3 => unfold maxLen; omega
      case c4 => omega
      case c5 => simp; omega
      intro v' w1 hown1 hgrow _
      obtain ⟨na, nc, hv', q1, q2, q3, q4⟩ := put_new [0] hB hBw' HW.out HO.out hown1 hgrow
      rw [hv']
      have HL : Hid (Lz w (w1.setCell ⟨wb, 0, none⟩ (.slice na (xs.length + 1) nc)) B wb (bs ++ List.replicate (k + 1) 0)) := ⟨by rw [HX.out] at q1; rw [← rep_succ]; rw [HX.out]; exact q1, hfr.trans q2⟩
      clear q1 q2 hown1 hgrow hv' hfr
      go_wp2
      go_roundw
      case rel => exact ⟨k + 1, by omega, by go_num, HL.out⟩
      case measure => simp [intOf]; omega
    · obtain rfl : k = p := by omega
      rcases hf with rfl | rfl
      all_goals
        go_wp2_with fail
        refine (HF.out _ hl.held hl.fr).mono ?_
        rintro e w1 ⟨rfl, hw1, hfr1⟩
        have hfr := hl.fr.trans hfr1
        obtain ⟨xs, hx⟩ : ∃ xs : List Int, xs = bs ++ List.replicate k 0 ++ fs := ⟨_, rfl⟩
        have HX : Hid (xs = bs ++ List.replicate k 0 ++ fs) := hx
        rw [← hx] at hw1
        have hxl : xs.length = bs.length + k + fs.length := by rw [hx]; simp; omega
        clear hx
        obtain ⟨v, _, hBw', hwb, hown⟩ := hw1
        obtain ⟨ua, uc, hv⟩ := own_slice hown
        subst hv
        have cw : w1.cell? ⟨wb, 0, none⟩ = some (.slice ua xs.length uc) := by rw [cell_at hwb]; rfl
        have hxb : xs.length ≤ 33554432 := by omega
        have hn : (xs.length : Int) - (bs.length : Int) - (k : Int) = (fs.length : Int) := by omega
        have hlz : Lz w w1 B wb (bs ++ hd k fs.length 0 ++ fs) := ⟨⟨_, hB, hBw', hwb, by rw [hd_zero, ← HX.out]; exact hown⟩, hfr⟩
        obtain ⟨P, hP⟩ : ∃ P : Nat, P = k := ⟨_, rfl⟩
        rw [← hP] at hlz
        have HP : Hid (P = k) := hP
        have hP3 : P ≤ 3 := by omega
        clear hxl hown hwb hl hfr hfr1 HF hP HX
        have hw24 : IntKind.i64.wrap 16777216 = LIM := by rw [IntKind.wrap_i64]; unfold LIM; omega
        have hw24' : wrap64 16777216 = LIM := by unfold wrap64 LIM; omega
        have hlm : decide (LIM ≤ (fs.length : Int)) = false := by unfold LIM; simp; omega
        have hcs : (k = 1 ∧ decide ((256 : Int) ≤ (fs.length : Int)) = false) ∨ k = 3 := by
          rcases hp with h | h
          · exact Or.inl ⟨h, by have := hfl h; simp; omega⟩
          · exact Or.inr h
        clear hp hfl
        rcases hcs with ⟨rfl, d8⟩ | rfl
        all_goals
          simp only [Int.cast_ofNat_Int] at hn
          go_wp2
          go_loopw [9] (fun i wr => ∃ k : Nat, k ≤ P ∧ i = .int .i64 k ∧ Lz w wr B wb (bs ++ hd P fs.length k ++ fs)) (fun i _ => P - (intOf i).toNat)
          case atStart => exact ⟨0, Nat.zero_le _, rfl, hlz⟩
          case round =>
            obtain ⟨k, hk, rfl, hl⟩ := hrel
            clear hlz cw hw24 hw24' hlm hn
            have hPe := HP.out
            have hcs : (k < P ∧ (k = 0 ∨ k = 1 ∨ k = 2)) ∨ k = P := by omega
            rcases hcs with ⟨hlt, hk3⟩ | rfl
            case inr =>
              subst hPe
              go_wp2
              go_end0
              exact ⟨rfl, by rw [← List.append_assoc]; exact hl.held, hl.fr⟩
            case inl =>
              obtain ⟨q, hq⟩ : ∃ q, q + k + 1 = P := ⟨P - 1 - k, by omega⟩
              have hjl : bs.length + q < (bs ++ hd P fs.length k ++ fs).length := by simp [hd_length]; omega
              obtain ⟨g, cap, c0, ⟨x, c1⟩, f1, hne, hst⟩ := hl.point hjl
              have HST : Hid (Lz w (wr.setCell ⟨g, bs.length + q, none⟩ (.int .u8 (byteAt fs.length k))).drew B wb (bs ++ hd P fs.length (k + 1) ++ fs)) := by
                have := hst (byteAt fs.length k)
                rw [hd_step' bs fs P fs.length k q hq] at this
                exact this
              have hml : (bs ++ hd P fs.length k ++ fs).length ≤ 33554432 := by simp [hd_length]; omega
              generalize (bs ++ hd P fs.length k ++ fs).length = m at c0 hjl hml
              have hq3 : q = 0 ∨ q = 1 ∨ q = 2 := by omega
              clear hst hl
              rcases hk3 with rfl | rfl | rfl <;> rcases hq3 with rfl | rfl | rfl
              all_goals try (exfalso; omega)
              all_goals subst hPe
              all_goals clear hq
              all_goals try simp only [Nat.add_zero] at c1 f1
              all_goals try rw [byte0] at HST
              all_goals try rw [byte1] at HST
              all_goals try rw [byte2 hfl3] at HST
              all_goals
                have hz0' : bs.length + 3 - 1 - 2 = bs.length := by omega
                go_wp2
                go_region
                go_wp2
                go_roundw
                case rel => exact ⟨_, by omega, by go_num, HST.out⟩
                case measure => simp [intOf]

end Go.Proofs.Qxb6600119a
