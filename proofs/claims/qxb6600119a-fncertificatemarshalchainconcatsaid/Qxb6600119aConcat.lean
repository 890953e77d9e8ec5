import Derived.Test.Qxb6600119aJoin
import Derived.Test.Qxb6600119aSize3
import Derived.Test.Qxb6600119aBack
import Derived.OwnWalk
namespace Go.Proofs.Qxb6600119a
open Go.RowKit

set_option maxRecDepth 8000 in
set_option maxHeartbeats 4000000 in
theorem concat_any (v1 v2 v3 : Value) (ctx : List Int) (a b : List (List Int)) (w : World) (h1 : Row w 0 v1 ctx) (h2 : Rows2 w v2 a) (h3 : Rows2 w v3 b) :
    Calls Try.prog 4 #[v1, v2, v3] w fun e w' => e = .returned (.bool true) ∧ Below w.heap.size w w' := by
  obtain ⟨i0, hi, hz0, hz1, hz2⟩ := info_parts Try.info22
  have h1' := h1
  have h2' := h2
  have h3' := h3
  obtain ⟨a1, c1, e1, hh1⟩ := h1'
  obtain ⟨a2, c2, e2, hh2, hc2⟩ := h2'
  obtain ⟨a3, c3, e3, hh3, hc3⟩ := h3'
  subst e1; subst e2; subst e3
  have HC3 : Hid (b.length ≠ 0 → ∃ bb off, a3 = some ⟨bb, off, none⟩ ∧ ∀ i, i < b.length → ∃ u, w.cell? ⟨bb, off + i, none⟩ = some u ∧ Row w 0 u (b.getD i [])) := hc3
  clear hh1 hh2 hh3 hc3
  go_enter Try.func4, Try.ntmps4
  go_wp2_with fail
  refine (zzBytes3_any _ _ _ ctx a b _ h1 h2 h3).mono ?_
  rintro e w0 ⟨⟨bo, rfl⟩, hw0⟩
  rw [hw0]
  clear hw0
  cases bo
  · go_wp2
    go_ret
    exact ⟨rfl, Below.refl _ _⟩
  by_cases q1 : 1048576 < ctx.length
  · have d1 : decide ((1048576 : Int) < (ctx.length : Int)) = true := by simp; omega
    go_wp2
    go_ret
    exact ⟨rfl, Below.refl _ _⟩
  have d1 : decide ((1048576 : Int) < (ctx.length : Int)) = false := by simp; omega
  by_cases q2 : 65536 < a.length
  · have d2 : decide ((65536 : Int) < (a.length : Int)) = true := by simp; omega
    go_wp2
    go_ret
    exact ⟨rfl, Below.refl _ _⟩
  have d2 : decide ((65536 : Int) < (a.length : Int)) = false := by simp; omega
  by_cases q2b : 65536 < b.length
  · have d2 : decide ((65536 : Int) < (b.length : Int)) = true := by simp; omega
    go_wp2
    go_ret
    exact ⟨rfl, Below.refl _ _⟩
  have d2b : decide ((65536 : Int) < (b.length : Int)) = false := by simp; omega
  by_cases q3 : 1048576 < ctx.length + 24 * (a.length + b.length)
  · have d3 : decide ((1048576 : Int) < (ctx.length : Int) + 24 * ((a.length : Int) + (b.length : Int))) = true := by simp; omega
    go_wp2
    go_ret
    exact ⟨rfl, Below.refl _ _⟩
  have d3 : decide ((1048576 : Int) < (ctx.length : Int) + 24 * ((a.length : Int) + (b.length : Int))) = false := by simp; omega
  go_wp2
  go_loop [7, 8] (fun t i => ∃ (k s : Nat), k ≤ a.length ∧ i = .int .i64 k ∧ t = .int .i64 s ∧ s ≤ 1048576 ∧ Hid ((body (a.take k)).length + 24 * (a.length + b.length) ≤ s + 5 * k)) (fun _ i => a.length - (intOf i).toNat)
  case atStart => exact ⟨0, ctx.length + 24 * (a.length + b.length), Nat.zero_le _, rfl, by go_num, by omega, by simp [Hid, body]⟩
  case round =>
    obtain ⟨k, s, hk, rfl, rfl, hs, HI⟩ := hrel
    clear d1 d2 d2b d3
    by_cases hlt : k < a.length
    · obtain ⟨b2, o2, rfl, x2⟩ := hc2 (by omega)
      obtain ⟨u2, y2, r2⟩ := x2 k hlt
      obtain ⟨d, hd⟩ : ∃ d : List Int, d = a.getD k [] := ⟨_, rfl⟩
      rw [← hd] at r2
      have HB : Hid ((body (a.take (k + 1))).length = (body (a.take k)).length + d.length + 5) := by
        show (body (a.take (k + 1))).length = (body (a.take k)).length + d.length + 5
        rw [body_take_succ a k hlt, List.length_append, entry_length, ← hd]
        omega
      obtain ⟨d2, e2, hu2, hh2⟩ := r2
      subst hu2
      clear x2 hc2 hh2 hd h1 h2 h3
      go_wp2
      · go_ret
        exact ⟨rfl, Below.refl _ _⟩
      · go_ret
        exact ⟨rfl, Below.refl _ _⟩
      · go_round
        case rel => exact ⟨k + 1, s + d.length, by omega, by go_num, by go_num, by omega, by have h1 := HB.out; have h2 := HI.out; show _ ≤ _; omega⟩
        case measure => simp [intOf]; omega
    obtain rfl : k = a.length := by omega
    obtain ⟨la, hla⟩ : ∃ la, la = (body a).length := ⟨_, rfl⟩
    have HLA : Hid (la = (body a).length) := hla
    have hI : la + 24 * (a.length + b.length) ≤ s + 5 * a.length := by have := HI.out; rw [List.take_length, ← hla] at this; omega
    clear HI hc2 hla hlt hk
    go_wp2
    go_loop [7, 9] (fun t i => ∃ (k s : Nat), k ≤ b.length ∧ i = .int .i64 k ∧ t = .int .i64 s ∧ s ≤ 1048576 ∧ Hid ((body (b.take k)).length + la + 24 * (a.length + b.length) ≤ s + 5 * (a.length + k))) (fun _ i => b.length - (intOf i).toNat)
    case atStart => exact ⟨0, s, Nat.zero_le _, rfl, rfl, hs, by show _ ≤ _; simp [body]; omega⟩
    case round =>
      clear hI
      obtain ⟨k, s2, hk, rfl, rfl, hs2, HI⟩ := hrel
      clear hs
      by_cases hlt : k < b.length
      · obtain ⟨b2, o2, rfl, x2⟩ := HC3.out (by omega)
        obtain ⟨u2, y2, r2⟩ := x2 k hlt
        obtain ⟨d, hd⟩ : ∃ d : List Int, d = b.getD k [] := ⟨_, rfl⟩
        rw [← hd] at r2
        have HB : Hid ((body (b.take (k + 1))).length = (body (b.take k)).length + d.length + 5) := by
          show (body (b.take (k + 1))).length = (body (b.take k)).length + d.length + 5
          rw [body_take_succ b k hlt, List.length_append, entry_length, ← hd]
          omega
        obtain ⟨d2, e2, hu2, hh2⟩ := r2
        subst hu2
        clear x2 HC3 hh2 hd h1 h2 h3
        go_wp2
        · go_ret
          exact ⟨rfl, Below.refl _ _⟩
        · go_ret
          exact ⟨rfl, Below.refl _ _⟩
        · go_round
          case rel => exact ⟨k + 1, s2 + d.length, by omega, by go_num, by go_num, by omega, by have h1 := HB.out; have h2 := HI.out; show _ ≤ _; omega⟩
          case measure => simp [intOf]; omega
      obtain rfl : k = b.length := by omega
      obtain ⟨lb, hlb⟩ : ∃ lb, lb = (body b).length := ⟨_, rfl⟩
      have HLB : Hid (lb = (body b).length) := hlb
      have hbl : la + lb ≤ 1048576 := by have := HI.out; rw [List.take_length, ← hlb] at this; omega
      clear HI HC3 hlb hlt hk
      by_cases q4 : 255 < ctx.length
      · clear h1 h2 h3
        go_wp2
        go_ret
        exact ⟨rfl, Below.refl _ _⟩
      have HDA : Hid (∀ i, i < a.length → (a.getD i []).length ≤ 1048576) := fun i hi => Nat.le_trans (getD_len_le a i hi) (by rw [← HLA.out]; omega)
      have HDB : Hid (∀ i, i < b.length → (b.getD i []).length ≤ 1048576) := fun i hi => Nat.le_trans (getD_len_le b i hi) (by rw [← HLB.out]; omega)
      go_wp2_with fail
      refine (cloneInts_any _ ctx _ (by omega) h1).mono ?_
      rintro e w1 ⟨cv, rfl, hcv, b1⟩
      replace h2 := h2.keep b1
      replace h3 := h3.keep b1
      clear h1
      go_wp2_with fail
      refine (cloneNested_any _ a _ (by omega) HDA.out h2).mono ?_
      rintro e w2 ⟨av, rfl, hav, b2⟩
      replace h3 := h3.keep b2
      replace hcv := hcv.keep b2
      have b02 : Below w.heap.size w w2 := b1.trans (b2.mono b1.size)
      clear h2 b1 b2
      go_wp2_with fail
      refine (cloneNested_any _ b _ (by omega) HDB.out h3).mono ?_
      rintro e w3 ⟨bv, rfl, hbv, b3⟩
      replace hcv := (hcv.keep b3).mono (Nat.zero_le _)
      replace hav := hav.keep b3
      have b03 : Below w.heap.size w w3 := b02.trans (b3.mono b02.size)
      clear h3 b02 b3
      have hcv' := hcv
      have hav' := hav
      have hbv' := hbv
      obtain ⟨ca, cc, ecv, hx1⟩ := hcv'
      obtain ⟨aa, ac, eav, hx2, hxa⟩ := hav'
      obtain ⟨ba, bc, ebv, hx3, hxb⟩ := hbv'
      subst ecv; subst eav; subst ebv
      have HXA : Hid (a.length ≠ 0 → ∃ bb off, aa = some ⟨bb, off, none⟩ ∧ ∀ i, i < a.length → ∃ u, w3.cell? ⟨bb, off + i, none⟩ = some u ∧ Row w3 0 u (a.getD i [])) := hxa
      have HXB : Hid (b.length ≠ 0 → ∃ bb off, ba = some ⟨bb, off, none⟩ ∧ ∀ i, i < b.length → ∃ u, w3.cell? ⟨bb, off + i, none⟩ = some u ∧ Row w3 0 u (b.getD i [])) := hxb
      have HCV : Hid (Row w3 0 (.slice ca ctx.length cc) ctx) := hcv
      have HAV : Hid (Rows2 w3 (.slice aa a.length ac) a) := hav
      have HBV : Hid (Rows2 w3 (.slice ba b.length bc) b) := hbv
      clear hx1 hx2 hx3 hxa hxb hcv hav hbv
      go_wp2_with (at_make; refine wpList_make_own _ rfl _ _ 23 rfl w3.heap.size 22 i0 (.slice none 0 0) 1 Try.underlying23 hi hz0 hz1 _ _ _ (a.length + b.length) rfl rfl ?b0 ?b1 ?b2 ?b3 ?_)
      case b0 => omega
      case b1 => rw [hz2]; omega
      case b2 => unfold maxLen; omega
      case b3 => exact Nat.le_refl _
      intro w4 hown4 hgrow4
      have hd4 : Dec w3 w4 (.slice (some ⟨w3.heap.size, 0, none⟩) 0 (a.length + b.length)) (a ++ b) 0 := ⟨(Below.refl _ _).grown hgrow4 (Nat.le_refl _) (fun i e => by simp at e), [], hown4, fun j hj => absurd hj (Nat.not_lt_zero _)⟩
      clear hown4 hgrow4
      go_wp2
      go_loopw [10, 11] (fun v i wr => ∃ (k : Nat), k ≤ a.length ∧ i = .int .i64 k ∧ Dec w3 wr v (a ++ b) k) (fun _ i _ => a.length - (intOf i).toNat)
      case atStart => exact ⟨0, Nat.zero_le _, rfl, hd4⟩
      case round =>
        clear hd4
        obtain ⟨k, hk, rfl, hdec⟩ := hrel
        by_cases hlt : k < a.length
        · obtain ⟨hbel, xs, hown, hxs⟩ := hdec
          obtain ⟨bb, oo, rfl, x2⟩ := HXA.out (by omega)
          obtain ⟨u2, y2, r2⟩ := x2 k hlt
          have HR2 : Hid (Row w3 0 u2 ((a ++ b).getD k [])) := by show Row w3 0 u2 ((a ++ b).getD k []); rw [getD_cat_left a b k hlt]; exact r2
          replace y2 := cell_keep hbel y2
          obtain ⟨d, hd⟩ : ∃ d : List Int, d = a.getD k [] := ⟨_, rfl⟩
          rw [← hd] at r2
          obtain ⟨da, dc, hu2, hh2⟩ := r2
          subst hu2
          have hsz := hbel.size
          clear x2 hh2 hd
          go_wp2_with (at_builtin; refine wpList_append_own _ rfl (.tmp 118) (.tmp 123) 23 rfl w3.heap.size 22 i0 (.slice none 0 0) 1 24 Try.underlying23 hi hz0 hz1 hz2 rfl (by decide) _ k xs rfl (hown.alloc _) ⟨wr.heap.size, 0, none⟩ 1 1 [.slice da d.length dc] rfl rfl ?c1 ?c2 ?c3 ?c4 ?c5 ?_)
          case c1 =>
            intro j u hj
            match j, hj with
            | 0, hj => simp at hj; subst hj; exact cell_at (heap_alloc_new wr _)
          case c2 =>
            intro u hu
            simp at hu
            subst hu
            rfl
          case c3 => unfold maxLen; omega
          case c4 => omega
          case c5 => simp; omega
          intro v' w5 hown5 hgrow5 _
          have hdec5 : Dec w3 w5 v' (a ++ b) (k + 1) := Dec.next _ hbel hown hxs hown5 hgrow5 HR2.out
          clear hown5 hgrow5 hown hxs hbel
          go_wp2
          go_roundw
          case rel => exact ⟨k + 1, by omega, by go_num, hdec5⟩
          case measure => simp [intOf]; omega
        obtain rfl : k = a.length := by omega
        clear hk hlt
        go_wp2
        go_loopw [10, 12] (fun v i wr => ∃ (k : Nat), k ≤ b.length ∧ i = .int .i64 k ∧ Dec w3 wr v (a ++ b) (a.length + k)) (fun _ i _ => b.length - (intOf i).toNat)
        case atStart => exact ⟨0, Nat.zero_le _, rfl, hdec⟩
        case round =>
          clear hdec
          obtain ⟨k, hk, rfl, hdec⟩ := hrel
          by_cases hlt : k < b.length
          · obtain ⟨hbel, xs, hown, hxs⟩ := hdec
            obtain ⟨bb, oo, rfl, x2⟩ := HXB.out (by omega)
            obtain ⟨u2, y2, r2⟩ := x2 k hlt
            have HR2 : Hid (Row w3 0 u2 ((a ++ b).getD (a.length + k) [])) := by show Row w3 0 u2 ((a ++ b).getD (a.length + k) []); rw [getD_cat_right a b k]; exact r2
            replace y2 := cell_keep hbel y2
            obtain ⟨d, hd⟩ : ∃ d : List Int, d = b.getD k [] := ⟨_, rfl⟩
            rw [← hd] at r2
            obtain ⟨da, dc, hu2, hh2⟩ := r2
            subst hu2
            have hsz := hbel.size
            clear x2 hh2 hd
            go_wp2_with (at_builtin; refine wpList_append_own _ rfl (.tmp 131) (.tmp 136) 23 rfl w3.heap.size 22 i0 (.slice none 0 0) 1 24 Try.underlying23 hi hz0 hz1 hz2 rfl (by decide) _ (a.length + k) xs rfl (hown.alloc _) ⟨wr.heap.size, 0, none⟩ 1 1 [.slice da d.length dc] rfl rfl ?c1 ?c2 ?c3 ?c4 ?c5 ?_)
            case c1 =>
              intro j u hj
              match j, hj with
              | 0, hj => simp at hj; subst hj; exact cell_at (heap_alloc_new wr _)
            case c2 =>
              intro u hu
              simp at hu
              subst hu
              rfl
            case c3 => unfold maxLen; omega
            case c4 => omega
            case c5 => simp; omega
            intro v' w5 hown5 hgrow5 _
            have hdec5 : Dec w3 w5 v' (a ++ b) (a.length + (k + 1)) := Dec.next _ hbel hown hxs hown5 hgrow5 HR2.out
            clear hown5 hgrow5 hown hxs hbel
            go_wp2
            go_roundw
            case rel => exact ⟨k + 1, by omega, by go_num, hdec5⟩
            case measure => simp [intOf]; omega
          obtain rfl : k = b.length := by omega
          clear hk hlt
          have hcv := HCV.out.keep hdec.1
          have hav := HAV.out.keep hdec.1
          have hbv := HBV.out.keep hdec.1
          have b0 : Below w.heap.size w wr := b03.trans (hdec.1.mono b03.size)
          have hrow := Dec.rows (chain := a ++ b) (by rw [List.length_append]; exact hdec)
          clear hdec HCV HAV HBV HXA HXB HDA HDB b03
          have hrow' := hrow
          obtain ⟨xa, xc, exv, hx4⟩ := hrow'
          subst exv
          clear hx4
          obtain ⟨nl, hnl⟩ : ∃ nl, nl = (a ++ b).length := ⟨_, rfl⟩
          have HNL : Hid (nl = (a ++ b).length) := hnl
          have hnl2 : (a ++ b).length ≤ 131072 := by rw [List.length_append]; omega
          have HNL2 : Hid ((a ++ b).length ≤ 131072) := hnl2
          rw [← hnl] at hrow ⊢
          clear hnl hnl2
          have HBA : Hid ((body a).length ≤ 4194304) := by show (body a).length ≤ 4194304; rw [← HLA.out]; omega
          have HBB : Hid ((body b).length ≤ 4194304) := by show (body b).length ≤ 4194304; rw [← HLB.out]; omega
          have HBC : Hid ((body (a ++ b)).length ≤ 4194304) := by show (body (a ++ b)).length ≤ 4194304; rw [body_append, List.length_append, ← HLA.out, ← HLB.out]; omega
          obtain ⟨h0, hh0⟩ : ∃ h0, h0 = 1 + ctx.length + 3 := ⟨_, rfl⟩
          obtain ⟨nA, hnA⟩ : ∃ nA, nA = h0 + la := ⟨_, rfl⟩
          obtain ⟨nB, hnB⟩ : ∃ nB, nB = h0 + lb := ⟨_, rfl⟩
          obtain ⟨nC, hnC⟩ : ∃ nC, nC = h0 + la + lb := ⟨_, rfl⟩
          have HCA : Hid (nA = (cert ctx a).length) := by show nA = (cert ctx a).length; rw [cert_length, ← HLA.out, hnA, hh0]; rfl
          have HCB : Hid (nB = (cert ctx b).length) := by show nB = (cert ctx b).length; rw [cert_length, ← HLB.out, hnB, hh0]; rfl
          have HCC : Hid (nC = (cert ctx (a ++ b)).length) := by show nC = (cert ctx (a ++ b)).length; rw [cert_length, body_append, List.length_append, ← HLA.out, ← HLB.out, hnC, hh0, Nat.add_assoc]; rfl
          have HE : Hid (h0 = 1 + ctx.length + 3 ∧ nA = h0 + la ∧ nB = h0 + lb ∧ nC = h0 + la + lb) := ⟨hh0, hnA, hnB, hnC⟩
          have hnA8 : nA ≤ 8388608 := by omega
          have hnB8 : nB ≤ 8388608 := by omega
          have hnC8 : nC ≤ 8388608 := by omega
          clear hh0 hnA hnB hnC
          go_wp2_with fail
          refine (marshal_new ctx a _ _ nA _ HCA.out hcv hav (by omega) HBA.out (by omega)).mono ?_
          rintro e w5 ⟨gA, cA, rfl, hmA, b5⟩
          replace hcv := hcv.keep b5
          replace hav := hav.keep b5
          replace hbv := hbv.keep b5
          replace hrow := hrow.keep b5
          replace b0 := b0.trans (b5.mono b0.size)
          clear b5
          go_wp2_with fail
          refine (marshal_new ctx b _ _ nB _ HCB.out hcv hbv (by omega) HBB.out (by omega)).mono ?_
          rintro e w6 ⟨gB, cB, rfl, hmB, b6⟩
          replace hcv := hcv.keep b6
          replace hav := hav.keep b6
          replace hbv := hbv.keep b6
          replace hrow := hrow.keep b6
          replace hmA := hmA.keep b6
          replace b0 := b0.trans (b6.mono b0.size)
          clear b6
          go_wp2_with fail
          refine (marshal_new ctx (a ++ b) _ _ nC _ HCC.out hcv hrow (by omega) HBC.out (Nat.le_trans HNL2.out (by omega))).mono ?_
          rintro e w7 ⟨gC, cC, rfl, hmC, b7⟩
          replace hcv := hcv.keep b7
          replace hav := hav.keep b7
          replace hbv := hbv.keep b7
          replace hmA := hmA.keep b7
          replace hmB := hmB.keep b7
          replace b0 := b0.trans (b7.mono b0.size)
          clear b7 hrow
          go_wp2_with fail
          refine (header_n gA cA nA ctx a _ _ HCA.out hmA hcv (by omega) HBA.out).mono ?_
          rintro e w8 ⟨rfl, b8⟩
          go_wp2_with fail
          refine (header_n gB cB nB ctx b _ _ HCB.out (hmB.keep (b8.below _)) (hcv.keep (b8.below _)) (by omega) HBB.out).mono ?_
          rintro e w9 ⟨rfl, b9⟩
          replace b9 := b8.trans b9
          clear b8
          go_wp2_with fail
          refine (header_n gC cC nC ctx (a ++ b) _ _ HCC.out (hmC.keep (b9.below _)) (hcv.keep (b9.below _)) (by omega) HBC.out).mono ?_
          rintro e w10 ⟨rfl, b10⟩
          replace b10 := b9.trans b10
          clear b9 hcv
          have hh0 : 1 + (ctx.length : Int) + 3 = (h0 : Int) := by have := HE.out.1; omega
          go_wp2_with fail
          clear hh0
          refine (entries_n gA cA nA nA (cert ctx a) (front ctx (body a).length) [] a _ _ _ HCA.out (hmA.keep (b10.below _)) (cert_front _ _) (by rw [front_length, HE.out.1]) (by rw [front_length, ← HLA.out, HE.out.2.1, HE.out.1]) (hav.keep (b10.below _)) hnA8 (by omega)).mono ?_
          rintro e w11 ⟨rfl, b11⟩
          replace b11 := b10.trans b11
          clear b10
          go_wp2_with fail
          refine (entries_n gB cB nB nB (cert ctx b) (front ctx (body b).length) [] b _ _ _ HCB.out (hmB.keep (b11.below _)) (cert_front _ _) (by rw [front_length, HE.out.1]) (by rw [front_length, ← HLB.out, HE.out.2.2.1, HE.out.1]) (hbv.keep (b11.below _)) hnB8 (by omega)).mono ?_
          rintro e w12 ⟨rfl, b12⟩
          replace b12 := b11.trans b12
          clear b11
          go_wp2_with fail
          refine (entries_n gC cC nC nA (cert ctx (a ++ b)) (front ctx (body (a ++ b)).length) (body b) a _ _ _ HCC.out (hmC.keep (b12.below _)) (cert_front2 _ _ _) (by rw [front_length, HE.out.1]) (by rw [front_length, ← HLA.out, HE.out.2.1, HE.out.1]) (hav.keep (b12.below _)) hnC8 (by omega)).mono ?_
          rintro e w13 ⟨rfl, b13⟩
          replace b13 := b12.trans b13
          clear b12
          go_wp2_with fail
          refine (entries_n gC cC nC nC (cert ctx (a ++ b)) (front ctx (body (a ++ b)).length ++ body a) [] b _ _ _ HCC.out (hmC.keep (b13.below _)) (by rw [cert_front2]; simp) (by rw [List.length_append, front_length, ← HLA.out, HE.out.2.1, HE.out.1]) (by rw [List.length_append, front_length, ← HLA.out, ← HLB.out, HE.out.2.2.2, HE.out.1]) (hbv.keep (b13.below _)) hnC8 (by omega)).mono ?_
          rintro e w14 ⟨rfl, b14⟩
          replace b14 := b13.trans b14
          clear b13 hav hbv
          have hlaI : (nA : Int) - (h0 : Int) = (la : Int) := by have := HE.out.2.1; omega
          have HP1 : Hid (Row w14 0 (.slice (if cC = h0 then some ⟨gC, 0, none⟩ else some ⟨gC, h0, none⟩) la (cC - h0)) (body a)) :=
            (hmC.keep (b14.below _)).sub (cert_front2 _ _ _) (by rw [front_length]; exact HE.out.1) HLA.out _
          have HP2 : Hid (Row w14 0 (.slice (if cA = h0 then some ⟨gA, 0, none⟩ else some ⟨gA, h0, none⟩) la (cA - h0)) (body a)) :=
            (hmA.keep (b14.below _)).sub (cert_front _ _) (by rw [front_length]; exact HE.out.1) HLA.out _
          have HP3 : Hid (Row w14 0 (.slice (if cC = nA then some ⟨gC, 0, none⟩ else some ⟨gC, nA, none⟩) lb (cC - nA)) (body b)) :=
            (hmC.keep (b14.below _)).sub (X := front ctx (body (a ++ b)).length ++ body a) (Y := []) (by rw [cert_front2]; simp) (by rw [List.length_append, front_length, ← HLA.out, HE.out.2.1, HE.out.1]) HLB.out _
          have HP4 : Hid (Row w14 0 (.slice (if cB = h0 then some ⟨gB, 0, none⟩ else some ⟨gB, h0, none⟩) lb (cB - h0)) (body b)) :=
            (hmB.keep (b14.below _)).sub (cert_front _ _) (by rw [front_length]; exact HE.out.1) HLB.out _
          have kA : nA ≤ cA := by rw [HCA.out]; exact hmA.1
          have kB : nB ≤ cB := by rw [HCB.out]; exact hmB.1
          have kC : nC ≤ cC := by rw [HCC.out]; exact hmC.1
          have HBD : Hid (IntKind.i64.wrap ((h0 : Int) + (la : Int)) = (nA : Int) ∧ h0 ≤ nA ∧ nA ≤ cC ∧ nA - h0 = la ∧ nA ≤ nC ∧ nC - nA = lb ∧ h0 ≤ nB ∧ nB - h0 = lb) := by
            have := HE.out
            refine ⟨?_, ?_⟩
            · rw [IntKind.wrap_i64]; omega
            · omega
          clear hmA hmB hmC
          go_wp2
          clear hlaI
          obtain ⟨f1, f2, f3, f4, f5, f6, f7, f8⟩ := HBD.out
          go_quiet ((go_at_call 16; exact Calls.quiet_of (bytesEq_same _ _ (body a) _ 0 0 (by rw [← HLA.out]; omega) (HP1.out.keep (below_drewN _ _)) (HP2.out.keep (below_drewN _ _)))))
          generalize (if cC = h0 then (some ⟨gC, 0, none⟩ : Option Addr) else some ⟨gC, h0, none⟩) = z1
          generalize (if cA = h0 then (some ⟨gA, 0, none⟩ : Option Addr) else some ⟨gA, h0, none⟩) = z2
          obtain ⟨w15, hw15⟩ : ∃ w15, w15 = w14.drewN nq := ⟨_, rfl⟩
          rw [← hw15]
          have b15 : Drew w14 w15 := ⟨nq, hw15⟩
          clear hw15
          have HQ3 : Hid (Row w15 0 (.slice (if cC = nA then some ⟨gC, 0, none⟩ else some ⟨gC, nA, none⟩) lb (cC - nA)) (body b)) := HP3.out.keep (b15.below _)
          have HQ4 : Hid (Row w15 0 (.slice (if cB = h0 then some ⟨gB, 0, none⟩ else some ⟨gB, h0, none⟩) lb (cB - h0)) (body b)) := HP4.out.keep (b15.below _)
          go_wp2
          go_quiet ((go_at_call 16; exact Calls.quiet_of (bytesEq_same _ _ (body b) _ 0 0 (by rw [← HLB.out]; omega) (HQ3.out.keep (below_drewN _ _)) (HQ4.out.keep (below_drewN _ _)))))
          generalize (if cC = nA then (some ⟨gC, 0, none⟩ : Option Addr) else some ⟨gC, nA, none⟩) = z3
          generalize (if cB = h0 then (some ⟨gB, 0, none⟩ : Option Addr) else some ⟨gB, h0, none⟩) = z4
          go_wp2
          go_ret
          exact ⟨rfl, (b0.trans ((b14.trans b15).below _)).trans (below_drewN _ _)⟩

end Go.Proofs.Qxb6600119a
