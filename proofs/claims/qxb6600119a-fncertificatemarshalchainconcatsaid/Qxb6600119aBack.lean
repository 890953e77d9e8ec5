import Derived.Test.Qxb6600119aDecode
import Derived.Test.Qxb6600119aEq
import Derived.Test.Qxb6600119aSize
namespace Go.Proofs.Qxb6600119a
open Go.RowKit

theorem getD_len_le (chain : List (List Int)) (k : Nat) (hk : k < chain.length) : (chain.getD k []).length ≤ (body chain).length := by
  rw [body_split chain k hk]
  simp
  omega

set_option maxHeartbeats 1000000 in
theorem back_any (v1 v2 : Value) (ctx : List Int) (chain : List (List Int)) (w : World) (h1 : Row w 0 v1 ctx) (h2 : Rows2 w v2 chain) :
    Calls Try.prog 3 #[v1, v2] w fun e w' => e = .returned (.bool true) ∧ Below w.heap.size w w' := by
  have h1' := h1
  have h2' := h2
  obtain ⟨a1, c1, e1, hh1⟩ := h1'
  obtain ⟨a2, c2, e2, hh2, hc2⟩ := h2'
  subst e1; subst e2
  clear hh1 hh2
  go_enter Try.func3, Try.ntmps3
  go_wp2_with fail
  refine (zzBytes_any _ _ ctx chain _ h1 h2).mono ?_
  rintro e w0 ⟨⟨b, rfl⟩, hw0⟩
  rw [hw0]
  clear hw0
  cases b
  · go_wp2
    go_ret
    exact ⟨rfl, Below.refl _ _⟩
  by_cases q1 : 1048576 < ctx.length
  · have d1 : decide ((1048576 : Int) < (ctx.length : Int)) = true := by simp; omega
    go_wp2
    go_ret
    exact ⟨rfl, Below.refl _ _⟩
  have d1 : decide ((1048576 : Int) < (ctx.length : Int)) = false := by simp; omega
  by_cases q2 : 65536 < chain.length
  · have d2 : decide ((65536 : Int) < (chain.length : Int)) = true := by simp; omega
    go_wp2
    go_ret
    exact ⟨rfl, Below.refl _ _⟩
  have d2 : decide ((65536 : Int) < (chain.length : Int)) = false := by simp; omega
  by_cases q3 : 1048576 < ctx.length + 24 * chain.length
  · have d3 : decide ((1048576 : Int) < (ctx.length : Int) + 24 * (chain.length : Int)) = true := by simp; omega
    go_wp2
    go_ret
    exact ⟨rfl, Below.refl _ _⟩
  have d3 : decide ((1048576 : Int) < (ctx.length : Int) + 24 * (chain.length : Int)) = false := by simp; omega
  go_wp2
  go_loop [5, 6] (fun t i => ∃ (k s : Nat), k ≤ chain.length ∧ i = .int .i64 k ∧ t = .int .i64 s ∧ s ≤ 1048576 ∧ Hid ((body (chain.take k)).length + 24 * chain.length ≤ s + 5 * k)) (fun _ i => chain.length - (intOf i).toNat)
  case atStart => exact ⟨0, ctx.length + 24 * chain.length, Nat.zero_le _, rfl, by go_num, by omega, by simp [Hid, body]⟩
  case round =>
    obtain ⟨k, s, hk, rfl, rfl, hs, HI⟩ := hrel
    clear d1 d2 d3
    by_cases hlt : k < chain.length
    · obtain ⟨b2, o2, rfl, x2⟩ := hc2 (by omega)
      obtain ⟨u2, y2, r2⟩ := x2 k hlt
      obtain ⟨d, hd⟩ : ∃ d : List Int, d = chain.getD k [] := ⟨_, rfl⟩
      rw [← hd] at r2
      have HB : Hid ((body (chain.take (k + 1))).length = (body (chain.take k)).length + d.length + 5) := by
        show (body (chain.take (k + 1))).length = (body (chain.take k)).length + d.length + 5
        rw [body_take_succ chain k hlt, List.length_append, entry_length, ← hd]
        omega
      obtain ⟨d2, e2, hu2, hh2⟩ := r2
      subst hu2
      clear x2 hc2 hh2 hd h1 h2
      go_wp2
      · go_ret
        exact ⟨rfl, Below.refl _ _⟩
      · go_ret
        exact ⟨rfl, Below.refl _ _⟩
      · go_round
        case rel => exact ⟨k + 1, s + d.length, by omega, by go_num, by go_num, by omega, by have h1 := HB.out; have h2 := HI.out; show _ ≤ _; omega⟩
        case measure => simp [intOf]; omega
    · obtain rfl : k = chain.length := by omega
      have hbl : (body chain).length ≤ 1048576 := by have := HI.out; rw [List.take_length] at this; omega
      by_cases q4 : 255 < ctx.length
      · clear h1 h2 hc2
        go_wp2
        go_ret
        exact ⟨rfl, Below.refl _ _⟩
      clear hc2 HI
      have hdl : ∀ i, i < chain.length → (chain.getD i []).length ≤ 1048576 := fun i hi => Nat.le_trans (getD_len_le chain i hi) hbl
      have HDL : Hid (∀ i, i < chain.length → (chain.getD i []).length ≤ 1048576) := hdl
      clear hdl
      go_wp2_with fail
      refine (cloneInts_any _ ctx _ (by omega) h1).mono ?_
      rintro e w1 ⟨cv, rfl, hcv, b1⟩
      replace h2 := h2.keep b1
      clear h1
      go_wp2_with fail
      refine (cloneNested_any _ chain _ (by omega) HDL.out h2).mono ?_
      rintro e w2 ⟨hv, rfl, hhv, b2⟩
      replace hcv := (hcv.keep b2).mono (Nat.zero_le _)
      have b02 : Below w.heap.size w w2 := b1.trans (b2.mono b1.size)
      clear h2 b1 b2
      have hcv' := hcv
      have hhv' := hhv
      obtain ⟨ca, cc, ecv, hx1⟩ := hcv'
      obtain ⟨ha, hc, ehv, hx2⟩ := hhv'
      subst ecv; subst ehv
      clear hx1 hx2
      obtain ⟨W3, hW3⟩ : ∃ W3, W3 = w2.alloc (.cells #[.slice ca ctx.length cc, .slice ha chain.length hc] 29) := ⟨_, rfl⟩
      have b23 : Below w2.heap.size w2 W3 := by rw [hW3]; exact (Below.refl _ _).alloc (Nat.le_refl _) _
      have hblk : W3.heap[w2.heap.size]? = some (Obj.cells #[.slice ca ctx.length cc, .slice ha chain.length hc] 29 (0, 0)) := by rw [hW3]; exact heap_alloc_new w2 _
      have hmar := marshal_any w2.heap.size ctx chain _ _ W3 (hcv.keep b23) (hhv.keep b23) (by rw [cell_at hblk]; rfl) (by rw [cell_at hblk]; rfl) (by omega) (by omega) (by omega)
      have HMAR : Hid (Calls Try.prog 14 #[.pointer (some ⟨w2.heap.size, 0, none⟩)] (w2.alloc (.cells #[.slice ca ctx.length cc, .slice ha chain.length hc] 29)) fun e w' => Marshaled W3 (cert ctx chain) e w') := by rw [← hW3]; exact hmar
      replace hcv := hcv.keep b23
      replace hhv := hhv.keep b23
      have b03 : Below w.heap.size w W3 := b02.trans (b23.mono b02.size)
      have HW3 : Hid (W3 = w2.alloc (.cells #[.slice ca ctx.length cc, .slice ha chain.length hc] 29)) := hW3
      clear hmar hW3 hblk b02 b23
      go_wp2_with fail
      refine HMAR.out.mono ?_
      rintro e w4 ⟨ov, rfl, hown, b4⟩
      have hcl := cert_length ctx chain
      obtain ⟨g, cap, hov, hmsg⟩ := msg_of_own hown (by rw [hcl]; unfold start; omega)
      rw [hov]
      replace hcv := hcv.keep b4
      replace hhv := hhv.keep b4
      have b04 : Below w.heap.size w w4 := b03.trans (b4.mono b03.size)
      clear HMAR hown hov b4 b03 hcl
      go_wp2_with fail
      refine (decode_any g cap ctx chain _ hmsg (by omega) (by omega) (by omega)).mono ?_
      rintro e w5 ⟨cv2, hv2, rfl, hcv2, hdec⟩
      have hr2 := hdec.rows
      have b45 := hdec.1
      replace hcv2 := hcv2.keep b45
      replace hcv := hcv.keep b45
      replace hhv := hhv.keep b45
      have b05 : Below w.heap.size w w5 := b04.trans (b45.mono b04.size)
      clear hdec hmsg b45 b04
      have hr2' := hr2
      obtain ⟨ra, rc, er2, _, hrx⟩ := hr2'
      subst er2
      obtain ⟨_, _, ehh, _, hhx⟩ := hhv
      simp only [Value.slice.injEq, true_and] at ehh
      obtain ⟨rfl, rfl⟩ := ehh
      have HRX : Hid (chain.length ≠ 0 → ∃ b off, ra = some ⟨b, off, none⟩ ∧ ∀ i, i < chain.length → ∃ u, w5.cell? ⟨b, off + i, none⟩ = some u ∧ Row w5 0 u (chain.getD i [])) := hrx
      have HHX : Hid (chain.length ≠ 0 → ∃ b off, ha = some ⟨b, off, none⟩ ∧ ∀ i, i < chain.length → ∃ u, w5.cell? ⟨b, off + i, none⟩ = some u ∧ Row w5 0 u (chain.getD i [])) := hhx
      clear hrx hhx hr2
      go_wp2_with fail
      refine (bytesEq_same cv2 _ ctx _ 0 0 (by omega) hcv2 hcv).mono ?_
      rintro e w6 ⟨rfl, nd, hw6⟩
      rw [hw6]
      clear hw6 hcv2 hcv
      go_wp2
      go_loopw [11] (fun i wr => ∃ k : Nat, k ≤ chain.length ∧ i = .int .i64 k ∧ Drew w5 wr) (fun i _ => chain.length - (intOf i).toNat)
      case atStart => exact ⟨0, Nat.zero_le _, rfl, Drew.drewN _ _⟩
      case round =>
        obtain ⟨k, hk, rfl, hd⟩ := hrel
        by_cases hlt : k < chain.length
        · obtain ⟨b2, o2, rfl, x2⟩ := HRX.out (by omega)
          obtain ⟨b4, o4, rfl, x4⟩ := HHX.out (by omega)
          obtain ⟨u2, y2, r2⟩ := x2 k hlt
          obtain ⟨u4, y4, r4⟩ := x4 k hlt
          have hzk := HDL.out k hlt
          generalize chain.getD k [] = zk at r2 r4 hzk
          replace r2 := r2.keep (hd.below _)
          replace r4 := r4.keep (hd.below _)
          replace y2 := cell_keep (hd.below _) y2
          replace y4 := cell_keep (hd.below _) y4
          have r2' := r2
          have r4' := r4
          obtain ⟨d2, e2, hu2, _⟩ := r2'
          obtain ⟨d4, e4, hu4, _⟩ := r4'
          subst hu2; subst hu4
          clear x2 x4
          go_wp2
          go_quiet ((go_at_call 16; exact Calls.quiet_of (bytesEq_same _ _ zk _ 0 0 (Nat.le_trans hzk (by omega)) (r2.keep (below_drewN _ _)) (r4.keep (below_drewN _ _)))))
          go_wp2
          go_roundw
          case rel => exact ⟨k + 1, by omega, by go_num, hd.trans (Drew.drewN _ _)⟩
          case measure => simp [intOf]; omega
        · go_wp2
          go_ret
          exact ⟨rfl, b05.trans (hd.below _)⟩

end Go.Proofs.Qxb6600119a
