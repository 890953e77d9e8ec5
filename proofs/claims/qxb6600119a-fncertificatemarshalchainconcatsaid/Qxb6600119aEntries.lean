import Derived.Test.Qxb6600119aHead
namespace Go.Proofs.Qxb6600119a
open Go.RowKit

/-- It returns the place behind the entries, and true; it has done nothing but draw. -/
def Passed (w : World) (p : Nat) (e : Ending) (w' : World) : Prop := e = .returned (.tuple #[.int .i64 p, .bool true]) ∧ Drew w w'

theorem ret_pair {k : IntKind} {a b : Int} {c : Bool} (h : a = b) : Ending.returned (.tuple #[.int k a, .bool c]) = .returned (.tuple #[.int k b, .bool c]) := by rw [h]

/-- The message around entry k. -/
theorem mid_split (L P Y : List Int) (chain : List (List Int)) (hL : L = P ++ (body chain ++ Y)) (k : Nat) (hk : k < chain.length) : ∃ X Z, X.length = P.length + (body (chain.take k)).length ∧ L = X ++ (hd 3 (chain.getD k []).length 3 ++ (chain.getD k [] ++ ([0, 0] ++ Z))) := by
  refine ⟨P ++ body (chain.take k), body (chain.drop (k + 1)) ++ Y, by simp, ?_⟩
  rw [hL, body_split chain k hk]
  simp only [List.append_assoc]

set_option maxHeartbeats 1000000 in
theorem entriesAt_any (g cap : Nat) (L P Y : List Int) (chain : List (List Int)) (chv : Value) (p : Int) (w : World) (hm : Msg w g cap L) (hL : L = P ++ (body chain ++ Y)) (hp : p = (P.length : Int)) (hs : Rows2 w chv chain) (hl : L.length ≤ 8388608) (hch : chain.length ≤ 1048576) :
    Calls Try.prog 19 #[.slice (some ⟨g, 0, none⟩) L.length cap, .int .i64 p, chv] w fun e w' => Passed w (P.length + (body chain).length) e w' := by
  subst hp
  obtain ⟨n, hn⟩ : ∃ n, n = L.length := ⟨_, rfl⟩
  have HNL : Hid (n = L.length) := hn
  rw [← hn]
  rw [← hn] at hl
  have hcap : n ≤ cap := by rw [hn]; exact hm.1
  have hcap2 : cap ≤ maxLen := hm.2.1
  unfold maxLen at hcap2
  have HL : Hid (L = P ++ (body chain ++ Y)) := hL
  have HM : Hid (Msg w g cap L) := hm
  obtain ⟨p0, hp0⟩ : ∃ p0, p0 = P.length := ⟨_, rfl⟩
  have HP0 : Hid (p0 = P.length) := hp0
  have hpn : p0 ≤ n := by rw [hn, hL]; simp; omega
  rw [← hp0]
  obtain ⟨a2, c2, rfl, hh, hc2⟩ := hs
  clear hL hn hm hp0 hh
  go_enter Try.func19, Try.ntmps19
  go_wp2
  go_loopw [1, 8, 9] (fun t i _ wr => ∃ (k pk : Nat), k ≤ chain.length ∧ t = .int .i64 pk ∧ i = .int .i64 k ∧ Hid (pk = p0 + (body (chain.take k)).length) ∧ pk ≤ n ∧ Drew w wr) (fun _ i _ _ => chain.length - (intOf i).toNat)
  case atStart => exact ⟨0, p0, Nat.zero_le _, rfl, rfl, by simp [Hid, body], hpn, Drew.refl _⟩
  case round =>
    obtain ⟨k, pk, hk, rfl, rfl, HPK, hpkn, hdrew⟩ := hrel
    by_cases hlt : k < chain.length
    · obtain ⟨X, Z, hX, hL⟩ := mid_split L P Y chain HL.out k hlt
      obtain ⟨b2, o2, rfl, x2⟩ := hc2 (by omega)
      obtain ⟨u2, y2, r2⟩ := x2 k hlt
      obtain ⟨d, hd⟩ : ∃ d : List Int, d = chain.getD k [] := ⟨_, rfl⟩
      rw [← hd] at hL r2
      rw [← HP0.out, ← HPK.out] at hX
      have hlen : n = pk + (3 + (d.length + (2 + Z.length))) := by
        have := HNL.out
        rw [hL] at this
        simp [hd_length] at this
        omega
      have hp1 : pk + d.length + 5 ≤ n := by omega
      have HD : Hid (d = chain.getD k []) := hd
      have HLL : Hid (L = X ++ (Qxb6600119a.hd 3 d.length 3 ++ (d ++ ([0, 0] ++ Z)))) := hL
      have HX : Hid (X.length = pk) := hX
      have hrow : Row w 0 (.slice (some ⟨g, 0, none⟩) n cap) L := by rw [HNL.out]; exact HM.out.row
      have hL2 : L = (X ++ (Qxb6600119a.hd 3 d.length 3 ++ d)) ++ ([0, 0] ++ Z) := by rw [hL]; simp
      have hL3 : L = (X ++ Qxb6600119a.hd 3 d.length 3) ++ (d ++ ([0, 0] ++ Z)) := by rw [hL]; simp
      have hX2 : (X ++ (Qxb6600119a.hd 3 d.length 3 ++ d)).length = pk + 3 + d.length := by simp [hd_length]; omega
      have hX3 : (X ++ Qxb6600119a.hd 3 d.length 3).length = pk + 3 := by simp [hd_length]; omega
      have hz1' : w.cell? ⟨g, pk + 3 + d.length, none⟩ = some (.int .u8 0) := by
        have := getD_mid (j := 0) hL2 (by simp)
        rw [hX2, Nat.add_zero] at this
        rw [HM.out.2.2 _ (by rw [← HNL.out]; omega), this]
        rfl
      have hz2' : w.cell? ⟨g, pk + 4 + d.length, none⟩ = some (.int .u8 0) := by
        have := getD_mid (j := 1) hL2 (by simp)
        rw [hX2] at this
        have e : pk + 4 + d.length = pk + 3 + d.length + 1 := by omega
        rw [e, HM.out.2.2 _ (by rw [← HNL.out]; omega), this]
        rfl
      obtain ⟨m3, hm3⟩ : ∃ m3, m3 = pk + 3 := ⟨_, rfl⟩
      obtain ⟨m4, hm4⟩ : ∃ m4, m4 = pk + 3 + d.length := ⟨_, rfl⟩
      have HP : Hid (Row w 0 (.slice (some ⟨g, m3, none⟩) d.length (cap - m3)) d) := by
        show Row w 0 (.slice (some ⟨g, m3, none⟩) d.length (cap - m3)) d
        have := HM.out.part hL3 (cap - m3)
        rw [hX3, ← hm3] at this
        exact this
      have HBT : Hid (p0 + (body (chain.take (k + 1))).length = pk + d.length + 5) := by
        show p0 + (body (chain.take (k + 1))).length = pk + d.length + 5
        rw [body_take_succ chain k hlt, List.length_append, entry_length, ← HD.out]
        have := HPK.out
        omega
      have HW3 : Hid (IntKind.i64.wrap ((pk : Int) + 3) = (m3 : Int)) := by show IntKind.i64.wrap ((pk : Int) + 3) = (m3 : Int); rw [IntKind.wrap_i64]; omega
      have HW4 : Hid (IntKind.i64.wrap ((m3 : Int) + (d.length : Int)) = (m4 : Int)) := by show IntKind.i64.wrap ((m3 : Int) + (d.length : Int)) = (m4 : Int); rw [IntKind.wrap_i64]; omega
      have HM4 : Hid (m3 ≤ m4 ∧ m4 ≤ cap ∧ m4 - m3 = d.length ∧ ¬ cap = m3) := by show m3 ≤ m4 ∧ m4 ≤ cap ∧ m4 - m3 = d.length ∧ ¬ cap = m3; omega
      replace r2 := r2.keep (hdrew.below _)
      replace y2 := cell_keep (hdrew.below _) y2
      have hrow2 := hrow.keep (hdrew.below _)
      have r2' := r2
      obtain ⟨d2, e2, hu2, hh2⟩ := r2'
      subst hu2
      clear hL2 hL3 hX2 hX3 x2 hc2 hh2 hrow
      clear hd hL hX hlen hm3 hm4
      go_wp2_with fail
      refine (u24_int _ L X _ d.length _ _ hrow2 HLL.out (by rw [HX.out]) (by omega) (by rw [← HNL.out]; omega)).mono ?_
      rintro e w2 ⟨rfl, nd2, hw2⟩
      have hd12 : Drew wr w2 := ⟨_, hw2⟩
      clear hw2 hrow2
      have hdrew2 : Drew w w2 := hdrew.trans hd12
      replace r2 := r2.keep (hd12.below _)
      replace y2 := cell_keep (hd12.below _) y2
      have HPW : Hid (Row w2 0 (.slice (some ⟨g, m3, none⟩) d.length (cap - m3)) d) := HP.out.keep (hdrew2.below _)
      have q1 := cell_keep (hdrew2.below _) hz1'
      have q2 := cell_keep (hdrew2.below _) hz2'
      clear hdrew hz1' hz2' HP hd12
      have hw3 := HW3.out
      have hw4 := HW4.out
      obtain ⟨m34, m4c, hmd, hne⟩ := HM4.out
      go_wp2
      go_quiet ((go_at_call 16; exact Calls.quiet_of (bytesEq_same _ _ d _ 0 0 (by omega) (HPW.out.keep (below_drewN _ _)) (r2.keep (below_drewN _ _)))))
      clear hw3 hw4 m34 m4c hmd hne r2
      go_wp2
      go_roundw
      case rel => exact ⟨k + 1, pk + d.length + 5, by omega, by go_num, by go_num, HBT.out.symm, by omega, hdrew2.trans (Drew.drewN _ _)⟩
      case measure => simp [intOf]; omega
    · obtain rfl : k = chain.length := by omega
      have hpe := HPK.out
      rw [List.take_length] at hpe
      have HPE : Hid (pk = p0 + (body chain).length) := hpe
      clear hpe hc2
      go_wp2
      go_ret2
      exact ⟨ret_pair (by have := HPE.out; omega), hdrew⟩

end Go.Proofs.Qxb6600119a
