import Derived.Test.Qxb6600119aU24
namespace Go.Proofs.Qxb6600119a
open Go.RowKit

/-- A message as it lies: at the head of a block, not empty. -/
def Msg (w : World) (g cap : Nat) (L : List Int) : Prop :=
  L.length ≤ cap ∧ cap ≤ maxLen ∧ ∀ i, i < L.length → w.cell? ⟨g, i, none⟩ = some (.int .u8 (L.getD i 0))

theorem Msg.keep {w w' : World} {g cap : Nat} {L : List Int} (h : Msg w g cap L) (hb : Below w.heap.size w w') : Msg w' g cap L :=
  ⟨h.1, h.2.1, fun i hi => cell_keep hb (h.2.2 i hi)⟩

theorem Msg.row {w : World} {g cap : Nat} {L : List Int} (h : Msg w g cap L) : Row w 0 (.slice (some ⟨g, 0, none⟩) L.length cap) L :=
  ⟨_, _, rfl, by simp, fun _ => ⟨g, 0, rfl, Nat.zero_le _, fun i hi => by rw [Nat.zero_add]; exact h.2.2 i hi⟩⟩

/-- A part of a message, as a slice of it. -/
theorem Msg.part {w : World} {g cap : Nat} {L X M Y : List Int} (h : Msg w g cap L) (hL : L = X ++ (M ++ Y)) (c : Nat) : Row w 0 (.slice (some ⟨g, X.length, none⟩) M.length c) M := by
  refine ⟨_, _, rfl, by simp, fun _ => ⟨g, X.length, rfl, Nat.zero_le _, fun i hi => ?_⟩⟩
  have hlen : L.length = X.length + (M.length + Y.length) := by rw [hL]; simp
  rw [h.2.2 _ (by omega), getD_mid hL hi]

theorem msg_of_own {w : World} {B : Nat} {v : Value} {L : List Int} (h : w.ownsRow B 5 1 v L.length (L.map (Value.int .u8))) (h0 : 0 < L.length) : ∃ g cap, v = .slice (some ⟨g, 0, none⟩) L.length cap ∧ Msg w g cap L := by
  have h' := h
  rcases h'.2 with ⟨_, e⟩ | ⟨g, cap, cur, rfl, _, _, h1, h2, _⟩
  · omega
  · refine ⟨g, cap, rfl, h1, h2, fun i hi => ?_⟩
    rw [h.cellAt i (by omega), List.getElem?_map, List.getElem?_eq_getElem hi, List.getD, List.getElem?_eq_getElem hi]
    rfl

/-- Where the entries begin. -/
def start (ctx : List Int) : Nat := 1 + ctx.length + 3

theorem cert_length (ctx : List Int) (chain : List (List Int)) : (cert ctx chain).length = start ctx + (body chain).length := by
  unfold cert start
  simp [hd_length]
  omega

theorem body_split (chain : List (List Int)) (k : Nat) (hk : k < chain.length) : body chain = body (chain.take k) ++ (hd 3 (chain.getD k []).length 3 ++ (chain.getD k [] ++ ([0, 0] ++ body (chain.drop (k + 1))))) := by
  have h : body chain = body (chain.take (k + 1)) ++ body (chain.drop (k + 1)) := by
    unfold body
    rw [← List.flatMap_append, List.take_append_drop]
  rw [h, body_take_succ chain k hk]
  unfold entry
  simp only [List.append_assoc]

/-- The message around entry k. -/
theorem cert_split (ctx : List Int) (chain : List (List Int)) (k : Nat) (hk : k < chain.length) : ∃ X Y, X.length = start ctx + (body (chain.take k)).length ∧ cert ctx chain = X ++ (hd 3 (chain.getD k []).length 3 ++ (chain.getD k [] ++ ([0, 0] ++ Y))) := by
  refine ⟨hd 1 ctx.length 1 ++ (ctx ++ (hd 3 (body chain).length 3 ++ body (chain.take k))), body (chain.drop (k + 1)), ?_, ?_⟩
  · simp [hd_length, start]; omega
  · unfold cert
    conv => lhs; rw [body_split chain k hk]
    conv => rhs; rw [body_split chain k hk]
    simp only [List.append_assoc]

/-- zzU24 where a length stands, the place as an int. -/
theorem u24_int (v : Value) (L X Y : List Int) (n : Nat) (ati : Int) (w : World) (hr : Row w 0 v L) (hL : L = X ++ (hd 3 n 3 ++ Y)) (hat : ati = (X.length : Int)) (hn : n ≤ 16777215) (hl : L.length ≤ 16777216) :
    Calls Try.prog 43 #[v, .int .i64 ati] w fun e w' => e = .returned (.int .i64 n) ∧ ∃ nd, w' = w.drewN nd := by
  subst hat
  exact u24_at v L X Y n X.length w hr hL rfl hn hl

/-- What has been read so far. -/
def Dec (w wr : World) (v : Value) (chain : List (List Int)) (k : Nat) : Prop :=
  Below w.heap.size w wr ∧ ∃ xs, wr.ownsRow w.heap.size 22 1 v k xs ∧ ∀ j, j < k → ∃ u, xs[j]? = some u ∧ Row w 0 u (chain.getD j [])

/-- The reader gives back the context and the chain. -/
def Decoded (w : World) (ctx : List Int) (chain : List (List Int)) (e : Ending) (w' : World) : Prop :=
  ∃ cv chv, e = .returned (.tuple #[cv, chv, .bool true]) ∧ Row w 0 cv ctx ∧ Dec w w' chv chain chain.length

theorem Dec.rows {w wr : World} {v : Value} {chain : List (List Int)} (h : Dec w wr v chain chain.length) : Rows2 wr v chain := by
  obtain ⟨hb, xs, hown, hx⟩ := h
  have hown' := hown
  rcases hown'.2 with ⟨rfl, h0⟩ | ⟨g, cap, cur, rfl, _⟩
  · exact ⟨none, 0, by rw [h0], fun _ => h0, fun h => absurd h0 h⟩
  · refine ⟨_, _, rfl, by simp, fun _ => ⟨g, 0, rfl, fun i hi => ?_⟩⟩
    obtain ⟨u, e1, e2⟩ := hx i hi
    exact ⟨u, by rw [Nat.zero_add, hown.cellAt i (by omega), e1], e2.keep hb⟩

set_option maxHeartbeats 1000000 in
theorem decode_any (g cap : Nat) (ctx : List Int) (chain : List (List Int)) (w : World) (hm : Msg w g cap (cert ctx chain)) (hcl : ctx.length ≤ 255) (hbl : (body chain).length ≤ 4194304) (hch : chain.length ≤ 1048576) :
    Calls Try.prog 15 #[.slice (some ⟨g, 0, none⟩) (cert ctx chain).length cap] w fun e w' => Decoded w ctx chain e w' := by
  obtain ⟨i0, hi, hz0, hz1, hz2⟩ := info_parts Try.info22
  have hL := cert_length ctx chain
  obtain ⟨n, hn⟩ : ∃ n, n = (cert ctx chain).length := ⟨_, rfl⟩
  have hnb : n = 1 + ctx.length + 3 + (body chain).length := by rw [hn, hL]; rfl
  have HN : Hid (n = 1 + ctx.length + 3 + (body chain).length) := hnb
  have HNL : Hid (n = (cert ctx chain).length) := hn
  have hn1 : 1 + ctx.length + 3 ≤ n := by omega
  have hn2 : n ≤ 8388608 := by omega
  have hcap : n ≤ cap := by rw [hn]; exact hm.1
  have hcap2 : cap ≤ maxLen := hm.2.1
  unfold maxLen at hcap2
  have c0 : w.cell? ⟨g, 0, none⟩ = some (.int .u8 (ctx.length : Int)) := by
    rw [hm.2.2 0 (by omega)]
    have : (cert ctx chain).getD 0 0 = byteAt ctx.length 0 := rfl
    rw [this, byte0]
    have : (ctx.length : Int) % 256 = ctx.length := by omega
    rw [this]
  rw [← hn]
  clear hnb hn hL
  obtain ⟨bl, hble⟩ : ∃ bl, bl = (body chain).length := ⟨_, rfl⟩
  have HBL : Hid (bl = (body chain).length) := hble
  rw [← hble] at hbl
  have htot : ((n : Int) - (1 + (ctx.length : Int) + 3) != (bl : Int)) = false := by
    have := HN.out
    simp
    omega
  have hsub : 1 + ctx.length - 1 = ctx.length := by omega
  have hrow : Row w 0 (.slice (some ⟨g, 0, none⟩) n cap) (cert ctx chain) := by rw [HNL.out]; exact hm.row
  have hLs : cert ctx chain = (hd 1 ctx.length 1 ++ ctx) ++ (hd 3 bl 3 ++ body chain) := by rw [HBL.out]; simp [cert]
  have HLS : Hid (cert ctx chain = (hd 1 ctx.length 1 ++ ctx) ++ (hd 3 bl 3 ++ body chain)) := hLs
  have HM : Hid (Msg w g cap (cert ctx chain)) := hm
  have hd0 : Dec w w (.slice none 0 0) chain 0 := ⟨Below.refl _ _, [], World.ownsRow_nil _ _ _ _, fun j hj => absurd hj (Nat.not_lt_zero _)⟩
  clear hLs hble hm
  have d13 : decide ((n : Int) < 1) = false := by simp; omega
  have d24 : decide ((n : Int) - 1 < (ctx.length : Int) + 3) = false := by simp; omega
  go_enter Try.func15, Try.ntmps15
  go_wp2_with fail
  refine (u24_int _ (cert ctx chain) (hd 1 ctx.length 1 ++ ctx) (body chain) bl _ _ hrow HLS.out (by simp [hd_length]) (by omega) (by rw [← HNL.out]; omega)).mono ?_
  rintro e w1 ⟨rfl, nd, hw1⟩
  rw [hw1]
  clear hw1 hrow
  have hdn : Dec w (w.drewN nd) (.slice none 0 0) chain 0 := ⟨below_drewN _ _, [], World.ownsRow_nil _ _ _ _, fun j hj => absurd hj (Nat.not_lt_zero _)⟩
  go_wp2
  go_loopw [6, 9, 10] (fun t v _ wr => ∃ (k pk : Nat), k ≤ chain.length ∧ t = .int .i64 pk ∧ Hid (pk = start ctx + (body (chain.take k)).length) ∧ Dec w wr v chain k) (fun t _ _ _ => n - (intOf t).toNat)
  case atStart => exact ⟨0, start ctx, Nat.zero_le _, by simp [start], by simp [Hid, body], hdn⟩
  case round =>
    obtain ⟨k, pk, hk, rfl, HPK, hdec⟩ := hrel
    clear hdn hd0 htot
    by_cases hlt : k < chain.length
    · obtain ⟨X, Y, hX, hL⟩ := cert_split ctx chain k hlt
      obtain ⟨d, hd⟩ : ∃ d : List Int, d = chain.getD k [] := ⟨_, rfl⟩
      rw [← hd] at hL
      rw [← HPK.out] at hX
      have hlen : n = pk + (3 + (d.length + (2 + Y.length))) := by
        have := HNL.out
        rw [hL] at this
        simp [hd_length] at this
        omega
      have hp1 : pk + d.length + 5 ≤ n := by omega
      have HD : Hid (d = chain.getD k []) := hd
      have HLL : Hid (cert ctx chain = X ++ (Qxb6600119a.hd 3 d.length 3 ++ (d ++ ([0, 0] ++ Y)))) := hL
      have HX : Hid (X.length = pk) := hX
      have hrow : Row w 0 (.slice (some ⟨g, 0, none⟩) n cap) (cert ctx chain) := by rw [HNL.out]; exact HM.out.row
      have hL2 : cert ctx chain = (X ++ (Qxb6600119a.hd 3 d.length 3 ++ d)) ++ ([0, 0] ++ Y) := by rw [hL]; simp
      have hL3 : cert ctx chain = (X ++ Qxb6600119a.hd 3 d.length 3) ++ (d ++ ([0, 0] ++ Y)) := by rw [hL]; simp
      have hX2 : (X ++ (Qxb6600119a.hd 3 d.length 3 ++ d)).length = pk + 3 + d.length := by simp [hd_length]; omega
      have hX3 : (X ++ Qxb6600119a.hd 3 d.length 3).length = pk + 3 := by simp [hd_length]; omega
      have hz1' : w.cell? ⟨g, pk + 3 + d.length, none⟩ = some (.int .u8 0) := by
        have := getD_mid (j := 0) hL2 (by simp)
        rw [hX2, Nat.add_zero] at this
        rw [HM.out.2.2 _ (by rw [← HNL.out]; omega), this]
        rfl
      have hz2' : w.cell? ⟨g, pk + 3 + d.length + 1, none⟩ = some (.int .u8 0) := by
        have := getD_mid (j := 1) hL2 (by simp)
        rw [hX2] at this
        rw [HM.out.2.2 _ (by rw [← HNL.out]; omega), this]
        rfl
      have hpart : Row w 0 (.slice (some ⟨g, pk + 3, none⟩) d.length (cap - (pk + 3))) d := by
        have := HM.out.part hL3 (cap - (pk + 3))
        rw [hX3] at this
        exact this
      have HP : Hid (Row w 0 (.slice (some ⟨g, pk + 3, none⟩) d.length (cap - (pk + 3))) d) := hpart
      have HBT : Hid (start ctx + (body (chain.take (k + 1))).length = pk + d.length + 5) := by
        show start ctx + (body (chain.take (k + 1))).length = pk + d.length + 5
        rw [body_take_succ chain k hlt, List.length_append, entry_length, ← HD.out]
        have := HPK.out
        omega
      clear hpart hL2 hL3 hX2 hX3
      clear hd hL hX hlen
      go_wp2_with fail
      refine (u24_int _ (cert ctx chain) X _ d.length _ _ (hrow.keep hdec.1) HLL.out (by rw [HX.out]) (by omega) (by rw [← HNL.out]; omega)).mono ?_
      rintro e w2 ⟨rfl, nd2, hw2⟩
      rw [hw2]
      clear hw2
      have hdec2 : Dec w (wr.drewN nd2) _ chain k := ⟨hdec.1.trans (below_drewN _ _), hdec.2⟩
      obtain ⟨hbel, xs, hown, hxs⟩ := hdec2
      have q1 := cell_keep hbel hz1'
      have q2 := cell_keep hbel hz2'
      clear hdec
      have hsz := hbel.size
      have hsz' : w.heap.size ≤ wr.heap.size := hsz
      go_wp2_with (at_builtin; refine wpList_append_own _ rfl (.tmp 66) (.tmp 73) 23 rfl w.heap.size 22 i0 (.slice none 0 0) 1 24 Try.underlying23 hi hz0 hz1 hz2 rfl (by decide) _ k xs rfl (hown.alloc _) ⟨wr.heap.size, 0, none⟩ 1 1 [.slice (some ⟨g, pk + 3, none⟩) d.length (cap - (pk + 3))] rfl rfl ?c1 ?c2 ?c3 ?c4 ?c5 ?_)
      case c1 =>
        intro j u hj
        match j, hj with
        | 0, hj => simp at hj; subst hj; exact cell_at (heap_alloc_new (wr.drewN nd2) _)
      case c2 =>
        intro u hu
        simp at hu
        subst hu
        rfl
      case c3 => unfold maxLen; omega
      case c4 => omega
      case c5 => simp; omega
      intro v' w3 hown3 hgrow _
      have hb3 : Below w.heap.size w w3 := (hbel.alloc hsz _).grown hgrow (by simp; omega) (fun i e => (hown.lt i e).1)
      have hdec3 : Dec w w3 v' chain (k + 1) := ⟨hb3, _, hown3, fun j hj => by
        have hl := hown.1
        by_cases e : j < k
        · obtain ⟨u, e1, e2⟩ := hxs j e
          exact ⟨u, by rw [List.getElem?_append_left (by omega)]; exact e1, e2⟩
        · obtain rfl : j = k := by omega
          exact ⟨_, by rw [List.getElem?_append_right (by omega), hl, Nat.mul_one, Nat.sub_self]; rfl, by rw [← HD.out]; exact HP.out⟩⟩
      have q3 := cell_keep hb3 hz1'
      have q4 := cell_keep hb3 hz2'
      clear hown3 hgrow hown hxs hbel q1 q2 hz1' hz2' hrow hb3
      go_wp2
      go_roundw
      case rel => exact ⟨k + 1, pk + d.length + 5, by omega, by go_num, HBT.out.symm, hdec3⟩
      case measure => simp [intOf]; omega
    · obtain rfl : k = chain.length := by omega
      have hpe : pk = n := by
        have h1 := HPK.out
        have h2 := HNL.out
        rw [List.take_length] at h1
        rw [cert_length] at h2
        omega
      have hge : n ≤ pk := by omega
      have hcx : Row w 0 (.slice (some ⟨g, 1, none⟩) ctx.length (cap - 1)) ctx := by
        have hL1 : cert ctx chain = hd 1 ctx.length 1 ++ (ctx ++ (hd 3 (body chain).length 3 ++ body chain)) := rfl
        have := HM.out.part hL1 (cap - 1)
        rw [hd_length] at this
        exact this
      have HCX : Hid (Row w 0 (.slice (some ⟨g, 1, none⟩) ctx.length (cap - 1)) ctx) := hcx
      clear hcx hpe
      go_wp2
      go_ret3
      exact ⟨_, _, rfl, HCX.out, hdec⟩

end Go.Proofs.Qxb6600119a
