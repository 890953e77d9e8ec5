import Derived.Test.Qxb6600119aVector
namespace Go.Proofs.Qxb6600119a
open Go.RowKit

theorem Fr.cell {B wb : Nat} {w w' : World} (h : Fr B wb w w') {k o : Nat} {arr : Array Value} {t : TypeId} (hk : w.heap[k]? = some (Obj.cells arr t (0, 0))) (ht : t ≠ 5) (hn : k ≠ wb) : w'.cell? ⟨k, o, none⟩ = arr[o]? := by
  rw [cell_at ((h.other k arr t hk ht hn).trans hk)]

set_option maxHeartbeats 400000 in
theorem fillBytes_any (B wb cb : Nat) (bs zs : List Int) (sv : Value) (w : World) (h : Wr w B wb bs) (hs : Row w 0 sv zs) (hsz : bs.length + zs.length ≤ 16777216) (hc : w.cell? ⟨cb, 0, none⟩ = some sv) :
    Calls Try.prog 49 #[.pointer (some ⟨wb, 0, none⟩), .pointer (some ⟨cb, 0, none⟩)] w fun e w' => Wrote w B wb (bs ++ zs) e w' := by
  have hs' := hs
  obtain ⟨a, c, e1, hh⟩ := hs'
  subst e1
  clear hh
  go_enter Try.func49, Try.ntmps49
  go_wp2_with (go_at_call 50; refine (bytes_any B wb bs zs _ _ h hs hsz).mono ?_; rintro e w' ⟨rfl, ho⟩)
  go_end0
  exact ⟨rfl, ho⟩

set_option maxHeartbeats 400000 in
theorem bytesVector_any (p : Nat) (hp : p = 1 ∨ p = 3) (B wb : Nat) (bs zs : List Int) (sv : Value) (W0 w : World) (h : Wr w B wb bs) (hs : Row W0 0 sv zs) (hB0 : W0.heap.size = B) (hb0 : Below B W0 w)
    (hsz : bs.length + 3 ≤ 8388608) (hz1 : p = 1 → zs.length ≤ 255) (hz3 : zs.length ≤ 8388608) :
    Calls Try.prog 39 #[.pointer (some ⟨wb, 0, none⟩), .int .i64 p, sv] w fun e w' => Wrote w B wb (bs ++ (hd p zs.length p ++ zs)) e w' := by
  have hs' := hs
  obtain ⟨a, c, e1, hh⟩ := hs'
  subst e1
  clear hh
  have hvec : Calls Try.prog 40 #[.pointer (some ⟨wb, 0, none⟩), .int .i64 p, .func (.func 49) #[] #[.pointer (some ⟨w.heap.size, 0, none⟩)]] (w.alloc (.cells #[.slice a zs.length c] 22)) fun e w' => Wrote w B wb (bs ++ (hd p zs.length p ++ zs)) e w' := by
    have hBw : B ≤ w.heap.size := by obtain ⟨_, _, hBw, _⟩ := h; exact hBw
    have hwl : wb < w.heap.size := by obtain ⟨_, _, _, hwb, _⟩ := h; exact block_lt hwb
    refine (vector_any p hp 49 (Or.inl rfl) w.heap.size B wb bs zs (w.alloc (.cells #[.slice a zs.length c] 22)) (h.alloc _) hsz hz1 (by omega) ?_).mono ?_
    · intro w1 hw1 hf1
      have hbx : (w.alloc (.cells #[.slice a zs.length c] 22)).heap[w.heap.size]? = some (Obj.cells #[.slice a zs.length c] 22 (0, 0)) := heap_alloc_new w _
      have hcell := hf1.cell (o := 0) hbx (by decide) (by omega)
      have hrow : Row w1 0 (.slice a zs.length c) zs := hs.keep ((hb0.trans (((Below.refl _ _).alloc hBw _).trans hf1.bel)).mono (by omega))
      refine fillBytes_any B wb w.heap.size _ zs _ w1 hw1 hrow ?_ hcell
      simp
      omega
    · rintro e w' ⟨rfl, h1, h2⟩
      exact ⟨rfl, h1, ((Fr.refl B wb w).alloc hBw _).trans h2⟩
  have HV : Hid (Calls Try.prog 40 #[.pointer (some ⟨wb, 0, none⟩), .int .i64 p, .func (.func 49) #[] #[.pointer (some ⟨w.heap.size, 0, none⟩)]] (w.alloc (.cells #[.slice a zs.length c] 22)) fun e w' => Wrote w B wb (bs ++ (hd p zs.length p ++ zs)) e w') := hvec
  clear hvec
  go_enter Try.func39, Try.ntmps39
  go_wp2_with (go_at_call 40; refine HV.out.mono ?_; rintro e w' ⟨rfl, ho⟩)
  go_end0
  exact ⟨rfl, ho⟩

/-- One entry's bytes: its length, itself, no extensions. -/
def entry (d : List Int) : List Int := hd 3 d.length 3 ++ (d ++ [0, 0])
/-- The entries' bytes. -/
def body (chain : List (List Int)) : List Int := chain.flatMap entry
/-- The message's bytes. -/
def cert (ctx : List Int) (chain : List (List Int)) : List Int := hd 1 ctx.length 1 ++ (ctx ++ (hd 3 (body chain).length 3 ++ body chain))

theorem body_take_succ (chain : List (List Int)) (k : Nat) (hk : k < chain.length) : body (chain.take (k + 1)) = body (chain.take k) ++ entry (chain.getD k []) := by
  unfold body
  rw [List.take_succ_eq_append_getElem hk, List.flatMap_append, List.getD, List.getElem?_eq_getElem hk]
  simp

theorem entry_length (d : List Int) : (entry d).length = d.length + 5 := by
  simp [entry, hd_length]; omega

theorem body_take_le (chain : List (List Int)) (k : Nat) : (body (chain.take k)).length ≤ (body chain).length := by
  have h : body chain = body (chain.take k) ++ body (chain.drop k) := by
    unfold body
    rw [← List.flatMap_append, List.take_append_drop]
  rw [h, List.length_append]
  omega

set_option maxHeartbeats 400000 in
theorem fillChain_any (B wb cb mb : Nat) (bs : List Int) (chain : List (List Int)) (chv : Value) (W0 w : World) (h : Wr w B wb bs) (hs : Rows2 W0 chv chain) (hB0 : W0.heap.size = B) (hb0 : Below B W0 w)
    (hm1 : W0.cell? ⟨mb, 1, none⟩ = some chv) (hcb : w.heap[cb]? = some (Obj.cells #[.pointer (some ⟨mb, 0, none⟩)] 27 (0, 0)))
    (hsz : bs.length + (body chain).length + 10 ≤ 8388608) (hcl : chain.length ≤ 1048576) :
    Calls Try.prog 41 #[.pointer (some ⟨wb, 0, none⟩), .pointer (some ⟨cb, 0, none⟩)] w fun e w' => Wrote w B wb (bs ++ body chain) e w' := by
  have c0 : w.cell? ⟨cb, 0, none⟩ = some (.pointer (some ⟨mb, 0, none⟩)) := by rw [cell_at hcb]; rfl
  have c1 : w.cell? ⟨mb, 1, none⟩ = some chv := (hb0.cell (p := ⟨mb, 1, none⟩) (by have := lt_of_cell hm1; rw [hB0] at this; exact this)).trans hm1
  have hz0 : Lz w w B wb (bs ++ body (chain.take 0)) := ⟨by simpa [body] using h, Fr.refl _ _ _⟩
  obtain ⟨a, c, rfl, _, hx⟩ := hs
  clear h
  go_enter Try.func41, Try.ntmps41
  go_wp2
  go_loopw [10, 4] (fun i _ wr => ∃ k : Nat, k ≤ chain.length ∧ i = .int .i64 k ∧ Lz w wr B wb (bs ++ body (chain.take k))) (fun i _ _ => chain.length - (intOf i).toNat)
  case atStart => exact ⟨0, Nat.zero_le _, rfl, hz0⟩
  case round =>
    obtain ⟨k, hk, rfl, hl⟩ := hrel
    clear hz0 c0 c1
    by_cases hlt : k < chain.length
    · obtain ⟨b, off, rfl, x⟩ := hx (by omega)
      obtain ⟨u, y, r⟩ := x k hlt
      have hb1 : Below B W0 wr := hb0.trans hl.fr.bel
      have hyl := lt_of_cell y
      replace y : wr.cell? ⟨b, off + k, none⟩ = some u := (hb1.cell (p := ⟨b, off + k, none⟩) (by rw [hB0] at hyl; exact hyl)).trans y
      obtain ⟨d, HD⟩ : ∃ d : List Int, d = chain.getD k [] := ⟨_, rfl⟩
      rw [← HD] at r
      have hbt : body (chain.take (k + 1)) = body (chain.take k) ++ entry d := by rw [HD]; exact body_take_succ chain k hlt
      have hbl := body_take_le chain (k + 1)
      have hbl2 : (body (chain.take k)).length + d.length + 5 ≤ (body chain).length := by rw [hbt, List.length_append, entry_length] at hbl; omega
      have HBT : Hid (body (chain.take (k + 1)) = body (chain.take k) ++ entry d) := hbt
      have r' := r
      obtain ⟨d2, e2, hu2, hh2⟩ := r'
      subst hu2
      clear x hx hh2 HD hbt hbl
      obtain ⟨cs, hcs⟩ : ∃ cs : List Int, cs = bs ++ body (chain.take k) := ⟨_, rfl⟩
      have HC : Hid (cs = bs ++ body (chain.take k)) := hcs
      have hcl2 : cs.length + d.length + 10 ≤ 8388608 := by rw [hcs, List.length_append]; omega
      rw [← hcs] at hl
      clear hcs hbl2
      go_wp2_with fail
      refine (bytesVector_any 3 (Or.inr rfl) B wb cs d _ W0 wr hl.held r hB0 hb1 (by omega) (fun h => by omega) (by omega)).mono ?_
      rintro e w1 ⟨rfl, hw1, hf1⟩
      go_wp2_with fail
      refine (u16_zero B wb _ _ hw1 (by simp [hd_length]; omega)).mono ?_
      rintro e w2 ⟨rfl, hw2, hf2⟩
      have HL : Hid (Lz w w2 B wb (bs ++ body (chain.take (k + 1)))) := by
        refine ⟨?_, hl.fr.trans (hf1.trans hf2)⟩
        rw [HBT.out]
        have e : cs ++ (hd 3 d.length 3 ++ d) ++ [0, 0] = bs ++ (body (chain.take k) ++ entry d) := by
          rw [HC.out]
          simp [entry]
        rw [← e]
        exact hw2
      clear hw1 hw2 hf1 hf2 hl r hb1
      go_wp2
      go_roundw
      case rel => exact ⟨k + 1, by omega, by go_num, HL.out⟩
      case measure => simp [intOf]; omega
    · obtain rfl : k = chain.length := by omega
      rw [List.take_length] at hl
      go_wp2
      go_end0
      exact ⟨rfl, hl.held, hl.fr⟩

/-- The message has been made, in memory of the call's own. -/
def Marshaled (w : World) (bs : List Int) (e : Ending) (w' : World) : Prop :=
  ∃ v, e = .returned v ∧ w'.ownsRow w.heap.size 5 1 v bs.length (bs.map (Value.int .u8)) ∧ Below w.heap.size w w'

theorem cert_eq (ctx : List Int) (chain : List (List Int)) : [] ++ (hd 1 ctx.length 1 ++ ctx) ++ (hd 3 (body chain).length 3 ++ body chain) = cert ctx chain := by
  simp [cert]

set_option maxHeartbeats 400000 in
theorem marshal_any (mb : Nat) (ctx : List Int) (chain : List (List Int)) (ctxv chv : Value) (w : World) (hc : Row w 0 ctxv ctx) (hs : Rows2 w chv chain) (hm0 : w.cell? ⟨mb, 0, none⟩ = some ctxv) (hm1 : w.cell? ⟨mb, 1, none⟩ = some chv)
    (hcl : ctx.length ≤ 255) (hbl : (body chain).length ≤ 4194304) (hch : chain.length ≤ 1048576) :
    Calls Try.prog 14 #[.pointer (some ⟨mb, 0, none⟩)] w fun e w' => Marshaled w (cert ctx chain) e w' := by
  have hml := lt_of_cell hm0
  have hc' := hc
  obtain ⟨a, c, e1, hh⟩ := hc'
  subst e1
  clear hh
  obtain ⟨W1, hW1⟩ : ∃ W1, W1 = (w.alloc (.cells #[.pointer (some ⟨mb, 0, none⟩)] 27)).alloc (.cells #[.slice none 0 0] 58) := ⟨_, rfl⟩
  have hb1 : Below w.heap.size w W1 := by rw [hW1]; exact ((Below.refl _ _).alloc (Nat.le_refl _) _).alloc (by simp) _
  have hwr1 : Wr W1 w.heap.size (w.heap.size + 1) [] := by
    refine ⟨.slice none 0 0, by omega, hb1.size, ?_, World.ownsRow_nil _ _ _ _⟩
    rw [hW1]
    have := heap_alloc_new (w.alloc (.cells #[.pointer (some ⟨mb, 0, none⟩)] 27)) (.cells #[.slice none 0 0] 58)
    rwa [World.size_alloc] at this
  have hbx : W1.heap[w.heap.size]? = some (Obj.cells #[.pointer (some ⟨mb, 0, none⟩)] 27 (0, 0)) := by
    rw [hW1, Below.heap_alloc _ _ _ (by simp)]; exact heap_alloc_new w _
  have HS : Hid (Rows2 w chv chain) := hs
  have hcx := (bytesVector_any 1 (Or.inl rfl) w.heap.size (w.heap.size + 1) [] ctx _ w W1 hwr1 hc rfl hb1 (by simp) (fun _ => hcl) (by omega))
  have HV : Hid (Calls Try.prog 39 #[.pointer (some ⟨w.heap.size + 1, 0, none⟩), .int .i64 1, .slice a ctx.length c] ((w.alloc (.cells #[.pointer (some ⟨mb, 0, none⟩)] 27)).alloc (.cells #[.slice none 0 0] 58)) fun e w' => Wrote W1 w.heap.size (w.heap.size + 1) ([] ++ (hd 1 ctx.length 1 ++ ctx)) e w') := by
    rw [← hW1]; exact hcx
  have HW1 : Hid (W1 = (w.alloc (.cells #[.pointer (some ⟨mb, 0, none⟩)] 27)).alloc (.cells #[.slice none 0 0] 58)) := hW1
  clear hcx hs hW1
  go_enter Try.func14, Try.ntmps14
  go_wp2_with fail
  refine HV.out.mono ?_
  rintro e w2 ⟨rfl, hw2, hf2⟩
  have hb2 : Below w.heap.size w w2 := hb1.trans hf2.bel
  have hbx2 : w2.heap[w.heap.size]? = some (Obj.cells #[.pointer (some ⟨mb, 0, none⟩)] 27 (0, 0)) := (hf2.other _ _ _ hbx (by decide) (by omega)).trans hbx
  clear HV hwr1 hbx hb1
  go_wp2_with fail
  refine (vector_any 3 (Or.inr rfl) 41 (Or.inr rfl) w.heap.size w.heap.size (w.heap.size + 1) _ (body chain) w2 hw2 (by simp [hd_length]; omega) (fun h => by omega) (by omega) ?_).mono ?_
  · intro w3 hw3 hf3
    refine fillChain_any w.heap.size (w.heap.size + 1) w.heap.size mb _ chain chv w w3 hw3 HS.out rfl (hb2.trans hf3.bel) hm1 ((hf3.other _ _ _ hbx2 (by decide) (by omega)).trans hbx2) ?_ hch
    simp [hd_length]
    omega
  rintro e w3 ⟨rfl, hw3, hf3⟩
  rw [cert_eq] at hw3
  have hb3 := hb2.trans hf3.bel
  obtain ⟨v, _, _, hwb, hown⟩ := hw3
  obtain ⟨n, hn⟩ : ∃ n, n = (cert ctx chain).length := ⟨_, rfl⟩
  rw [← hn] at hown
  have HN : Hid (n = (cert ctx chain).length) := hn
  have HO : Hid (w3.ownsRow w.heap.size 5 1 v n ((cert ctx chain).map (Value.int .u8))) := hown
  have cw : w3.cell? ⟨w.heap.size + 1, 0, none⟩ = some v := by rw [cell_at hwb]; rfl
  obtain ⟨va, vc, hv⟩ := own_slice hown
  subst hv
  clear hown hwb hw2 hf2 hf3 hb2 hbx2 hn
  go_wp2
  go_ret
  exact ⟨_, rfl, by rw [← HN.out]; exact HO.out, hb3⟩

end Go.Proofs.Qxb6600119a
