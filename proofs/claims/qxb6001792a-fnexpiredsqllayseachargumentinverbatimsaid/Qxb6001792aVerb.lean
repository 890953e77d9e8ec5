import Derived.Test.Qxb6001792aApart
import Derived.Test.Qxb6001792aFind
namespace Go.Proofs.Qxb6001792a
open Go.RowKit

theorem size_of {s : ByteArray} {l : List UInt8} (h : s.data.toList = l) : s.size = l.length := by
  rw [← h, Array.length_toList]; rfl

theorem get_of {s : ByteArray} {l : List UInt8} (h : s.data.toList = l) {i : Nat} (hi : i < s.size) : some s[i] = l[i]? := by
  have e : s.data.toList[i]? = some s[i] := by
    rw [List.getElem?_eq_getElem (by simpa using hi)]
    rfl
  rw [← e, h]

/-- Where two strings part for the first time. -/
theorem diff_first {a b : ByteArray} {P X Y : List UInt8} {x y : UInt8} (ha : a.data.toList = P ++ x :: X) (hb : b.data.toList = P ++ y :: Y) (hxy : x ≠ y) :
    ∃ (h1 : P.length < a.size) (h2 : P.length < b.size), (∀ i (h1 : i < a.size) (h2 : i < b.size), i < P.length → a[i] = b[i]) ∧ a[P.length] ≠ b[P.length] := by
  have sa := size_of ha
  have sb := size_of hb
  simp at sa sb
  have h1 : P.length < a.size := by omega
  have h2 : P.length < b.size := by omega
  refine ⟨h1, h2, fun i i1 i2 hi => ?_, fun e => ?_⟩
  · have e1 := get_of ha i1
    have e2 := get_of hb i2
    rw [List.getElem?_append_left hi] at e1 e2
    exact Option.some.inj (e1.trans e2.symm)
  · have e1 := get_of ha h1
    have e2 := get_of hb h2
    rw [List.getElem?_append_right (Nat.le_refl _), Nat.sub_self, List.getElem?_cons_zero] at e1 e2
    rw [e] at e1
    exact hxy (Option.some.inj (e1.symm.trans e2))

theorem get_end {a : ByteArray} {X S : List UInt8} (ha : a.data.toList = X ++ S) {i : Nat} (hi : i < S.length) (h : a.size - 1 - i < a.size) : some a[a.size - 1 - i] = S[S.length - 1 - i]? := by
  have sa := size_of ha
  rw [List.length_append] at sa
  rw [get_of ha h, List.getElem?_append_right (by omega)]
  congr 1
  omega

/-- Where two strings part for the first time, from their ends. -/
theorem diff_last {a b : ByteArray} {S X Y : List UInt8} {x y : UInt8} (ha : a.data.toList = X ++ x :: S) (hb : b.data.toList = Y ++ y :: S) (hxy : x ≠ y) :
    S.length < a.size ∧ S.length < b.size ∧ (∀ i (h1 : a.size - 1 - i < a.size) (h2 : b.size - 1 - i < b.size), i < S.length → a[a.size - 1 - i] = b[b.size - 1 - i]) ∧
      ∀ (h1 : a.size - 1 - S.length < a.size) (h2 : b.size - 1 - S.length < b.size), a[a.size - 1 - S.length] ≠ b[b.size - 1 - S.length] := by
  have sa := size_of ha
  have sb := size_of hb
  simp at sa sb
  refine ⟨by omega, by omega, fun i i1 i2 hi => ?_, fun i1 i2 e => ?_⟩
  · have e1 := get_end ha (i := i) (by simp; omega) i1
    have e2 := get_end hb (i := i) (by simp; omega) i2
    have hz : (x :: S).length - 1 - i = (S.length - 1 - i) + 1 := by simp; omega
    have hz' : (y :: S).length - 1 - i = (S.length - 1 - i) + 1 := by simp; omega
    rw [hz, List.getElem?_cons_succ] at e1
    rw [hz', List.getElem?_cons_succ] at e2
    exact Option.some.inj (e1.trans e2.symm)
  · have e1 := get_end ha (i := S.length) (by simp) i1
    have e2 := get_end hb (i := S.length) (by simp) i2
    have hz : (x :: S).length - 1 - S.length = 0 := by simp
    have hz' : (y :: S).length - 1 - S.length = 0 := by simp
    rw [hz, List.getElem?_cons_zero] at e1
    rw [hz', List.getElem?_cons_zero] at e2
    rw [e] at e1
    exact hxy (Option.some.inj (e1.symm.trans e2))

/-- A part that stands in the middle. -/
theorem stands {s part : ByteArray} {X Y : List UInt8} (hs : s.data.toList = X ++ (part.data.toList ++ Y)) : X.length + part.size ≤ s.size ∧ ∀ i (h1 : X.length + i < s.size) (h2 : i < part.size), s[X.length + i] = part[i] := by
  have ss := size_of hs
  have sp : part.size = part.data.toList.length := size_of rfl
  rw [List.length_append, List.length_append] at ss
  refine ⟨by omega, fun i i1 i2 => ?_⟩
  have e1 := get_of hs i1
  have e2 := get_of (s := part) rfl i2
  rw [List.getElem?_append_right (by omega), Nat.add_sub_cancel_left, List.getElem?_append_left (by omega)] at e1
  exact Option.some.inj (e1.trans e2.symm)

/-! ### The four places -/
def sD' : List UInt8 := [32, 70, 82, 79, 77]

theorem bytes_any8 (a b : ByteArray) (w : World) :
    Calls Try.prog 8 #[.string a, .string b] w fun e w' => IsBool e ∧ w' = w := by
  go_enter Try.func8, Try.ntmps8
  go_wp2
  all_goals (go_ret; exact ⟨⟨_, rfl⟩, rfl⟩)

/-- The place of the table's first standing. -/
theorem place1 {k base probe : ByteArray} (hb : base.data.toList = sqlL (⟨#[]⟩ : ByteArray).data.toList k.data.toList) (hp : probe.data.toList = sqlL (⟨#[120]⟩ : ByteArray).data.toList k.data.toList) :
    base.data.toList = sA ++ 10 :: (sB.tail ++ (k.data.toList ++ (sC ++ (k.data.toList ++ (sD ++ sE))))) ∧ probe.data.toList = sA ++ 120 :: (sB ++ (k.data.toList ++ (sC ++ (k.data.toList ++ (sD ++ (120 :: sE)))))) := by
  exact ⟨hb, hp⟩

theorem place2 {k base probe : ByteArray} (hb : base.data.toList = sqlL (⟨#[]⟩ : ByteArray).data.toList k.data.toList) (hp : probe.data.toList = sqlL (⟨#[120]⟩ : ByteArray).data.toList k.data.toList) :
    base.data.toList = (sA ++ (sB ++ (k.data.toList ++ (sC ++ (k.data.toList ++ sD'))))) ++ 32 :: sE ∧ probe.data.toList = (sA ++ (120 :: (sB ++ (k.data.toList ++ (sC ++ (k.data.toList ++ sD)))))) ++ 120 :: sE := by
  refine ⟨?_, ?_⟩
  · rw [hb]
    simp only [List.append_assoc]
    rfl
  · rw [hp]
    simp only [List.append_assoc, List.cons_append]
    rfl

theorem place3 {t base probe : ByteArray} (hb : base.data.toList = sqlL t.data.toList (⟨#[]⟩ : ByteArray).data.toList) (hp : probe.data.toList = sqlL t.data.toList (⟨#[120]⟩ : ByteArray).data.toList) :
    base.data.toList = (sA ++ (t.data.toList ++ sB)) ++ 41 :: (sC.tail ++ (sD ++ (t.data.toList ++ sE))) ∧ probe.data.toList = (sA ++ (t.data.toList ++ sB)) ++ 120 :: (sC ++ (120 :: (sD ++ (t.data.toList ++ sE)))) := by
  refine ⟨?_, ?_⟩
  · rw [hb]
    simp only [List.append_assoc]
    rfl
  · rw [hp]
    simp only [List.append_assoc]
    rfl

theorem got1 {t k got : ByteArray} (h : got.data.toList = sqlL t.data.toList k.data.toList) : got.data.toList = sA ++ (t.data.toList ++ (sB ++ (k.data.toList ++ (sC ++ (k.data.toList ++ (sD ++ (t.data.toList ++ sE))))))) := h

theorem got2 {t k got : ByteArray} (h : got.data.toList = sqlL t.data.toList k.data.toList) : got.data.toList = (sA ++ (t.data.toList ++ (sB ++ (k.data.toList ++ (sC ++ (k.data.toList ++ sD)))))) ++ (t.data.toList ++ sE) := by
  rw [h]
  simp only [List.append_assoc, sqlL]

theorem got3 {t k got : ByteArray} (h : got.data.toList = sqlL t.data.toList k.data.toList) : got.data.toList = (sA ++ (t.data.toList ++ sB)) ++ (k.data.toList ++ (sC ++ (k.data.toList ++ (sD ++ (t.data.toList ++ sE))))) := by
  rw [h]
  simp only [List.append_assoc, sqlL]

theorem first_at (a b : ByteArray) (p : Nat) (w : World) {P X Y : List UInt8} {x y : UInt8} (ha : a.data.toList = P ++ x :: X) (hb : b.data.toList = P ++ y :: Y) (hxy : x ≠ y) (hp : p = P.length) (sa : a.size ≤ 8388608) (sb : b.size ≤ 8388608) :
    Calls Try.prog 11 #[.string a, .string b] w fun e w' => e = .returned (.int .i64 p) ∧ ∃ n, w' = w.drewN n := by
  obtain ⟨h1, h2, h3, h4⟩ := diff_first ha hb hxy
  subst hp
  exact firstDiff_any a b P.length w sa sb h1 h2 h3 h4

theorem last_at (a b : ByteArray) (p : Nat) (w : World) {S X Y : List UInt8} {x y : UInt8} (ha : a.data.toList = X ++ x :: S) (hb : b.data.toList = Y ++ y :: S) (hxy : x ≠ y) (hp : p = S.length) (sa : a.size ≤ 8388608) (sb : b.size ≤ 8388608) :
    Calls Try.prog 12 #[.string a, .string b] w fun e w' => e = .returned (.int .i64 p) ∧ ∃ n, w' = w.drewN n := by
  obtain ⟨h1, h2, h3, h4⟩ := diff_last ha hb hxy
  subst hp
  exact suffix_any a b S.length w sa sb h1 h2 h3 h4

theorem has_at (s part : ByteArray) (p : Nat) (w : World) {X Y : List UInt8} (hs : s.data.toList = X ++ (part.data.toList ++ Y)) (hp : p = X.length) (ss : s.size ≤ 8388608) :
    Calls Try.prog 10 #[.string s, .int .i64 p, .string part] w fun e w' => e = .returned (.bool true) ∧ ∃ n, w' = w.drewN n := by
  obtain ⟨h1, h2⟩ := stands hs
  subst hp
  exact hasAt_any s part X.length w ss h1 h2

theorem sql_size {t k s : ByteArray} (h : s.data.toList = sqlL t.data.toList k.data.toList) : s.size = 291 + 2 * t.size + 2 * k.size := by
  rw [size_of h, sqlL_length, ← size_of (s := t) rfl, ← size_of (s := k) rfl]

theorem grown_drewN {w w' : World} (h : Grown w w') (n : Nat) : Grown w (w'.drewN n) := h

set_option maxHeartbeats 1000000 in
theorem verbatim_any (t k : ByteArray) (w : World) :
    Calls Try.prog 3 #[.string t, .string k] w fun e w' => e = .returned (.bool true) ∧ ∃ n, w' = w.drewN n := by
  go_enter Try.func3, Try.ntmps3
  go_wp2_with (go_at_call 8; refine (bytes_any8 _ _ _).mono ?_; rintro e w' ⟨⟨q, rfl⟩, rfl⟩; cases q)
  iterate 4 (· go_ret; exact ⟨rfl, 0, rfl⟩)
  have ht : t.size ≤ 1048576 := by omega
  have hk : k.size ≤ 1048576 := by omega
  refine (zzExpired_any _ _ _ (by decide) (by decide)).mono ?_
  rintro e w1 ⟨⟨bare, rfl, hbare⟩, rfl⟩
  have zbare := sql_size hbare
  have zbare' : bare.size = 291 := zbare
  have HB : Hid (bare.size = 291) := zbare'
  clear hbare zbare zbare'
  go_wp2_with fail
  refine (zzExpired_any _ _ _ ht hk).mono ?_
  rintro e w2 ⟨⟨got, rfl, hgot⟩, rfl⟩
  have zgot := sql_size hgot
  have HG : Hid (got.data.toList = sqlL t.data.toList k.data.toList) := hgot
  have HZ : Hid (got.size = 291 + 2 * t.size + 2 * k.size) := zgot
  have htest : ((got.size : Int) != (bare.size : Int) + 2 * (t.size : Int) + 2 * (k.size : Int)) = false := by
    rw [HB.out, HZ.out]; simp
  have hgs : got.size ≤ 8388608 := by omega
  have hbs : bare.size ≤ 300 := by have := HB.out; omega
  clear hgot zgot
  go_wp2_with fail
  refine (zzExpired_any _ _ _ (by decide) hk).mono ?_
  rintro e w3 ⟨⟨tb, rfl, htb⟩, rfl⟩
  have HTB : Hid (tb.data.toList = sqlL (⟨#[]⟩ : ByteArray).data.toList k.data.toList) := htb
  have ztb : tb.size ≤ 8388608 := by have e0 : (⟨#[]⟩ : ByteArray).size = 0 := rfl; have := sql_size htb; omega
  clear htb
  go_wp2_with fail
  refine (zzExpired_any _ _ _ (by decide) hk).mono ?_
  rintro e w4 ⟨⟨tp, rfl, htp⟩, rfl⟩
  have HTP : Hid (tp.data.toList = sqlL (⟨#[120]⟩ : ByteArray).data.toList k.data.toList) := htp
  have ztp : tp.size ≤ 8388608 := by have e0 : (⟨#[120]⟩ : ByteArray).size = 1 := rfl; have := sql_size htp; omega
  clear htp
  obtain ⟨p1, HP1⟩ : ∃ p, Hid (p = sA.length) := ⟨_, rfl⟩
  obtain ⟨p2, HP2⟩ : ∃ p, Hid (p = sE.length) := ⟨_, rfl⟩
  obtain ⟨p3, HP3⟩ : ∃ p, Hid (p = (sA ++ (t.data.toList ++ sB)).length) := ⟨_, rfl⟩
  have zp2 : p2 ≤ 230 := by have e0 : sE.length = 230 := (by decide +kernel); have := HP2.out; omega
  go_wp2_with fail
  refine (first_at tb tp p1 _ (place1 HTB.out HTP.out).1 (place1 HTB.out HTP.out).2 (by decide) HP1.out ztb ztp).mono ?_
  rintro e w5 ⟨rfl, n1, rfl⟩
  go_wp2_with fail
  refine (has_at got t p1 _ (got1 HG.out) HP1.out hgs).mono ?_
  rintro e w6 ⟨rfl, n2, rfl⟩
  go_wp2_with fail
  refine (last_at tb tp p2 _ (place2 HTB.out HTP.out).1 (place2 HTB.out HTP.out).2 (by decide) HP2.out ztb ztp).mono ?_
  rintro e w7 ⟨rfl, n3, rfl⟩
  obtain ⟨q, HQ⟩ : ∃ q, Hid (q = (sA ++ (t.data.toList ++ (sB ++ (k.data.toList ++ (sC ++ (k.data.toList ++ sD)))))).length) := ⟨_, rfl⟩
  have hq : (got.size : Int) - (p2 : Int) - (t.size : Int) = (q : Int) := by
    have e1 := size_of (got2 HG.out)
    rw [List.length_append, ← HQ.out, List.length_append, ← HP2.out, ← size_of (s := t) rfl] at e1
    omega
  go_wp2_with fail
  refine (has_at got t q _ (got2 HG.out) HQ.out hgs).mono ?_
  rintro e w8 ⟨rfl, n4, rfl⟩
  clear hq
  go_wp2_with fail
  refine (zzExpired_any _ _ _ ht (by decide)).mono ?_
  rintro e w9 ⟨⟨kb, rfl, hkb⟩, rfl⟩
  have HKB : Hid (kb.data.toList = sqlL t.data.toList (⟨#[]⟩ : ByteArray).data.toList) := hkb
  have zkb : kb.size ≤ 8388608 := by have e0 : (⟨#[]⟩ : ByteArray).size = 0 := rfl; have := sql_size hkb; omega
  clear hkb
  go_wp2_with fail
  refine (zzExpired_any _ _ _ ht (by decide)).mono ?_
  rintro e w10 ⟨⟨kp, rfl, hkp⟩, rfl⟩
  have HKP : Hid (kp.data.toList = sqlL t.data.toList (⟨#[120]⟩ : ByteArray).data.toList) := hkp
  have zkp : kp.size ≤ 8388608 := by have e0 : (⟨#[120]⟩ : ByteArray).size = 1 := rfl; have := sql_size hkp; omega
  clear hkp
  go_wp2_with fail
  refine (first_at kb kp p3 _ (place3 HKB.out HKP.out).1 (place3 HKB.out HKP.out).2 (by decide) HP3.out zkb zkp).mono ?_
  rintro e w11 ⟨rfl, n5, rfl⟩
  go_wp2_with fail
  refine (has_at got k p3 _ (got3 HG.out) HP3.out hgs).mono ?_
  rintro e w12 ⟨rfl, n6, rfl⟩
  go_wp2
  go_ret
  exact ⟨rfl, _, rfl⟩

end Go.Proofs.Qxb6001792a
