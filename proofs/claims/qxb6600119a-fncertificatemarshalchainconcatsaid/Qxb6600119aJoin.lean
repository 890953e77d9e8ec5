import Derived.Test.Qxb6600119aEntries
namespace Go.Proofs.Qxb6600119a
open Go.RowKit

theorem body_append (a b : List (List Int)) : body (a ++ b) = body a ++ body b := by
  unfold body
  exact List.flatMap_append

/-- The message's head: all that stands ahead of the entries. -/
def front (ctx : List Int) (n : Nat) : List Int := hd 1 ctx.length 1 ++ (ctx ++ hd 3 n 3)

theorem front_length (ctx : List Int) (n : Nat) : (front ctx n).length = 1 + ctx.length + 3 := by
  simp [front, hd_length]
  omega

theorem cert_front (ctx : List Int) (chain : List (List Int)) : cert ctx chain = front ctx (body chain).length ++ (body chain ++ []) := by
  simp [cert, front]

theorem cert_front2 (ctx : List Int) (a b : List (List Int)) : cert ctx (a ++ b) = front ctx (body (a ++ b)).length ++ (body a ++ body b) := by
  rw [cert_front, body_append]
  simp

/-- A message has been made. -/
def Told (w : World) (L : List Int) (n : Nat) (e : Ending) (w' : World) : Prop :=
  ∃ g cap, e = .returned (.slice (some ⟨g, 0, none⟩) n cap) ∧ Msg w' g cap L ∧ Below w.heap.size w w'

theorem marshal_new (ctx : List Int) (chain : List (List Int)) (ctxv chv : Value) (n : Nat) (w : World) (hn : n = (cert ctx chain).length) (hc : Row w 0 ctxv ctx) (hs : Rows2 w chv chain)
    (hcl : ctx.length ≤ 255) (hbl : (body chain).length ≤ 4194304) (hch : chain.length ≤ 1048576) :
    Calls Try.prog 14 #[.pointer (some ⟨w.heap.size, 0, none⟩)] (w.alloc (.cells #[ctxv, chv] 29)) fun e w' => Told w (cert ctx chain) n e w' := by
  have b23 : Below w.heap.size w (w.alloc (.cells #[ctxv, chv] 29)) := (Below.refl _ _).alloc (Nat.le_refl _) _
  have hblk : (w.alloc (.cells #[ctxv, chv] 29)).heap[w.heap.size]? = some (Obj.cells #[ctxv, chv] 29 (0, 0)) := heap_alloc_new w _
  refine (marshal_any w.heap.size ctx chain _ _ _ (hc.keep b23) (hs.keep b23) (by rw [cell_at hblk]; rfl) (by rw [cell_at hblk]; rfl) hcl hbl hch).mono ?_
  rintro e w4 ⟨ov, rfl, hown, b4⟩
  have hl := cert_length ctx chain
  obtain ⟨g, cap, hov, hmsg⟩ := msg_of_own hown (by rw [hl]; unfold start; omega)
  exact ⟨g, cap, by rw [hov, hn], hmsg, b23.trans (b4.mono b23.size)⟩

theorem header_n (g cap n : Nat) (ctx : List Int) (chain : List (List Int)) (cv : Value) (w : World) (hn : n = (cert ctx chain).length) (hm : Msg w g cap (cert ctx chain)) (hr : Row w 0 cv ctx) (hcl : ctx.length ≤ 255) (hbl : (body chain).length ≤ 4194304) :
    Calls Try.prog 18 #[.slice (some ⟨g, 0, none⟩) n cap, cv] w fun e w' => Yes w e w' := by
  rw [hn]
  exact headerOK_any g cap ctx chain cv w hm hr hcl hbl

theorem entries_n (g cap n q : Nat) (L P Y : List Int) (chain : List (List Int)) (chv : Value) (p : Int) (w : World) (hn : n = L.length) (hm : Msg w g cap L) (hL : L = P ++ (body chain ++ Y)) (hp : p = (P.length : Int)) (hq : q = P.length + (body chain).length) (hs : Rows2 w chv chain) (hl : n ≤ 8388608) (hch : chain.length ≤ 1048576) :
    Calls Try.prog 19 #[.slice (some ⟨g, 0, none⟩) n cap, .int .i64 p, chv] w fun e w' => Passed w q e w' := by
  rw [hn, hq]
  exact entriesAt_any g cap L P Y chain chv p w hm hL hp hs (by rw [← hn]; exact hl) hch

/-- A part of a message as the model slices it: at the array's end the address stays. -/
theorem Msg.sub {w : World} {g cap x m : Nat} {L X M Y : List Int} (h : Msg w g cap L) (hL : L = X ++ (M ++ Y)) (hx : x = X.length) (hm : m = M.length) (c : Nat) : Row w 0 (.slice (if cap = x then some ⟨g, 0, none⟩ else some ⟨g, x, none⟩) m c) M := by
  subst hx; subst hm
  by_cases e : cap = X.length
  · rw [if_pos e]
    have h1 := h.1
    have hlen : L.length = X.length + (M.length + Y.length) := by rw [hL]; simp
    exact ⟨_, _, rfl, by simp, fun h0 => absurd (by omega) h0⟩
  · rw [if_neg e]
    exact h.part hL c

/-- One more row has been appended. -/
theorem Dec.next {w wr w3 : World} {v v' u : Value} {chain : List (List Int)} {k : Nat} {xs : List Value} (o : Obj) (hbel : Below w.heap.size w wr) (hown : wr.ownsRow w.heap.size 22 1 v k xs) (hxs : ∀ j, j < k → ∃ u, xs[j]? = some u ∧ Row w 0 u (chain.getD j []))
    (hown3 : w3.ownsRow w.heap.size 22 1 v' (k + 1) (xs ++ [u])) (hgrow : (wr.alloc o).grownBy w3 v.ownBlock) (hu : Row w 0 u (chain.getD k [])) : Dec w w3 v' chain (k + 1) := by
  have hsz := hbel.size
  have hb3 : Below w.heap.size w w3 := (hbel.alloc hsz _).grown hgrow (by simp; omega) (fun i e => (hown.lt i e).1)
  refine ⟨hb3, _, hown3, fun j hj => ?_⟩
  have hl := hown.1
  by_cases e : j < k
  · obtain ⟨u, e1, e2⟩ := hxs j e
    exact ⟨u, by rw [List.getElem?_append_left (by omega)]; exact e1, e2⟩
  · obtain rfl : j = k := by omega
    exact ⟨_, by rw [List.getElem?_append_right (by omega), hl, Nat.mul_one, Nat.sub_self]; rfl, hu⟩

theorem getD_cat_left (a b : List (List Int)) (k : Nat) (hk : k < a.length) : (a ++ b).getD k [] = a.getD k [] := by
  rw [List.getD, List.getD, List.getElem?_append_left hk]

theorem getD_cat_right (a b : List (List Int)) (k : Nat) : (a ++ b).getD (a.length + k) [] = b.getD k [] := by
  rw [List.getD, List.getD, List.getElem?_append_right (by omega), Nat.add_sub_cancel_left]

end Go.Proofs.Qxb6600119a
