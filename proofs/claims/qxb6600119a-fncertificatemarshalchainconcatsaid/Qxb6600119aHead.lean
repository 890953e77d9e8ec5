import Derived.Test.Qxb6600119aDecode
import Derived.Test.Qxb6600119aEq
namespace Go.Proofs.Qxb6600119a
open Go.RowKit

/-- It returns true, and has done nothing but draw. -/
def Yes (w : World) (e : Ending) (w' : World) : Prop := e = .returned (.bool true) ∧ Drew w w'

theorem ret_bool {a b : Bool} (h : a = b) : Ending.returned (.bool a) = .returned (.bool b) := by rw [h]

set_option maxHeartbeats 1000000 in
theorem headerOK_any (g cap : Nat) (ctx : List Int) (chain : List (List Int)) (cv : Value) (w : World) (hm : Msg w g cap (cert ctx chain)) (hr : Row w 0 cv ctx) (hcl : ctx.length ≤ 255) (hbl : (body chain).length ≤ 4194304) :
    Calls Try.prog 18 #[.slice (some ⟨g, 0, none⟩) (cert ctx chain).length cap, cv] w fun e w' => Yes w e w' := by
  have hL := cert_length ctx chain
  obtain ⟨n, hn⟩ : ∃ n, n = (cert ctx chain).length := ⟨_, rfl⟩
  have hnb : n = 1 + ctx.length + 3 + (body chain).length := by rw [hn, hL]; rfl
  have HNL : Hid (n = (cert ctx chain).length) := hn
  have hn1 : 1 + ctx.length + 3 ≤ n := by omega
  have hn2 : n ≤ 8388608 := by omega
  have hcap : n ≤ cap := by rw [hn]; exact hm.1
  have hcap2 : cap ≤ maxLen := hm.2.1
  unfold maxLen at hcap2
  have c0 : w.cell? ⟨g, 0, none⟩ = some (.int .u8 (ctx.length : Int)) := by
    rw [hm.2.2 0 (by omega)]
    have : (cert ctx chain).getD 0 0 = byteAt ctx.length 0 := rfl
    rw [this, byte0]
    have : (ctx.length : Int) % 256 = ctx.length := by omega
    rw [this]
  rw [← hn]
  obtain ⟨bl, hble⟩ : ∃ bl, bl = (body chain).length := ⟨_, rfl⟩
  have HT : Hid ((bl : Int) = (n : Int) - (1 + (ctx.length : Int) + 3)) := by
    show (bl : Int) = (n : Int) - (1 + (ctx.length : Int) + 3)
    omega
  rw [← hble] at hbl
  have hsub : 1 + ctx.length - 1 = ctx.length := by omega
  have hrow : Row w 0 (.slice (some ⟨g, 0, none⟩) n cap) (cert ctx chain) := by rw [hn]; exact hm.row
  have HLS : Hid (cert ctx chain = (hd 1 ctx.length 1 ++ ctx) ++ (hd 3 bl 3 ++ body chain)) := by
    show cert ctx chain = (hd 1 ctx.length 1 ++ ctx) ++ (hd 3 bl 3 ++ body chain)
    rw [hble]; simp [cert]
  have hcx : Row w 0 (.slice (some ⟨g, 1, none⟩) ctx.length (cap - 1)) ctx := by
    have hL1 : cert ctx chain = hd 1 ctx.length 1 ++ (ctx ++ (hd 3 (body chain).length 3 ++ body chain)) := rfl
    have := hm.part hL1 (cap - 1)
    rw [hd_length] at this
    exact this
  have hr' := hr
  obtain ⟨a, c, ecv, hh⟩ := hr'
  subst ecv
  clear hh hnb hn hL hble hm
  have HR : Hid (Row w 0 (.slice (some ⟨g, 0, none⟩) n cap) (cert ctx chain)) := hrow
  clear hrow
  go_enter Try.func18, Try.ntmps18
  go_wp2_with fail
  refine (bytesEq_same _ _ ctx _ 0 0 (by omega) hcx hr).mono ?_
  rintro e w1 ⟨rfl, nd, hw1⟩
  rw [hw1]
  clear hw1 hcx hr
  go_wp2_with fail
  refine (u24_int _ (cert ctx chain) (hd 1 ctx.length 1 ++ ctx) (body chain) bl _ _ (HR.out.keep (below_drewN _ _)) HLS.out (by simp [hd_length]) (by omega) (by rw [← HNL.out]; omega)).mono ?_
  rintro e w2 ⟨rfl, nd2, hw2⟩
  rw [hw2]
  clear hw2
  go_wp2
  go_ret
  exact ⟨ret_bool (by have := HT.out; simp; omega), Drew.drewN _ _⟩

end Go.Proofs.Qxb6600119a
