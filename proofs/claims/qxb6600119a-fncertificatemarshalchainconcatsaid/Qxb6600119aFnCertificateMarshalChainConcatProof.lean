import Derived.Test.Qxb6600119aConcat
import Derived.Test.Qxb6600119aConcatFacts
import Derived.ProofKit
import Derived.OpenShut
import Derived.ChangeOld
import Derived.Deep.Matrix
namespace Go.Proofs.Qxb6600119a.fnCertificateMarshalChainConcat
open Go.ChangeShapes Go.WideShapes Go.ChangeAt Go.RowKit Go.Deep

theorem own : ownKnob Try.prog.godebug = none := by kernel_rfl
theorem laidOut : laidOutB Try.prog = true := by kernel_rfl
theorem cells5 : Try.prog.cellsOf 5 = 1 := by kernel_rfl
theorem cells22 : Try.prog.cellsOf 22 = 1 := by kernel_rfl

theorem add_none (b off i : Nat) : (⟨b, off, none⟩ : Addr).add i = ⟨b, off + i, none⟩ := by
  unfold Addr.add
  split <;> simp_all

/-- The row of a slice of ints, off its cells. -/
theorem row_of {w : World} {a : Option Addr} {len cap : Nat} {zs : List Int} (hl : len ≤ cap) (hz : zs.length = cap) (hn : a = none → cap = 0)
    (hc : ∀ x, a = some x → ∀ i, i < cap → w.cell? (x.add i) = some (.int .u8 (zs.getD i 0))) : Row w 0 (.slice a len cap) (zs.take len) := by
  have hlen : (zs.take len).length = len := by rw [List.length_take]; omega
  refine ⟨a, cap, by rw [hlen], fun h => ?_, fun h0 => ?_⟩
  · have := hn h
    exact ⟨by omega, this⟩
  · rw [hlen] at h0
    cases a with
    | none => have := hn rfl; omega
    | some x =>
      obtain ⟨b, off, spot⟩ := x
      have h00 := hc _ rfl 0 (by omega)
      have hspot : spot = none := by simpa [Addr.add] using World.cell?_spot h00
      subst hspot
      refine ⟨b, off, rfl, Nat.zero_le _, fun i hi => ?_⟩
      rw [hlen] at hi
      have := hc _ rfl i (by omega)
      rw [add_none] at this
      rw [this]
      simp [List.getD, hi]

set_option maxRecDepth 100000 in
theorem lifted (os : Os) (started : os.Started) (H : Type) (enc : TypeId × Value → H) :
    ReturnsInHanded {} Try.checked os 4 .any (Rows.fnCertificateMarshalChainConcatSpec.pre6 enc Try.prog Try.f4 Rows.fnCertificateMarshalChainConcatRow.domain false) (Rows.fnCertificateMarshalChainConcatSpec.post enc Try.prog Try.f4 false true false false) := by
  refine returnsInHanded_of_change (C := Try.checked) own started (by kernel_rfl) Try.func4
    (ChangeSpec.witness6 (enc := enc) (C := Try.checked) false ⟨#[], #[.slice none 0 0, .slice none 0 0, .slice none 0 0], []⟩ 8 (by kernel_rfl) (by kernel_rfl) (by kernel_rfl) (by kernel_rfl)) ?_
  intro W base args ds gs before hval0 hW hcnd _
  have hval : ∀ (j : Nat) t v, Try.f4.params[j]? = some t → args[j]? = some v → Value.okWide Try.prog W .any base t v := hval0
  have hW' := hW
  obtain ⟨p, q, hA0, hV, rfl, hfz, hnd⟩ := hW
  have hA : DataW.TrodAll enc Try.prog W 0 (fun _ => true) true Try.f4.params.toList args.toList ds p := hA0
  rw [Try.params4] at hA hval
  obtain ⟨v0, vs0, d0, ds0, p0, q0, hargs, rfl, rfl, h0, r0⟩ := trodAll_cons hA
  obtain ⟨v1, vs1, d1, ds1, p1, q1, rfl, rfl, rfl, h1, r1⟩ := trodAll_cons r0
  obtain ⟨v2, vs2, d2, ds2, p2, q2, rfl, rfl, rfl, h2, r2⟩ := trodAll_cons r1
  obtain ⟨rfl, rfl, rfl⟩ := trodAll_nil r2
  obtain rfl : args = #[v0, v1, v2] := by cases args; simp_all
  obtain ⟨rfl, rfl⟩ := trodVars_none hV
  obtain ⟨a0, len0, cap0, rfl⟩ := okWide_slice Try.underlying22 (hval 0 22 v0 rfl rfl)
  obtain ⟨a1, len1, cap1, rfl⟩ := okWide_slice Try.underlying23 (hval 1 23 v1 rfl rfl)
  obtain ⟨a2, len2, cap2, rfl⟩ := okWide_slice Try.underlying23 (hval 2 23 v2 rfl rfl)
  have k0 := h0
  have lt0 : ∀ x ∈ p0, x.block < W.heap.size := by obtain ⟨m, hm⟩ := k0; exact DataW.trod_lt m _ _ _ hm
  have k1 := h1
  have lt1 : ∀ x ∈ p1, x.block < W.heap.size := by obtain ⟨m, hm⟩ := k1; exact DataW.trod_lt m _ _ _ hm
  have k2 := h2
  have lt2 : ∀ x ∈ p2, x.block < W.heap.size := by obtain ⟨m, hm⟩ := k2; exact DataW.trod_lt m _ _ _ hm
  obtain ⟨z0, w0⟩ : ∃ zs, Row W 0 (.slice a0 len0 cap0) zs := by
    obtain ⟨fuel, hf⟩ := h0
    rcases open_ints Try.underlying22 Try.underlying5 cells5 hf with ⟨hcs, _⟩ | ⟨x, l, c, zs, hcs, _, hl, hm, hz, _, hcell, hwz⟩
    · simp [Value.cells] at hcs
      obtain ⟨rfl, rfl, rfl⟩ := hcs
      exact ⟨[], none, 0, rfl, fun _ => ⟨rfl, rfl⟩, fun h => absurd rfl h⟩
    · simp [Value.cells] at hcs
      obtain ⟨rfl, rfl, rfl⟩ := hcs
      have hz' : zs.length = cap0 := by simpa using hz
      refine ⟨_, row_of hl hz' (fun h => by cases h) (fun y hy i hi => ?_)⟩
      cases hy
      exact hcell i (by omega)
  obtain ⟨z1, w1⟩ : ∃ zss, Rows2 W (.slice a1 len1 cap1) zss := by
    obtain ⟨fuel, hf⟩ := h1
    rcases open_int_rows Try.underlying23 Try.underlying22 Try.underlying5 cells22 cells5 hf with ⟨hcs, _⟩ | ⟨x, l, c, A, L, C, Z, hcs, _, hl, hm, _, hr⟩
    · simp [Value.cells] at hcs
      obtain ⟨rfl, rfl, rfl⟩ := hcs
      exact ⟨[], none, 0, rfl, fun _ => rfl, fun h => absurd rfl h⟩
    · simp [Value.cells] at hcs
      obtain ⟨rfl, rfl, rfl⟩ := hcs
      refine ⟨(List.range len1).map fun r => (Z r).take (L r), some x, cap1, by simp, (fun h => by cases h), fun hn => ?_⟩
      simp only [List.length_map, List.length_range] at hn
      obtain ⟨b, off, spot⟩ := x
      have h00 := (hr 0 (by omega)).1
      have hspot : spot = none := by simpa [Addr.add] using World.cell?_spot h00
      subst hspot
      refine ⟨b, off, rfl, fun i hi => ?_⟩
      simp only [List.length_map, List.length_range] at hi
      obtain ⟨e1, e2, e3, e4, e5, e6, e7⟩ := hr i (by omega)
      rw [add_none] at e1
      refine ⟨_, e1, ?_⟩
      have : ((List.range len1).map fun r => (Z r).take (L r)).getD i [] = (Z i).take (L i) := by simp [List.getD, hi]
      rw [this]
      exact row_of e2 e4 e6 (fun y hy c hc => (e7 y hy).2 c hc)
  obtain ⟨z2, w2⟩ : ∃ zss, Rows2 W (.slice a2 len2 cap2) zss := by
    obtain ⟨fuel, hf⟩ := h2
    rcases open_int_rows Try.underlying23 Try.underlying22 Try.underlying5 cells22 cells5 hf with ⟨hcs, _⟩ | ⟨x, l, c, A, L, C, Z, hcs, _, hl, hm, _, hr⟩
    · simp [Value.cells] at hcs
      obtain ⟨rfl, rfl, rfl⟩ := hcs
      exact ⟨[], none, 0, rfl, fun _ => rfl, fun h => absurd rfl h⟩
    · simp [Value.cells] at hcs
      obtain ⟨rfl, rfl, rfl⟩ := hcs
      refine ⟨(List.range len2).map fun r => (Z r).take (L r), some x, cap2, by simp, (fun h => by cases h), fun hn => ?_⟩
      simp only [List.length_map, List.length_range] at hn
      obtain ⟨b, off, spot⟩ := x
      have h00 := (hr 0 (by omega)).1
      have hspot : spot = none := by simpa [Addr.add] using World.cell?_spot h00
      subst hspot
      refine ⟨b, off, rfl, fun i hi => ?_⟩
      simp only [List.length_map, List.length_range] at hi
      obtain ⟨e1, e2, e3, e4, e5, e6, e7⟩ := hr i (by omega)
      rw [add_none] at e1
      refine ⟨_, e1, ?_⟩
      have : ((List.range len2).map fun r => (Z r).take (L r)).getD i [] = (Z i).take (L i) := by simp [List.getD, hi]
      rw [this]
      exact row_of e2 e4 e6 (fun y hy c hc => (e7 y hy).2 c hc)
  clear hA0 hval0
  refine (concat_any _ _ _ z0 z1 z2 W w0 w1 w2).mono fun e W' ⟨he, bel⟩ => ?_
  subst he
  exact ⟨_, rfl, _, _, _, [], _, [], hW', trodAll_mk1 (shut_bool Try.underlying4 _), (trodAll_cons_mk (Below.trod laidOut (by kernel_rfl) (of_decide_eq_true (by kernel_rfl)) k0 bel lt0) (trodAll_cons_mk (Below.trod laidOut (by kernel_rfl) (of_decide_eq_true (by kernel_rfl)) k1 bel lt1) (trodAll_cons_mk (Below.trod laidOut (by kernel_rfl) (of_decide_eq_true (by kernel_rfl)) k2 bel lt2) trodAll_mk0))), rfl, bel.frame _, fun h => by cases h⟩

theorem over : Rows.fnCertificateMarshalChainConcatRow.holds Try.pinned (OpenSpec.ofChange Rows.fnCertificateMarshalChainConcatSpec) :=
  OpenClaim.holds_of_wide 4 Try.f4 rfl rfl rfl rfl rfl rfl rfl ⟨rfl, rfl, rfl, rfl, rfl⟩ rfl rfl rfl rfl rfl (by kernel_rfl) Try.func4 facts
    (of_decide_eq_true (by kernel_rfl)) (by unfold Func.isWrapper; first | (rw [if_pos (by decide +kernel)]; kernel_rfl) | (rw [if_neg (by decide +kernel)]; exact ⟨rfl, rfl⟩))
    (fun os started H enc _ => lifted os started H enc)

theorem proved : Rows.FnCertificateMarshalChainConcatSaid := over
end Go.Proofs.Qxb6600119a.fnCertificateMarshalChainConcat
