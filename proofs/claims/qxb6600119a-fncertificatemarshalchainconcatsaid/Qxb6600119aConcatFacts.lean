/-
  The closed facts of the row 'fnCertificateMarshalChainConcatRow', one theorem each: all in one the kernel wants more than its lid. The program's head is a long string: its signs are laid out first ('order'), so that no fact need run 'String.toList' over it.
-/
import Derived.Test.Qxb6600119aRows
import Derived.ProofKit
namespace Go.Proofs.Qxb6600119a.fnCertificateMarshalChainConcat

/-- The signs of the head's first row. -/
def headSigns : List Char := ['h', 'a', 'r', 'n', 'e', 's', 's', ' ', 'a', 'a', '9', '3', '1', '7', 'c', '6', 'c', '6', '2', 'f', '2', '7', '4', '2', 'c', '7', 'd', '9', '9', 'a', 'e', '0', '8', '8', '2', '4', '5', 'c', '7', '0',
  'f', 'f', 'c', '7', '0', 'c', '9', '3', '0', 'b', '3', 'c', 'a', '1', '5', 'a', 'e', '2', '8', 'f', '6', '2', 'b', 'b', 'e', 'd', 'e', 'b', 'b', '0', 'c', 'd', ' ', 'c', 'u', 't', ' ', 'a', 't', ' ',
  'e', 'x', 'a', 'm', 'p', 'l', 'e', '.', 'c', 'o', 'm', '/', 'h', 'u', 's', 'h', 'g', 'r', 'a', 'm', '/', 'h', 'u', 's', 'h', 'g', 'r', 'a', 'm', '/', 'z', 'z', 'l', 'a', 'w', 's', '_', 'i', 'n', 't',
  'e', 'r', 'n', 'a', 'l', '_', 'h', 'a', 'n', 'd', 's', 'h', 'a', 'k', 'e', '_', 'b', '1', '.', 'F', 'n', 'C', 'e', 'r', 't', 'i', 'f', 'i', 'c', 'a', 't', 'e', 'M', 'a', 'r', 's', 'h', 'a', 'l', 'P',
  'a', 'r', 's', 'e', 's', 'B', 'a', 'c', 'k', ' ', 'e', 'x', 'a', 'm', 'p', 'l', 'e', '.', 'c', 'o', 'm', '/', 'h', 'u', 's', 'h', 'g', 'r', 'a', 'm', '/', 'h', 'u', 's', 'h', 'g', 'r', 'a', 'm', '/',
  'z', 'z', 'l', 'a', 'w', 's', '_', 'i', 'n', 't', 'e', 'r', 'n', 'a', 'l', '_', 'h', 'a', 'n', 'd', 's', 'h', 'a', 'k', 'e', '_', 'b', '1', '.', 'F', 'n', 'C', 'e', 'r', 't', 'i', 'f', 'i', 'c', 'a',
  't', 'e', 'M', 'a', 'r', 's', 'h', 'a', 'l', 'C', 'h', 'a', 'i', 'n', 'C', 'o', 'n', 'c', 'a', 't', ' ', 'e', 'x', 'a', 'm', 'p', 'l', 'e', '.', 'c', 'o', 'm', '/', 'h', 'u', 's', 'h', 'g', 'r', 'a',
  'm', '/', 'h', 'u', 's', 'h', 'g', 'r', 'a', 'm', '/', 'z', 'z', 'l', 'a', 'w', 's', '_', 'i', 'n', 't', 'e', 'r', 'n', 'a', 'l', '_', 'h', 'a', 'n', 'd', 's', 'h', 'a', 'k', 'e', '_', 'b', '1', '.',
  'F', 'n', 'S', 'p', 'a', 'n', 's', 'A', 'd', 'd', 'K', 'e', 'e', 'p', 's', 'C', 'a', 'n', 'o', 'n', 'i', 'c', 'a', 'l', 'E', 'x', 'a', 'c', 't', 'U', 'n', 'i', 'o', 'n', ' ', 'e', 'x', 'a', 'm', 'p',
  'l', 'e', '.', 'c', 'o', 'm', '/', 'h', 'u', 's', 'h', 'g', 'r', 'a', 'm', '/', 'h', 'u', 's', 'h', 'g', 'r', 'a', 'm', '/', 'z', 'z', 'l', 'a', 'w', 's', '_', 'i', 'n', 't', 'e', 'r', 'n', 'a', 'l',
  '_', 'h', 'a', 'n', 'd', 's', 'h', 'a', 'k', 'e', '_', 'b', '1', '.', 'F', 'n', 'S', 'p', 'a', 'n', 's', 'A', 'd', 'd', 'O', 'r', 'd', 'e', 'r', 'F', 'r', 'e', 'e', ' ', 'e', 'x', 'a', 'm', 'p', 'l',
  'e', '.', 'c', 'o', 'm', '/', 'h', 'u', 's', 'h', 'g', 'r', 'a', 'm', '/', 'h', 'u', 's', 'h', 'g', 'r', 'a', 'm', '/', 'z', 'z', 'l', 'a', 'w', 's', '_', 'i', 'n', 't', 'e', 'r', 'n', 'a', 'l', '_',
  'h', 'a', 'n', 'd', 's', 'h', 'a', 'k', 'e', '_', 'b', '1', '.', 'F', 'n', 'S', 'p', 'a', 'n', 's', 'A', 'd', 'd', 'I', 'd', 'e', 'm', 'p', 'o', 't', 'e', 'n', 't', ' ', 'e', 'x', 'a', 'm', 'p', 'l',
  'e', '.', 'c', 'o', 'm', '/', 'h', 'u', 's', 'h', 'g', 'r', 'a', 'm', '/', 'h', 'u', 's', 'h', 'g', 'r', 'a', 'm', '/', 'z', 'z', 'l', 'a', 'w', 's', '_', 'i', 'n', 't', 'e', 'r', 'n', 'a', 'l', '_',
  'h', 'a', 'n', 'd', 's', 'h', 'a', 'k', 'e', '_', 'b', '1', '.', 'F', 'n', 'S', 'p', 'a', 'n', 's', 'G', 'a', 'p', 's', 'I', 's', 'C', 'o', 'm', 'p', 'l', 'e', 'm', 'e', 'n', 't', ' ', 'e', 'x', 'a',
  'm', 'p', 'l', 'e', '.', 'c', 'o', 'm', '/', 'h', 'u', 's', 'h', 'g', 'r', 'a', 'm', '/', 'h', 'u', 's', 'h', 'g', 'r', 'a', 'm', '/', 'z', 'z', 'l', 'a', 'w', 's', '_', 'i', 'n', 't', 'e', 'r', 'n',
  'a', 'l', '_', 'h', 'a', 'n', 'd', 's', 'h', 'a', 'k', 'e', '_', 'b', '1', '.', 'F', 'n', 'S', 'p', 'a', 'n', 's', 'G', 'a', 'p', 's', 'T', 'w', 'i', 'c', 'e', 'I', 's', 'C', 'l', 'i', 'p', ' ', 'e',
  'x', 'a', 'm', 'p', 'l', 'e', '.', 'c', 'o', 'm', '/', 'h', 'u', 's', 'h', 'g', 'r', 'a', 'm', '/', 'h', 'u', 's', 'h', 'g', 'r', 'a', 'm', '/', 'z', 'z', 'l', 'a', 'w', 's', '_', 'i', 'n', 't', 'e',
  'r', 'n', 'a', 'l', '_', 'h', 'a', 'n', 'd', 's', 'h', 'a', 'k', 'e', '_', 'b', '1', '.', 'F', 'n', 'S', 'p', 'a', 'n', 's', 'G', 'a', 'p', 's', 'T', 'i', 'l', 'e', 'W', 'i', 't', 'h', 'C', 'l', 'i',
  'p']

set_option maxRecDepth 100000 in
theorem order0 : Try.checked.prog.initOrder = String.ofList headSigns := by kernel_rfl
theorem order : Try.checked.prog.initOrder.toList = headSigns := by rw [order0]; exact String.toList_ofList

/-! The facts that look at the head, over whatever program bears that head: so the kernel never runs the string itself. -/
theorem make_of (P : Program) (o : P.initOrder.toList = headSigns) : P.make = some .cut := by
  unfold Program.make
  rw [o]
  kernel_rfl

def headC : List Char := (behindMainWord (wordsSigns headSigns)).headD []
def headR : List (List Char) := (behindMainWord (wordsSigns headSigns)).tail
theorem head1 : behindMainWord (wordsSigns headSigns) = headC :: headR := by kernel_rfl
theorem head2 : (stripLifts liftWords (headC :: headR)).1 = [] := by kernel_rfl
theorem head3 : ((stripLifts liftWords (headC :: headR)).2.head? == some "cut".toList) = true := by kernel_rfl
theorem mayEnter_of (P : Program) (o : P.initOrder.toList = headSigns) (hl : P.laysLater = false) (hb : P.bearsReflect = false) (hd : P.doorFits [] = true) : P.mayEnter = true := by
  unfold Program.mayEnter
  rw [o, head1]
  simp only [head2, head3, hl, hb, hd]
  simp
theorem lays : Try.checked.prog.laysLater = false := by kernel_rfl
theorem bears : Try.checked.prog.bearsReflect = false := by kernel_rfl
theorem door : Try.checked.prog.doorFits [] = true := by kernel_rfl

theorem band {a b : Bool} (ha : a = true) (hb : b = true) : (a && b) = true := by rw [ha, hb]; rfl

theorem fact0 : (Rows.fnCertificateMarshalChainConcatRow.wf (OpenSpec.ofChange Rows.fnCertificateMarshalChainConcatSpec)) = true := by kernel_rfl
theorem fact1 : (laidOutB Try.checked.prog) = true := by kernel_rfl
theorem fact2 : (mapsRowed Try.checked.prog) = true := by kernel_rfl
theorem fact3 : (Try.f4.params.all (Try.checked.prog.readableRec ·)) = true := by kernel_rfl
theorem fact4 : (namedTie Try.checked.prog Rows.fnCertificateMarshalChainConcatRow.named Rows.fnCertificateMarshalChainConcatSpec.vars) = true := by kernel_rfl
theorem fact5 : ((Rows.fnCertificateMarshalChainConcatRow.stops == [])) = true := by kernel_rfl
theorem fact6 : ((Try.checked.prog.stops == [])) = true := by kernel_rfl
theorem fact7 : ((Rows.fnCertificateMarshalChainConcatRow.knobs == [])) = true := by kernel_rfl
theorem fact8 : ((Try.checked.prog.stopKnobs == [])) = true := by kernel_rfl
theorem fact9 : ((Rows.fnCertificateMarshalChainConcatRow.inPlace == Try.checked.prog.inPlace 4)) = true := by kernel_rfl
theorem fact10 : ((Rows.fnCertificateMarshalChainConcatRow.unfollowed == Try.checked.prog.unfollowed 4)) = true := by kernel_rfl
theorem fact11 : ((Rows.fnCertificateMarshalChainConcatRow.recurses == Try.checked.prog.recurses 4)) = true := by kernel_rfl
theorem fact12 : ((Rows.fnCertificateMarshalChainConcatRow.named == Try.checked.prog.varsNamed 4)) = true := by kernel_rfl
theorem fact13 : ((Rows.fnCertificateMarshalChainConcatRow.maps == (Try.f4.params.toList ++ Rows.fnCertificateMarshalChainConcatSpec.plain.varTypes Try.checked.prog).any (Try.checked.prog.mapsRec ·))) = true := by kernel_rfl
theorem fact14 : ((Rows.fnCertificateMarshalChainConcatRow.ifaces == (Try.f4.params.toList ++ Rows.fnCertificateMarshalChainConcatSpec.plain.varTypes Try.checked.prog).any (Try.checked.prog.ifacesRec ·))) = true := by kernel_rfl
theorem fact15 : ((Rows.fnCertificateMarshalChainConcatRow.mapsOut == Try.checked.prog.mapsAmong Try.f4.resultTypes.toList)) = true := by kernel_rfl
theorem fact16 : ((Rows.fnCertificateMarshalChainConcatRow.loops == (Try.f4.params.toList ++ Rows.fnCertificateMarshalChainConcatSpec.plain.varTypes Try.checked.prog).any (Try.checked.prog.loopsFrom ·))) = true := by kernel_rfl
theorem fact17 : ((Rows.fnCertificateMarshalChainConcatRow.wideKeys == (Try.f4.params.toList ++ Rows.fnCertificateMarshalChainConcatSpec.plain.varTypes Try.checked.prog ++ Try.f4.resultTypes.toList).any (Try.checked.prog.wideKeysFrom ·))) = true := by kernel_rfl
theorem fact18 : (Rows.fnCertificateMarshalChainConcatSpec.vars.all (Try.checked.prog.varReadable ·)) = true := by kernel_rfl
theorem fact19 : (Try.f4.resultTypes.all (fun t => Try.checked.prog.readableRec t && decide (t < Try.checked.prog.types.size))) = true := by kernel_rfl
theorem fact20 : ((Rows.fnCertificateMarshalChainConcatRow.ifacesOut == Try.f4.resultTypes.toList.any (Try.checked.prog.ifacesRec ·))) = true := by kernel_rfl
theorem fact21 : ((Rows.fnCertificateMarshalChainConcatRow.loopsOut == Try.f4.resultTypes.toList.any (Try.checked.prog.loopsFrom ·))) = true := by kernel_rfl
theorem fact22 : ((Rows.fnCertificateMarshalChainConcatRow.plainKeys == Try.checked.prog.plainKeys)) = true := by kernel_rfl
theorem fact23 : (Rows.fnCertificateMarshalChainConcatRow.shortTexts.isNone) = true := by kernel_rfl
theorem fact24 : (Try.checked.prog.stopsHeard) = true := by kernel_rfl
theorem fact25 : (Try.checked.prog.mayEnter) = true := mayEnter_of _ order lays bears door
theorem fact26 : ((Rows.fnCertificateMarshalChainConcatRow.lifted == Try.checked.prog.liftsFinal)) = true := by unfold Program.liftsFinal Program.headLifts; simp only [order]; kernel_rfl
theorem fact27 : ((Try.checked.prog.make == some Rows.fnCertificateMarshalChainConcatRow.make)) = true := by rw [make_of _ order]; kernel_rfl
theorem fact28 : ((Rows.fnCertificateMarshalChainConcatRow.kinds == (if Rows.fnCertificateMarshalChainConcatRow.domain.isEmpty then [] else Try.f4.params.toList.map fun t => match Try.checked.prog.underlying t with | some (.int k) => some k | _ => none))) = true := by kernel_rfl
theorem fact29 : ((Rows.fnCertificateMarshalChainConcatRow.pinned == Rows.fnCertificateMarshalChainConcatRow.pinnedBy)) = true := by kernel_rfl
theorem fact30 : ((Rows.fnCertificateMarshalChainConcatRow.veiled == (Try.f4.params.toList ++ Rows.fnCertificateMarshalChainConcatSpec.plain.varTypes Try.checked.prog ++ Try.f4.resultTypes.toList).any (Try.checked.prog.veiledRec ·))) = true := by kernel_rfl
theorem fact31 : (Rows.fnCertificateMarshalChainConcatRow.veiledFits Try.checked.prog Try.f4.params.toList (Try.f4.params.toList ++ Rows.fnCertificateMarshalChainConcatSpec.plain.varTypes Try.checked.prog ++ Try.f4.resultTypes.toList)) = true := by kernel_rfl

theorem facts : joinedFacts Try.checked.prog 4 Try.f4 Rows.fnCertificateMarshalChainConcatSpec Rows.fnCertificateMarshalChainConcatRow = true := by
  unfold joinedFacts
  exact band (band (band (band (band (band (band (band (band (band (band (band (band (band (band (band (band (band (band (band (band (band (band (band (band (band (band (band (band (band (band fact0 fact1) fact2) fact3) fact4) fact5) fact6) fact7) fact8) fact9) fact10) fact11) fact12) fact13) fact14) fact15) fact16) fact17) fact18) fact19) fact20) fact21) fact22) fact23) fact24) fact25) fact26) fact27) fact28) fact29) fact30) fact31

end Go.Proofs.Qxb6600119a.fnCertificateMarshalChainConcat
