/-
  The closed facts of the row 'fnBranchTwiceIsOnceRow', one theorem each: all in one the kernel wants more than its lid. The program's head is a long string: its signs are laid out first ('order'), so that no fact need run 'String.toList' over it.
-/
import Derived.Test.Qxb6600018aRows
import Derived.ProofKit
namespace Go.Proofs.Qxb6600018a.fnBranchTwiceIsOnce

/-- The signs of the head's first row. -/
def headSigns : List Char := ['h', 'a', 'r', 'n', 'e', 's', 's', ' ', 'c', '2', '7', 'f', 'c', '6', '6', '3', '4', '6', 'c', 'd', '2', 'a', '0', 'f', 'a', '3', 'd', '5', 'c', '7', '0', 'c', '9', '2', 'b', 'd', 'a', 'f', 'e', '4',
  '7', 'a', '3', '0', '4', 'c', '3', '2', '6', '9', 'd', '3', '2', '2', 'd', '9', '1', '3', '7', 'd', '8', '5', 'd', '5', '1', '1', '4', 'c', '0', '4', '9', '0', ' ', 'c', 'u', 't', ' ', 'a', 't', ' ',
  'e', 'x', 'a', 'm', 'p', 'l', 'e', '.', 'c', 'o', 'm', '/', 's', 't', 'r', 'i', 'c', 't', '-', 's', 'y', 'n', 'c', '/', 's', 't', 'r', 'i', 'c', 't', '-', 's', 'y', 'n', 'c', '/', 'z', 'z', 'l', 'a',
  'w', 's', '_', 'e', 'x', 'p', 'l', 'o', 'r', 'e', '_', 'b', '1', '.', 'F', 'n', 'H', 'a', 'p', 'p', 'e', 'n', 's', 'B', 'e', 'f', 'o', 'r', 'e', 'I', 's', 'R', 'e', 'a', 'c', 'h', 'a', 'b', 'i', 'l',
  'i', 't', 'y', ' ', 'e', 'x', 'a', 'm', 'p', 'l', 'e', '.', 'c', 'o', 'm', '/', 's', 't', 'r', 'i', 'c', 't', '-', 's', 'y', 'n', 'c', '/', 's', 't', 'r', 'i', 'c', 't', '-', 's', 'y', 'n', 'c', '/',
  'z', 'z', 'l', 'a', 'w', 's', '_', 'e', 'x', 'p', 'l', 'o', 'r', 'e', '_', 'b', '1', '.', 'F', 'n', 'H', 'a', 'p', 'p', 'e', 'n', 's', 'B', 'e', 'f', 'o', 'r', 'e', 'O', 'f', 'A', 'P', 'r', 'e', 'f',
  'i', 'x', 'A', 'g', 'r', 'e', 'e', 's', ' ', 'e', 'x', 'a', 'm', 'p', 'l', 'e', '.', 'c', 'o', 'm', '/', 's', 't', 'r', 'i', 'c', 't', '-', 's', 'y', 'n', 'c', '/', 's', 't', 'r', 'i', 'c', 't', '-',
  's', 'y', 'n', 'c', '/', 'z', 'z', 'l', 'a', 'w', 's', '_', 'e', 'x', 'p', 'l', 'o', 'r', 'e', '_', 'b', '1', '.', 'F', 'n', 'H', 'a', 'p', 'p', 'e', 'n', 's', 'B', 'e', 'f', 'o', 'r', 'e', 'I', 's',
  'A', 'P', 'a', 'r', 't', 'i', 'a', 'l', 'O', 'r', 'd', 'e', 'r', 'O', 'v', 'e', 'r', 'D', 'i', 'r', 'e', 'c', 't', 'S', 't', 'e', 'p', 's', ' ', 'e', 'x', 'a', 'm', 'p', 'l', 'e', '.', 'c', 'o', 'm',
  '/', 's', 't', 'r', 'i', 'c', 't', '-', 's', 'y', 'n', 'c', '/', 's', 't', 'r', 'i', 'c', 't', '-', 's', 'y', 'n', 'c', '/', 'z', 'z', 'l', 'a', 'w', 's', '_', 'e', 'x', 'p', 'l', 'o', 'r', 'e', '_',
  'b', '1', '.', 'F', 'n', 'B', 'r', 'a', 'n', 'c', 'h', 'W', 'i', 't', 'h', 'i', 'n', 'B', 'o', 'u', 'n', 'd', 'A', 'd', 'd', 's', 'O', 'n', 'e', 'O', 'f', 'T', 'a', 's', 'k', 's', 'U', 'n', 'l', 'e',
  's', 's', 'H', 'e', 'l', 'd', ' ', 'e', 'x', 'a', 'm', 'p', 'l', 'e', '.', 'c', 'o', 'm', '/', 's', 't', 'r', 'i', 'c', 't', '-', 's', 'y', 'n', 'c', '/', 's', 't', 'r', 'i', 'c', 't', '-', 's', 'y',
  'n', 'c', '/', 'z', 'z', 'l', 'a', 'w', 's', '_', 'e', 'x', 'p', 'l', 'o', 'r', 'e', '_', 'b', '1', '.', 'F', 'n', 'B', 'r', 'a', 'n', 'c', 'h', 'T', 'w', 'i', 'c', 'e', 'I', 's', 'O', 'n', 'c', 'e',
  ' ', 'e', 'x', 'a', 'm', 'p', 'l', 'e', '.', 'c', 'o', 'm', '/', 's', 't', 'r', 'i', 'c', 't', '-', 's', 'y', 'n', 'c', '/', 's', 't', 'r', 'i', 'c', 't', '-', 's', 'y', 'n', 'c', '/', 'z', 'z', 'l',
  'a', 'w', 's', '_', 'e', 'x', 'p', 'l', 'o', 'r', 'e', '_', 'b', '1', '.', 'F', 'n', 'R', 'e', 'v', 'e', 'r', 's', 'e', 'A', 'd', 'd', 's', 'O', 'n', 'l', 'y', 'A', 'n', 'E', 'n', 'a', 'b', 'l', 'e',
  'd', 'R', 'a', 'c', 'i', 'n', 'g', 'T', 'a', 's', 'k', ' ', 'e', 'x', 'a', 'm', 'p', 'l', 'e', '.', 'c', 'o', 'm', '/', 's', 't', 'r', 'i', 'c', 't', '-', 's', 'y', 'n', 'c', '/', 's', 't', 'r', 'i',
  'c', 't', '-', 's', 'y', 'n', 'c', '/', 'z', 'z', 'l', 'a', 'w', 's', '_', 'e', 'x', 'p', 'l', 'o', 'r', 'e', '_', 'b', '1', '.', 'F', 'n', 'R', 'e', 'v', 'e', 'r', 's', 'e', 'T', 'w', 'i', 'c', 'e',
  'I', 's', 'O', 'n', 'c', 'e', ' ', 'e', 'x', 'a', 'm', 'p', 'l', 'e', '.', 'c', 'o', 'm', '/', 's', 't', 'r', 'i', 'c', 't', '-', 's', 'y', 'n', 'c', '/', 's', 't', 'r', 'i', 'c', 't', '-', 's', 'y',
  'n', 'c', '/', 'z', 'z', 'l', 'a', 'w', 's', '_', 'e', 'x', 'p', 'l', 'o', 'r', 'e', '_', 'b', '1', '.', 'F', 'n', 'R', 'e', 'v', 'e', 'r', 's', 'e', 'W', 'i', 't', 'h', 'N', 'o', 't', 'h', 'i', 'n',
  'g', 'I', 'n', 'd', 'e', 'p', 'e', 'n', 'd', 'e', 'n', 't', 'B', 'e', 't', 'w', 'e', 'e', 'n', 'A', 'd', 'd', 's', 'T', 'h', 'e', 'R', 'a', 'c', 'i', 'n', 'g', 'T', 'a', 's', 'k']

set_option maxRecDepth 100000 in
theorem order0 : Try.checked.prog.initOrder = String.ofList headSigns := by kernel_rfl
theorem order : Try.checked.prog.initOrder.toList = headSigns := by rw [order0]; exact String.toList_ofList

/-! The facts that look at the head, over whatever program bears that head: so the kernel never runs the string itself. -/
theorem make_of (P : Program) (o : P.initOrder.toList = headSigns) : P.make = some .cut := by
  unfold Program.make
  rw [o]
  kernel_rfl

def headC : List Char := (behindMainWord (wordsSigns headSigns)).headD []
def headR : List (List Char) := (behindMainWord (wordsSigns headSigns)).tail
theorem head1 : behindMainWord (wordsSigns headSigns) = headC :: headR := by kernel_rfl
theorem head2 : (stripLifts liftWords (headC :: headR)).1 = [] := by kernel_rfl
theorem head3 : ((stripLifts liftWords (headC :: headR)).2.head? == some "cut".toList) = true := by kernel_rfl
theorem mayEnter_of (P : Program) (o : P.initOrder.toList = headSigns) (hl : P.laysLater = false) (hb : P.bearsReflect = false) (hd : P.doorFits [] = true) : P.mayEnter = true := by
  unfold Program.mayEnter
  rw [o, head1]
  simp only [head2, head3, hl, hb, hd]
  simp
theorem lays : Try.checked.prog.laysLater = false := by kernel_rfl
theorem bears : Try.checked.prog.bearsReflect = false := by kernel_rfl
theorem door : Try.checked.prog.doorFits [] = true := by kernel_rfl

theorem band {a b : Bool} (ha : a = true) (hb : b = true) : (a && b) = true := by rw [ha, hb]; rfl

theorem fact0 : (Rows.fnBranchTwiceIsOnceRow.wf (OpenSpec.ofChange Rows.fnBranchTwiceIsOnceSpec)) = true := by kernel_rfl
theorem fact1 : (laidOutB Try.checked.prog) = true := by kernel_rfl
theorem fact2 : (mapsRowed Try.checked.prog) = true := by kernel_rfl
theorem fact3 : (Try.f7.params.all (Try.checked.prog.readableRec ·)) = true := by kernel_rfl
theorem fact4 : (namedTie Try.checked.prog Rows.fnBranchTwiceIsOnceRow.named Rows.fnBranchTwiceIsOnceSpec.vars) = true := by kernel_rfl
theorem fact5 : ((Rows.fnBranchTwiceIsOnceRow.stops == [])) = true := by kernel_rfl
theorem fact6 : ((Try.checked.prog.stops == [])) = true := by kernel_rfl
theorem fact7 : ((Rows.fnBranchTwiceIsOnceRow.knobs == [])) = true := by kernel_rfl
theorem fact8 : ((Try.checked.prog.stopKnobs == [])) = true := by kernel_rfl
theorem fact9 : ((Rows.fnBranchTwiceIsOnceRow.inPlace == Try.checked.prog.inPlace 7)) = true := by kernel_rfl
theorem fact10 : ((Rows.fnBranchTwiceIsOnceRow.unfollowed == Try.checked.prog.unfollowed 7)) = true := by kernel_rfl
theorem fact11 : ((Rows.fnBranchTwiceIsOnceRow.recurses == Try.checked.prog.recurses 7)) = true := by kernel_rfl
theorem fact12 : ((Rows.fnBranchTwiceIsOnceRow.named == Try.checked.prog.varsNamed 7)) = true := by kernel_rfl
theorem fact13 : ((Rows.fnBranchTwiceIsOnceRow.maps == (Try.f7.params.toList ++ Rows.fnBranchTwiceIsOnceSpec.plain.varTypes Try.checked.prog).any (Try.checked.prog.mapsRec ·))) = true := by kernel_rfl
theorem fact14 : ((Rows.fnBranchTwiceIsOnceRow.ifaces == (Try.f7.params.toList ++ Rows.fnBranchTwiceIsOnceSpec.plain.varTypes Try.checked.prog).any (Try.checked.prog.ifacesRec ·))) = true := by kernel_rfl
theorem fact15 : ((Rows.fnBranchTwiceIsOnceRow.mapsOut == Try.checked.prog.mapsAmong Try.f7.resultTypes.toList)) = true := by kernel_rfl
theorem fact16 : ((Rows.fnBranchTwiceIsOnceRow.loops == (Try.f7.params.toList ++ Rows.fnBranchTwiceIsOnceSpec.plain.varTypes Try.checked.prog).any (Try.checked.prog.loopsFrom ·))) = true := by kernel_rfl
theorem fact17 : ((Rows.fnBranchTwiceIsOnceRow.wideKeys == (Try.f7.params.toList ++ Rows.fnBranchTwiceIsOnceSpec.plain.varTypes Try.checked.prog ++ Try.f7.resultTypes.toList).any (Try.checked.prog.wideKeysFrom ·))) = true := by kernel_rfl
theorem fact18 : (Rows.fnBranchTwiceIsOnceSpec.vars.all (Try.checked.prog.varReadable ·)) = true := by kernel_rfl
theorem fact19 : (Try.f7.resultTypes.all (fun t => Try.checked.prog.readableRec t && decide (t < Try.checked.prog.types.size))) = true := by kernel_rfl
theorem fact20 : ((Rows.fnBranchTwiceIsOnceRow.ifacesOut == Try.f7.resultTypes.toList.any (Try.checked.prog.ifacesRec ·))) = true := by kernel_rfl
theorem fact21 : ((Rows.fnBranchTwiceIsOnceRow.loopsOut == Try.f7.resultTypes.toList.any (Try.checked.prog.loopsFrom ·))) = true := by kernel_rfl
theorem fact22 : ((Rows.fnBranchTwiceIsOnceRow.plainKeys == Try.checked.prog.plainKeys)) = true := by kernel_rfl
theorem fact23 : (Rows.fnBranchTwiceIsOnceRow.shortTexts.isNone) = true := by kernel_rfl
theorem fact24 : (Try.checked.prog.stopsHeard) = true := by kernel_rfl
theorem fact25 : (Try.checked.prog.mayEnter) = true := mayEnter_of _ order lays bears door
theorem fact26 : ((Rows.fnBranchTwiceIsOnceRow.lifted == Try.checked.prog.liftsFinal)) = true := by unfold Program.liftsFinal Program.headLifts; simp only [order]; kernel_rfl
theorem fact27 : ((Try.checked.prog.make == some Rows.fnBranchTwiceIsOnceRow.make)) = true := by rw [make_of _ order]; kernel_rfl
theorem fact28 : ((Rows.fnBranchTwiceIsOnceRow.kinds == (if Rows.fnBranchTwiceIsOnceRow.domain.isEmpty then [] else Try.f7.params.toList.map fun t => match Try.checked.prog.underlying t with | some (.int k) => some k | _ => none))) = true := by kernel_rfl
theorem fact29 : ((Rows.fnBranchTwiceIsOnceRow.pinned == Rows.fnBranchTwiceIsOnceRow.pinnedBy)) = true := by kernel_rfl
theorem fact30 : ((Rows.fnBranchTwiceIsOnceRow.veiled == (Try.f7.params.toList ++ Rows.fnBranchTwiceIsOnceSpec.plain.varTypes Try.checked.prog ++ Try.f7.resultTypes.toList).any (Try.checked.prog.veiledRec ·))) = true := by kernel_rfl
theorem fact31 : (Rows.fnBranchTwiceIsOnceRow.veiledFits Try.checked.prog Try.f7.params.toList (Try.f7.params.toList ++ Rows.fnBranchTwiceIsOnceSpec.plain.varTypes Try.checked.prog ++ Try.f7.resultTypes.toList)) = true := by kernel_rfl

theorem facts : joinedFacts Try.checked.prog 7 Try.f7 Rows.fnBranchTwiceIsOnceSpec Rows.fnBranchTwiceIsOnceRow = true := by
  unfold joinedFacts
  exact band (band (band (band (band (band (band (band (band (band (band (band (band (band (band (band (band (band (band (band (band (band (band (band (band (band (band (band (band (band (band fact0 fact1) fact2) fact3) fact4) fact5) fact6) fact7) fact8) fact9) fact10) fact11) fact12) fact13) fact14) fact15) fact16) fact17) fact18) fact19) fact20) fact21) fact22) fact23) fact24) fact25) fact26) fact27) fact28) fact29) fact30) fact31

end Go.Proofs.Qxb6600018a.fnBranchTwiceIsOnce
