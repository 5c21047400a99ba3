/-
  The closed facts of the row, one by one: asked all at once they want more memory than a build is given. The three that read the program's head word by word go by the word's signs, laid out once.
-/
import Derived.Test.Qxb6600645aRows
import Derived.WalkKit
import Derived.ProofKit
import Derived.OpenShut
namespace Go.Proofs.Qxb6600645a.fnRowIsTheConstraintOverTheColumns
open Go.ChangeShapes Go.WideShapes Go.ChangeAt Go.RowKit
/-- the program's head, sign by sign -/
def sgns (ns : List Nat) : List Char := ns.map Char.ofNat
set_option maxRecDepth 100000 in
theorem head : Try.pinned.checked.prog.initOrder = String.ofList (sgns [104, 97, 114, 110, 101, 115, 115, 32, 49, 48, 51, 97, 102, 50, 55, 53, 98, 101, 48, 98, 102, 98, 54, 55, 98, 49, 53, 57, 56, 57, 51, 57, 56, 101, 55, 55, 53, 100, 57, 55, 100, 57, 102, 97, 100, 57, 100, 51, 53, 50, 52, 98, 48, 53, 48, 57, 100, 57, 52, 50, 48, 51, 50, 54, 99, 50, 49, 55, 51, 100, 55, 102, 32, 99, 117, 116, 32, 97, 116, 32, 101, 120, 97, 109, 112, 108, 101, 46, 99, 111, 109, 47, 103, 97, 105, 116, 104, 101, 114, 115, 98, 117, 114, 103, 47, 103, 97, 105, 116, 104, 101, 114, 115, 98, 117, 114, 103, 47, 122, 122, 108, 97, 119, 115, 95, 105, 110, 116, 101, 114, 110, 97, 108, 95, 122, 101, 114, 111, 111, 110, 101, 95, 98, 49, 46, 70, 110, 78, 101, 119, 70, 105, 120, 101, 114, 87, 114, 105, 116, 101, 115, 69, 97, 99, 104, 67, 111, 110, 115, 116, 114, 97, 105, 110, 116, 65, 115, 73, 116, 115, 73, 110, 101, 113, 117, 97, 108, 105, 116, 121, 32, 101, 120, 97, 109, 112, 108, 101, 46, 99, 111, 109, 47, 103, 97, 105, 116, 104, 101, 114, 115, 98, 117, 114, 103, 47, 103, 97, 105, 116, 104, 101, 114, 115, 98, 117, 114, 103, 47, 122, 122, 108, 97, 119, 115, 95, 105, 110, 116, 101, 114, 110, 97, 108, 95, 122, 101, 114, 111, 111, 110, 101, 95, 98, 49, 46, 70, 110, 78, 101, 119, 70, 105, 120, 101, 114, 75, 101, 101, 112, 115, 73, 116, 115, 66, 111, 111, 107, 115, 66, 121, 84, 104, 101, 73, 110, 101, 113, 117, 97, 108, 105, 116, 105, 101, 115, 32, 101, 120, 97, 109, 112, 108, 101, 46, 99, 111, 109, 47, 103, 97, 105, 116, 104, 101, 114, 115, 98, 117, 114, 103, 47, 103, 97, 105, 116, 104, 101, 114, 115, 98, 117, 114, 103, 47, 122, 122, 108, 97, 119, 115, 95, 105, 110, 116, 101, 114, 110, 97, 108, 95, 122, 101, 114, 111, 111, 110, 101, 95, 98, 49, 46, 70, 110, 80, 114, 111, 112, 97, 103, 97, 116, 101, 82, 101, 97, 99, 104, 101, 115, 84, 104, 101, 76, 101, 97, 115, 116, 70, 105, 120, 112, 111, 105, 110, 116, 32, 101, 120, 97, 109, 112, 108, 101, 46, 99, 111, 109, 47, 103, 97, 105, 116, 104, 101, 114, 115, 98, 117, 114, 103, 47, 103, 97, 105, 116, 104, 101, 114, 115, 98, 117, 114, 103, 47, 122, 122, 108, 97, 119, 115, 95, 105, 110, 116, 101, 114, 110, 97, 108, 95, 122, 101, 114, 111, 111, 110, 101, 95, 98, 49, 46, 70, 110, 80, 114, 111, 112, 97, 103, 97, 116, 101, 76, 111, 115, 101, 115, 78, 111, 83, 111, 108, 117, 116, 105, 111, 110, 32, 101, 120, 97, 109, 112, 108, 101, 46, 99, 111, 109, 47, 103, 97, 105, 116, 104, 101, 114, 115, 98, 117, 114, 103, 47, 103, 97, 105, 116, 104, 101, 114, 115, 98, 117, 114, 103, 47, 122, 122, 108, 97, 119, 115, 95, 105, 110, 116, 101, 114, 110, 97, 108, 95, 122, 101, 114, 111, 111, 110, 101, 95, 98, 49, 46, 70, 110, 80, 114, 111, 112, 97, 103, 97, 116, 101, 75, 101, 101, 112, 115, 84, 104, 101, 67, 111, 117, 110, 116, 115, 79, 102, 84, 104, 101, 70, 114, 101, 101, 86, 97, 114, 105, 97, 98, 108, 101, 115, 32, 101, 120, 97, 109, 112, 108, 101, 46, 99, 111, 109, 47, 103, 97, 105, 116, 104, 101, 114, 115, 98, 117, 114, 103, 47, 103, 97, 105, 116, 104, 101, 114, 115, 98, 117, 114, 103, 47, 122, 122, 108, 97, 119, 115, 95, 105, 110, 116, 101, 114, 110, 97, 108, 95, 122, 101, 114, 111, 111, 110, 101, 95, 98, 49, 46, 70, 110, 82, 111, 119, 73, 115, 84, 104, 101, 67, 111, 110, 115, 116, 114, 97, 105, 110, 116, 79, 118, 101, 114, 84, 104, 101, 67, 111, 108, 117, 109, 110, 115, 32, 101, 120, 97, 109, 112, 108, 101, 46, 99, 111, 109, 47, 103, 97, 105, 116, 104, 101, 114, 115, 98, 117, 114, 103, 47, 103, 97, 105, 116, 104, 101, 114, 115, 98, 117, 114, 103, 47, 122, 122, 108, 97, 119, 115, 95, 105, 110, 116, 101, 114, 110, 97, 108, 95, 122, 101, 114, 111, 111, 110, 101, 95, 98, 49, 46, 70, 110, 82, 111, 119, 73, 103, 110, 111, 114, 101, 115, 84, 104, 101, 79, 114, 100, 101, 114, 79, 102, 84, 104, 101, 76, 105, 116, 101, 114, 97, 108, 115]) := by kernel_rfl
set_option maxRecDepth 100000 in
theorem behind : ∃ r, behindMainWord (wordsSigns Try.pinned.checked.prog.initOrder.toList) = "cut".toList :: r :=
  ⟨wordsSigns (sgns [97, 116, 32, 101, 120, 97, 109, 112, 108, 101, 46, 99, 111, 109, 47, 103, 97, 105, 116, 104, 101, 114, 115, 98, 117, 114, 103, 47, 103, 97, 105, 116, 104, 101, 114, 115, 98, 117, 114, 103, 47, 122, 122, 108, 97, 119, 115, 95, 105, 110, 116, 101, 114, 110, 97, 108, 95, 122, 101, 114, 111, 111, 110, 101, 95, 98, 49, 46, 70, 110, 78, 101, 119, 70, 105, 120, 101, 114, 87, 114, 105, 116, 101, 115, 69, 97, 99, 104, 67, 111, 110, 115, 116, 114, 97, 105, 110, 116, 65, 115, 73, 116, 115, 73, 110, 101, 113, 117, 97, 108, 105, 116, 121, 32, 101, 120, 97, 109, 112, 108, 101, 46, 99, 111, 109, 47, 103, 97, 105, 116, 104, 101, 114, 115, 98, 117, 114, 103, 47, 103, 97, 105, 116, 104, 101, 114, 115, 98, 117, 114, 103, 47, 122, 122, 108, 97, 119, 115, 95, 105, 110, 116, 101, 114, 110, 97, 108, 95, 122, 101, 114, 111, 111, 110, 101, 95, 98, 49, 46, 70, 110, 78, 101, 119, 70, 105, 120, 101, 114, 75, 101, 101, 112, 115, 73, 116, 115, 66, 111, 111, 107, 115, 66, 121, 84, 104, 101, 73, 110, 101, 113, 117, 97, 108, 105, 116, 105, 101, 115, 32, 101, 120, 97, 109, 112, 108, 101, 46, 99, 111, 109, 47, 103, 97, 105, 116, 104, 101, 114, 115, 98, 117, 114, 103, 47, 103, 97, 105, 116, 104, 101, 114, 115, 98, 117, 114, 103, 47, 122, 122, 108, 97, 119, 115, 95, 105, 110, 116, 101, 114, 110, 97, 108, 95, 122, 101, 114, 111, 111, 110, 101, 95, 98, 49, 46, 70, 110, 80, 114, 111, 112, 97, 103, 97, 116, 101, 82, 101, 97, 99, 104, 101, 115, 84, 104, 101, 76, 101, 97, 115, 116, 70, 105, 120, 112, 111, 105, 110, 116, 32, 101, 120, 97, 109, 112, 108, 101, 46, 99, 111, 109, 47, 103, 97, 105, 116, 104, 101, 114, 115, 98, 117, 114, 103, 47, 103, 97, 105, 116, 104, 101, 114, 115, 98, 117, 114, 103, 47, 122, 122, 108, 97, 119, 115, 95, 105, 110, 116, 101, 114, 110, 97, 108, 95, 122, 101, 114, 111, 111, 110, 101, 95, 98, 49, 46, 70, 110, 80, 114, 111, 112, 97, 103, 97, 116, 101, 76, 111, 115, 101, 115, 78, 111, 83, 111, 108, 117, 116, 105, 111, 110, 32, 101, 120, 97, 109, 112, 108, 101, 46, 99, 111, 109, 47, 103, 97, 105, 116, 104, 101, 114, 115, 98, 117, 114, 103, 47, 103, 97, 105, 116, 104, 101, 114, 115, 98, 117, 114, 103, 47, 122, 122, 108, 97, 119, 115, 95, 105, 110, 116, 101, 114, 110, 97, 108, 95, 122, 101, 114, 111, 111, 110, 101, 95, 98, 49, 46, 70, 110, 80, 114, 111, 112, 97, 103, 97, 116, 101, 75, 101, 101, 112, 115, 84, 104, 101, 67, 111, 117, 110, 116, 115, 79, 102, 84, 104, 101, 70, 114, 101, 101, 86, 97, 114, 105, 97, 98, 108, 101, 115, 32, 101, 120, 97, 109, 112, 108, 101, 46, 99, 111, 109, 47, 103, 97, 105, 116, 104, 101, 114, 115, 98, 117, 114, 103, 47, 103, 97, 105, 116, 104, 101, 114, 115, 98, 117, 114, 103, 47, 122, 122, 108, 97, 119, 115, 95, 105, 110, 116, 101, 114, 110, 97, 108, 95, 122, 101, 114, 111, 111, 110, 101, 95, 98, 49, 46, 70, 110, 82, 111, 119, 73, 115, 84, 104, 101, 67, 111, 110, 115, 116, 114, 97, 105, 110, 116, 79, 118, 101, 114, 84, 104, 101, 67, 111, 108, 117, 109, 110, 115, 32, 101, 120, 97, 109, 112, 108, 101, 46, 99, 111, 109, 47, 103, 97, 105, 116, 104, 101, 114, 115, 98, 117, 114, 103, 47, 103, 97, 105, 116, 104, 101, 114, 115, 98, 117, 114, 103, 47, 122, 122, 108, 97, 119, 115, 95, 105, 110, 116, 101, 114, 110, 97, 108, 95, 122, 101, 114, 111, 111, 110, 101, 95, 98, 49, 46, 70, 110, 82, 111, 119, 73, 103, 110, 111, 114, 101, 115, 84, 104, 101, 79, 114, 100, 101, 114, 79, 102, 84, 104, 101, 76, 105, 116, 101, 114, 97, 108, 115]), by rw [head, String.toList_ofList]; kernel_rfl⟩
theorem strip (r : List (List Char)) : stripLifts liftWords ("cut".toList :: r) = ([], "cut".toList :: r) := by kernel_rfl
theorem heads {P : Program} {r : List (List Char)} (h : behindMainWord (wordsSigns P.initOrder.toList) = "cut".toList :: r) : P.headLifts = [] := by
  unfold Program.headLifts
  rw [h, strip]
  kernel_rfl
theorem enters {P : Program} {r : List (List Char)} (h : behindMainWord (wordsSigns P.initOrder.toList) = "cut".toList :: r) (h1 : P.laysLater = false) (h2 : P.bearsReflect = false) (h3 : P.doorFits [] = true) : P.mayEnter = true := by
  unfold Program.mayEnter
  rw [h]
  simp only [strip, h1, h2, h3]
  kernel_rfl
theorem finals {P : Program} {r : List (List Char)} (h : behindMainWord (wordsSigns P.initOrder.toList) = "cut".toList :: r) : P.liftsFinal = false := by
  unfold Program.liftsFinal
  rw [heads h, h]
  kernel_rfl
theorem makes {P : Program} {r : List (List Char)} (h : behindMainWord (wordsSigns P.initOrder.toList) = "cut".toList :: r) : P.make = some .cut := by
  unfold Program.make
  rw [heads h, h]
  kernel_rfl
theorem later : Try.pinned.checked.prog.laysLater = false := by kernel_rfl
theorem reflects : Try.pinned.checked.prog.bearsReflect = false := by kernel_rfl
theorem doors : Try.pinned.checked.prog.doorFits [] = true := by kernel_rfl
theorem fact26 : (Try.pinned.checked.prog.mayEnter) = true := by
  obtain ⟨r, h⟩ := behind
  exact enters h later reflects doors
theorem fact27 : ((Rows.fnRowIsTheConstraintOverTheColumnsRow.lifted == Try.pinned.checked.prog.liftsFinal)) = true := by
  obtain ⟨r, h⟩ := behind
  rw [finals h]
  kernel_rfl
theorem fact28 : ((Try.pinned.checked.prog.make == some Rows.fnRowIsTheConstraintOverTheColumnsRow.make)) = true := by
  obtain ⟨r, h⟩ := behind
  rw [makes h]
  kernel_rfl
theorem fact1 : (Rows.fnRowIsTheConstraintOverTheColumnsRow.wf (OpenSpec.ofChange Rows.fnRowIsTheConstraintOverTheColumnsSpec)) = true := by kernel_rfl
theorem fact2 : (laidOutB Try.pinned.checked.prog) = true := by kernel_rfl
theorem fact3 : (mapsRowed Try.pinned.checked.prog) = true := by kernel_rfl
theorem fact4 : (Try.f8.params.all (Try.pinned.checked.prog.readableRec ·)) = true := by kernel_rfl
theorem fact5 : (namedTie Try.pinned.checked.prog Rows.fnRowIsTheConstraintOverTheColumnsRow.named Rows.fnRowIsTheConstraintOverTheColumnsSpec.vars) = true := by kernel_rfl
theorem fact6 : ((Rows.fnRowIsTheConstraintOverTheColumnsRow.stops == [])) = true := by kernel_rfl
theorem fact7 : ((Try.pinned.checked.prog.stops == [])) = true := by kernel_rfl
theorem fact8 : ((Rows.fnRowIsTheConstraintOverTheColumnsRow.knobs == [])) = true := by kernel_rfl
theorem fact9 : ((Try.pinned.checked.prog.stopKnobs == [])) = true := by kernel_rfl
theorem fact10 : ((Rows.fnRowIsTheConstraintOverTheColumnsRow.inPlace == Try.pinned.checked.prog.inPlace 8)) = true := by kernel_rfl
theorem fact11 : ((Rows.fnRowIsTheConstraintOverTheColumnsRow.unfollowed == Try.pinned.checked.prog.unfollowed 8)) = true := by kernel_rfl
theorem fact12 : ((Rows.fnRowIsTheConstraintOverTheColumnsRow.recurses == Try.pinned.checked.prog.recurses 8)) = true := by kernel_rfl
theorem fact13 : ((Rows.fnRowIsTheConstraintOverTheColumnsRow.named == Try.pinned.checked.prog.varsNamed 8)) = true := by kernel_rfl
theorem fact14 : ((Rows.fnRowIsTheConstraintOverTheColumnsRow.maps == (Try.f8.params.toList ++ Rows.fnRowIsTheConstraintOverTheColumnsSpec.plain.varTypes Try.pinned.checked.prog).any (Try.pinned.checked.prog.mapsRec ·))) = true := by kernel_rfl
theorem fact15 : ((Rows.fnRowIsTheConstraintOverTheColumnsRow.ifaces == (Try.f8.params.toList ++ Rows.fnRowIsTheConstraintOverTheColumnsSpec.plain.varTypes Try.pinned.checked.prog).any (Try.pinned.checked.prog.ifacesRec ·))) = true := by kernel_rfl
theorem fact16 : ((Rows.fnRowIsTheConstraintOverTheColumnsRow.mapsOut == Try.pinned.checked.prog.mapsAmong Try.f8.resultTypes.toList)) = true := by kernel_rfl
theorem fact17 : ((Rows.fnRowIsTheConstraintOverTheColumnsRow.loops == (Try.f8.params.toList ++ Rows.fnRowIsTheConstraintOverTheColumnsSpec.plain.varTypes Try.pinned.checked.prog).any (Try.pinned.checked.prog.loopsFrom ·))) = true := by kernel_rfl
theorem fact18 : ((Rows.fnRowIsTheConstraintOverTheColumnsRow.wideKeys == (Try.f8.params.toList ++ Rows.fnRowIsTheConstraintOverTheColumnsSpec.plain.varTypes Try.pinned.checked.prog ++ Try.f8.resultTypes.toList).any (Try.pinned.checked.prog.wideKeysFrom ·))) = true := by kernel_rfl
theorem fact19 : (Rows.fnRowIsTheConstraintOverTheColumnsSpec.vars.all (Try.pinned.checked.prog.varReadable ·)) = true := by kernel_rfl
theorem fact20 : (Try.f8.resultTypes.all (fun t => Try.pinned.checked.prog.readableRec t && decide (t < Try.pinned.checked.prog.types.size))) = true := by kernel_rfl
theorem fact21 : ((Rows.fnRowIsTheConstraintOverTheColumnsRow.ifacesOut == Try.f8.resultTypes.toList.any (Try.pinned.checked.prog.ifacesRec ·))) = true := by kernel_rfl
theorem fact22 : ((Rows.fnRowIsTheConstraintOverTheColumnsRow.loopsOut == Try.f8.resultTypes.toList.any (Try.pinned.checked.prog.loopsFrom ·))) = true := by kernel_rfl
theorem fact23 : ((Rows.fnRowIsTheConstraintOverTheColumnsRow.plainKeys == Try.pinned.checked.prog.plainKeys)) = true := by kernel_rfl
theorem fact24 : (Rows.fnRowIsTheConstraintOverTheColumnsRow.shortTexts.isNone) = true := by kernel_rfl
theorem fact25 : (Try.pinned.checked.prog.stopsHeard) = true := by kernel_rfl
theorem fact29 : ((Rows.fnRowIsTheConstraintOverTheColumnsRow.kinds == (if Rows.fnRowIsTheConstraintOverTheColumnsRow.domain.isEmpty then [] else Try.f8.params.toList.map fun t => match Try.pinned.checked.prog.underlying t with | some (.int k) => some k | _ => none))) = true := by kernel_rfl
theorem fact30 : ((Rows.fnRowIsTheConstraintOverTheColumnsRow.pinned == Rows.fnRowIsTheConstraintOverTheColumnsRow.pinnedBy)) = true := by kernel_rfl
theorem fact31 : ((Rows.fnRowIsTheConstraintOverTheColumnsRow.veiled == (Try.f8.params.toList ++ Rows.fnRowIsTheConstraintOverTheColumnsSpec.plain.varTypes Try.pinned.checked.prog ++ Try.f8.resultTypes.toList).any (Try.pinned.checked.prog.veiledRec ·))) = true := by kernel_rfl
theorem fact32 : (Rows.fnRowIsTheConstraintOverTheColumnsRow.veiledFits Try.pinned.checked.prog Try.f8.params.toList (Try.f8.params.toList ++ Rows.fnRowIsTheConstraintOverTheColumnsSpec.plain.varTypes Try.pinned.checked.prog ++ Try.f8.resultTypes.toList)) = true := by kernel_rfl
theorem and_t {a b : Bool} (ha : a = true) (hb : b = true) : (a && b) = true := by rw [ha, hb]; rfl
set_option maxRecDepth 100000 in
theorem facts : joinedFacts Try.pinned.checked.prog 8 Try.f8 Rows.fnRowIsTheConstraintOverTheColumnsSpec Rows.fnRowIsTheConstraintOverTheColumnsRow = true := (and_t (and_t (and_t (and_t (and_t (and_t (and_t (and_t (and_t (and_t (and_t (and_t (and_t (and_t (and_t (and_t (and_t (and_t (and_t (and_t (and_t (and_t (and_t (and_t (and_t (and_t (and_t (and_t (and_t (and_t (and_t fact1 fact2) fact3) fact4) fact5) fact6) fact7) fact8) fact9) fact10) fact11) fact12) fact13) fact14) fact15) fact16) fact17) fact18) fact19) fact20) fact21) fact22) fact23) fact24) fact25) fact26) fact27) fact28) fact29) fact30) fact31) fact32)
end Go.Proofs.Qxb6600645a.fnRowIsTheConstraintOverTheColumns
