/-
  CLOSED FACTS OF THE ROW, each by itself (in one piece the kernel outgrows the lid on memory).
-/
import Derived.Test.Qxb6000722aRows
import Derived.ProofKit
import Derived.KernelRfl
namespace Go.Proofs.Qxb6000722a
set_option linter.unusedVariables false

/-- The signs of the dump's head word. -/
def headSigns : List Char := List.map Char.ofNat [104, 97, 114, 110, 101, 115, 115, 32, 101, 48, 49, 52, 52, 55, 51, 55, 99, 49, 57, 98, 100, 99, 54, 97, 50, 101, 56, 98, 48, 53, 49, 50, 51, 98, 98, 102, 99, 57, 97, 99, 55, 57, 57, 49, 52, 57, 98, 50, 100, 57, 57, 99, 98, 98, 54, 48, 102, 56, 57, 53, 102, 102, 101, 100, 50, 50, 55, 53, 50, 50, 49, 54, 32, 99, 117, 116, 32, 97, 116, 32, 101, 120, 97, 109, 112, 108, 101, 46, 99, 111, 109, 47, 104, 101, 97, 100, 114, 111, 111, 109, 47, 104, 101, 97, 100, 114, 111, 111, 109, 47, 122, 122, 108, 97, 119, 115, 95, 105, 110, 116, 101, 114, 110, 97, 108, 95, 116, 114, 97, 110, 115, 99, 114, 105, 112, 116, 95, 98, 49, 46, 70, 110, 83, 116, 114, 105, 110, 103, 83, 105, 122, 101, 77, 97, 116, 99, 104, 101, 115, 69, 115, 99, 97, 112, 101, 83, 99, 97, 110, 110, 101, 114, 32, 101, 120, 97, 109, 112, 108, 101, 46, 99, 111, 109, 47, 104, 101, 97, 100, 114, 111, 111, 109, 47, 104, 101, 97, 100, 114, 111, 111, 109, 47, 122, 122, 108, 97, 119, 115, 95, 105, 110, 116, 101, 114, 110, 97, 108, 95, 116, 114, 97, 110, 115, 99, 114, 105, 112, 116, 95, 98, 49, 46, 70, 110, 83, 116, 114, 105, 110, 103, 83, 105, 122, 101, 70, 105, 110, 100, 115, 69, 110, 100, 79, 102, 69, 115, 99, 97, 112, 101, 100, 84, 101, 120, 116, 32, 101, 120, 97, 109, 112, 108, 101, 46, 99, 111, 109, 47, 104, 101, 97, 100, 114, 111, 111, 109, 47, 104, 101, 97, 100, 114, 111, 111, 109, 47, 122, 122, 108, 97, 119, 115, 95, 105, 110, 116, 101, 114, 110, 97, 108, 95, 116, 114, 97, 110, 115, 99, 114, 105, 112, 116, 95, 98, 49, 46, 70, 110, 83, 116, 114, 105, 110, 103, 83, 105, 122, 101, 80, 114, 101, 102, 105, 120, 73, 115, 87, 104, 111, 108, 101, 32, 101, 120, 97, 109, 112, 108, 101, 46, 99, 111, 109, 47, 104, 101, 97, 100, 114, 111, 111, 109, 47, 104, 101, 97, 100, 114, 111, 111, 109, 47, 122, 122, 108, 97, 119, 115, 95, 105, 110, 116, 101, 114, 110, 97, 108, 95, 116, 114, 97, 110, 115, 99, 114, 105, 112, 116, 95, 98, 49, 46, 70, 110, 86, 97, 108, 117, 101, 83, 105, 122, 101, 90, 101, 114, 111, 69, 120, 97, 99, 116, 108, 121, 65, 116, 67, 108, 111, 115, 101, 114, 79, 114, 83, 101, 112, 97, 114, 97, 116, 111, 114, 32, 101, 120, 97, 109, 112, 108, 101, 46, 99, 111, 109, 47, 104, 101, 97, 100, 114, 111, 111, 109, 47, 104, 101, 97, 100, 114, 111, 111, 109, 47, 122, 122, 108, 97, 119, 115, 95, 105, 110, 116, 101, 114, 110, 97, 108, 95, 116, 114, 97, 110, 115, 99, 114, 105, 112, 116, 95, 98, 49, 46, 70, 110, 86, 97, 108, 117, 101, 83, 105, 122, 101, 80, 114, 101, 102, 105, 120, 73, 115, 87, 104, 111, 108, 101, 32, 101, 120, 97, 109, 112, 108, 101, 46, 99, 111, 109, 47, 104, 101, 97, 100, 114, 111, 111, 109, 47, 104, 101, 97, 100, 114, 111, 111, 109, 47, 122, 122, 108, 97, 119, 115, 95, 105, 110, 116, 101, 114, 110, 97, 108, 95, 116, 114, 97, 110, 115, 99, 114, 105, 112, 116, 95, 98, 49, 46, 70, 110, 86, 97, 108, 117, 101, 83, 105, 122, 101, 79, 102, 66, 117, 105, 108, 116, 86, 97, 108, 117, 101, 32, 101, 120, 97, 109, 112, 108, 101, 46, 99, 111, 109, 47, 104, 101, 97, 100, 114, 111, 111, 109, 47, 104, 101, 97, 100, 114, 111, 111, 109, 47, 122, 122, 108, 97, 119, 115, 95, 105, 110, 116, 101, 114, 110, 97, 108, 95, 116, 114, 97, 110, 115, 99, 114, 105, 112, 116, 95, 98, 49, 46, 70, 110, 69, 110, 100, 75, 101, 101, 112, 115, 67, 111, 117, 110, 116, 101, 114, 87, 101, 108, 108, 70, 111, 114, 109, 101, 100, 32, 101, 120, 97, 109, 112, 108, 101, 46, 99, 111, 109, 47, 104, 101, 97, 100, 114, 111, 111, 109, 47, 104, 101, 97, 100, 114, 111, 111, 109, 47, 122, 122, 108, 97, 119, 115, 95, 105, 110, 116, 101, 114, 110, 97, 108, 95, 116, 114, 97, 110, 115, 99, 114, 105, 112, 116, 95, 98, 49, 46, 70, 110, 69, 110, 100, 65, 108, 108, 67, 111, 117, 110, 116, 115, 69, 118, 101, 114, 121, 67, 104, 97, 114, 97, 99, 116, 101, 114]
theorem headIs : Try.pinned.checked.prog.initOrder = String.ofList headSigns := by kernel_rfl
theorem headList : Try.pinned.checked.prog.initOrder.toList = headSigns := by rw [headIs, String.toList_ofList]
theorem headCut : (behindMainWord (wordsSigns headSigns)).head? = some "cut".toList := by kernel_rfl
theorem headWords : ∃ rest, behindMainWord (wordsSigns Try.pinned.checked.prog.initOrder.toList) = "cut".toList :: rest := by
  have h := headCut
  rw [headList]
  cases hb : behindMainWord (wordsSigns headSigns) with
  | nil => rw [hb] at h; simp at h
  | cons c r => rw [hb] at h; simp only [List.head?_cons, Option.some.injEq] at h; exact ⟨r, by rw [h]⟩
theorem strip (rest : List (List Char)) : stripLifts liftWords ("cut".toList :: rest) = ([], "cut".toList :: rest) := by kernel_rfl
theorem laysLaterFact : Try.pinned.checked.prog.laysLater = false := by kernel_rfl
theorem bearsReflectFact : Try.pinned.checked.prog.bearsReflect = false := by kernel_rfl
theorem doorFact : Try.pinned.checked.prog.doorFits [] = true := by kernel_rfl
theorem headLifts_of (P : Program) (rest : List (List Char)) (h : behindMainWord (wordsSigns P.initOrder.toList) = "cut".toList :: rest) : P.headLifts = [] := by
  unfold Program.headLifts
  rw [h, strip]
  rfl
theorem mayEnter_of (P : Program) (rest : List (List Char)) (h : behindMainWord (wordsSigns P.initOrder.toList) = "cut".toList :: rest) (h1 : P.laysLater = false) (h2 : P.bearsReflect = false) (h3 : P.doorFits [] = true) : P.mayEnter = true := by
  unfold Program.mayEnter
  rw [h]
  simp only [strip, h1, h2, h3]
  kernel_rfl
theorem liftsFinal_of (P : Program) (rest : List (List Char)) (h : behindMainWord (wordsSigns P.initOrder.toList) = "cut".toList :: rest) : P.liftsFinal = false := by
  unfold Program.liftsFinal
  rw [h, headLifts_of P rest h]
  kernel_rfl
theorem make_of (P : Program) (rest : List (List Char)) (h : behindMainWord (wordsSigns P.initOrder.toList) = "cut".toList :: rest) : P.make = some .cut := by
  unfold Program.make
  rw [h]
  kernel_rfl
theorem mayEnterFact : Try.pinned.checked.prog.mayEnter = true := by
  obtain ⟨rest, h⟩ := headWords
  exact mayEnter_of _ rest h laysLaterFact bearsReflectFact doorFact
theorem liftsFinalFact : Try.pinned.checked.prog.liftsFinal = false := by
  obtain ⟨rest, h⟩ := headWords
  exact liftsFinal_of _ rest h
theorem makeFact : Try.pinned.checked.prog.make = some .cut := by
  obtain ⟨rest, h⟩ := headWords
  exact make_of _ rest h
theorem fact0 : (fun (P : Program) (f : FuncId) (fn : Func) (s : ChangeSpec) (c : OpenClaim) => c.wf (OpenSpec.ofChange s)) Try.pinned.checked.prog 8 Try.f8 Rows.fnValueSizeOfBuiltValueSpec Rows.fnValueSizeOfBuiltValueRow = true := by kernel_rfl
theorem fact1 : (fun (P : Program) (f : FuncId) (fn : Func) (s : ChangeSpec) (c : OpenClaim) => laidOutB P) Try.pinned.checked.prog 8 Try.f8 Rows.fnValueSizeOfBuiltValueSpec Rows.fnValueSizeOfBuiltValueRow = true := by kernel_rfl
theorem fact2 : (fun (P : Program) (f : FuncId) (fn : Func) (s : ChangeSpec) (c : OpenClaim) => mapsRowed P) Try.pinned.checked.prog 8 Try.f8 Rows.fnValueSizeOfBuiltValueSpec Rows.fnValueSizeOfBuiltValueRow = true := by kernel_rfl
theorem fact3 : (fun (P : Program) (f : FuncId) (fn : Func) (s : ChangeSpec) (c : OpenClaim) => fn.params.all (P.readableRec ·)) Try.pinned.checked.prog 8 Try.f8 Rows.fnValueSizeOfBuiltValueSpec Rows.fnValueSizeOfBuiltValueRow = true := by kernel_rfl
theorem fact4 : (fun (P : Program) (f : FuncId) (fn : Func) (s : ChangeSpec) (c : OpenClaim) => namedTie P c.named s.vars) Try.pinned.checked.prog 8 Try.f8 Rows.fnValueSizeOfBuiltValueSpec Rows.fnValueSizeOfBuiltValueRow = true := by kernel_rfl
theorem fact5 : (fun (P : Program) (f : FuncId) (fn : Func) (s : ChangeSpec) (c : OpenClaim) => (c.stops == [])) Try.pinned.checked.prog 8 Try.f8 Rows.fnValueSizeOfBuiltValueSpec Rows.fnValueSizeOfBuiltValueRow = true := by kernel_rfl
theorem fact6 : (fun (P : Program) (f : FuncId) (fn : Func) (s : ChangeSpec) (c : OpenClaim) => (P.stops == [])) Try.pinned.checked.prog 8 Try.f8 Rows.fnValueSizeOfBuiltValueSpec Rows.fnValueSizeOfBuiltValueRow = true := by kernel_rfl
theorem fact7 : (fun (P : Program) (f : FuncId) (fn : Func) (s : ChangeSpec) (c : OpenClaim) => (c.knobs == [])) Try.pinned.checked.prog 8 Try.f8 Rows.fnValueSizeOfBuiltValueSpec Rows.fnValueSizeOfBuiltValueRow = true := by kernel_rfl
theorem fact8 : (fun (P : Program) (f : FuncId) (fn : Func) (s : ChangeSpec) (c : OpenClaim) => (P.stopKnobs == [])) Try.pinned.checked.prog 8 Try.f8 Rows.fnValueSizeOfBuiltValueSpec Rows.fnValueSizeOfBuiltValueRow = true := by kernel_rfl
theorem fact9 : (fun (P : Program) (f : FuncId) (fn : Func) (s : ChangeSpec) (c : OpenClaim) => (c.inPlace == P.inPlace f)) Try.pinned.checked.prog 8 Try.f8 Rows.fnValueSizeOfBuiltValueSpec Rows.fnValueSizeOfBuiltValueRow = true := by kernel_rfl
theorem fact10 : (fun (P : Program) (f : FuncId) (fn : Func) (s : ChangeSpec) (c : OpenClaim) => (c.unfollowed == P.unfollowed f)) Try.pinned.checked.prog 8 Try.f8 Rows.fnValueSizeOfBuiltValueSpec Rows.fnValueSizeOfBuiltValueRow = true := by kernel_rfl
theorem fact11 : (fun (P : Program) (f : FuncId) (fn : Func) (s : ChangeSpec) (c : OpenClaim) => (c.recurses == P.recurses f)) Try.pinned.checked.prog 8 Try.f8 Rows.fnValueSizeOfBuiltValueSpec Rows.fnValueSizeOfBuiltValueRow = true := by kernel_rfl
theorem fact12 : (fun (P : Program) (f : FuncId) (fn : Func) (s : ChangeSpec) (c : OpenClaim) => (c.named == P.varsNamed f)) Try.pinned.checked.prog 8 Try.f8 Rows.fnValueSizeOfBuiltValueSpec Rows.fnValueSizeOfBuiltValueRow = true := by kernel_rfl
theorem fact13 : (fun (P : Program) (f : FuncId) (fn : Func) (s : ChangeSpec) (c : OpenClaim) => (c.maps == (fn.params.toList ++ s.plain.varTypes P).any (P.mapsRec ·))) Try.pinned.checked.prog 8 Try.f8 Rows.fnValueSizeOfBuiltValueSpec Rows.fnValueSizeOfBuiltValueRow = true := by kernel_rfl
theorem fact14 : (fun (P : Program) (f : FuncId) (fn : Func) (s : ChangeSpec) (c : OpenClaim) => (c.ifaces == (fn.params.toList ++ s.plain.varTypes P).any (P.ifacesRec ·))) Try.pinned.checked.prog 8 Try.f8 Rows.fnValueSizeOfBuiltValueSpec Rows.fnValueSizeOfBuiltValueRow = true := by kernel_rfl
theorem fact15 : (fun (P : Program) (f : FuncId) (fn : Func) (s : ChangeSpec) (c : OpenClaim) => (c.mapsOut == P.mapsAmong fn.resultTypes.toList)) Try.pinned.checked.prog 8 Try.f8 Rows.fnValueSizeOfBuiltValueSpec Rows.fnValueSizeOfBuiltValueRow = true := by kernel_rfl
theorem fact16 : (fun (P : Program) (f : FuncId) (fn : Func) (s : ChangeSpec) (c : OpenClaim) => (c.loops == (fn.params.toList ++ s.plain.varTypes P).any (P.loopsFrom ·))) Try.pinned.checked.prog 8 Try.f8 Rows.fnValueSizeOfBuiltValueSpec Rows.fnValueSizeOfBuiltValueRow = true := by kernel_rfl
theorem fact17 : (fun (P : Program) (f : FuncId) (fn : Func) (s : ChangeSpec) (c : OpenClaim) => (c.wideKeys == (fn.params.toList ++ s.plain.varTypes P ++ fn.resultTypes.toList).any (P.wideKeysFrom ·))) Try.pinned.checked.prog 8 Try.f8 Rows.fnValueSizeOfBuiltValueSpec Rows.fnValueSizeOfBuiltValueRow = true := by kernel_rfl
theorem fact18 : (fun (P : Program) (f : FuncId) (fn : Func) (s : ChangeSpec) (c : OpenClaim) => s.vars.all (P.varReadable ·)) Try.pinned.checked.prog 8 Try.f8 Rows.fnValueSizeOfBuiltValueSpec Rows.fnValueSizeOfBuiltValueRow = true := by kernel_rfl
theorem fact19 : (fun (P : Program) (f : FuncId) (fn : Func) (s : ChangeSpec) (c : OpenClaim) => fn.resultTypes.all (fun t => P.readableRec t && decide (t < P.types.size))) Try.pinned.checked.prog 8 Try.f8 Rows.fnValueSizeOfBuiltValueSpec Rows.fnValueSizeOfBuiltValueRow = true := by kernel_rfl
theorem fact20 : (fun (P : Program) (f : FuncId) (fn : Func) (s : ChangeSpec) (c : OpenClaim) => (c.ifacesOut == fn.resultTypes.toList.any (P.ifacesRec ·))) Try.pinned.checked.prog 8 Try.f8 Rows.fnValueSizeOfBuiltValueSpec Rows.fnValueSizeOfBuiltValueRow = true := by kernel_rfl
theorem fact21 : (fun (P : Program) (f : FuncId) (fn : Func) (s : ChangeSpec) (c : OpenClaim) => (c.loopsOut == fn.resultTypes.toList.any (P.loopsFrom ·))) Try.pinned.checked.prog 8 Try.f8 Rows.fnValueSizeOfBuiltValueSpec Rows.fnValueSizeOfBuiltValueRow = true := by kernel_rfl
theorem fact22 : (fun (P : Program) (f : FuncId) (fn : Func) (s : ChangeSpec) (c : OpenClaim) => (c.plainKeys == P.plainKeys)) Try.pinned.checked.prog 8 Try.f8 Rows.fnValueSizeOfBuiltValueSpec Rows.fnValueSizeOfBuiltValueRow = true := by kernel_rfl
theorem fact23 : (fun (P : Program) (f : FuncId) (fn : Func) (s : ChangeSpec) (c : OpenClaim) => c.shortTexts.isNone) Try.pinned.checked.prog 8 Try.f8 Rows.fnValueSizeOfBuiltValueSpec Rows.fnValueSizeOfBuiltValueRow = true := by kernel_rfl
theorem fact24 : (fun (P : Program) (f : FuncId) (fn : Func) (s : ChangeSpec) (c : OpenClaim) => P.stopsHeard) Try.pinned.checked.prog 8 Try.f8 Rows.fnValueSizeOfBuiltValueSpec Rows.fnValueSizeOfBuiltValueRow = true := by kernel_rfl
theorem fact26 : (Rows.fnValueSizeOfBuiltValueRow.lifted == Try.pinned.checked.prog.liftsFinal) = true := by rw [liftsFinalFact]; rfl
theorem fact27 : (Try.pinned.checked.prog.make == some Rows.fnValueSizeOfBuiltValueRow.make) = true := by rw [makeFact]; rfl
theorem fact28 : (fun (P : Program) (f : FuncId) (fn : Func) (s : ChangeSpec) (c : OpenClaim) => (c.kinds == (if c.domain.isEmpty then [] else fn.params.toList.map fun t => match P.underlying t with | some (.int k) => some k | _ => none))) Try.pinned.checked.prog 8 Try.f8 Rows.fnValueSizeOfBuiltValueSpec Rows.fnValueSizeOfBuiltValueRow = true := by kernel_rfl
theorem fact29 : (fun (P : Program) (f : FuncId) (fn : Func) (s : ChangeSpec) (c : OpenClaim) => (c.pinned == c.pinnedBy)) Try.pinned.checked.prog 8 Try.f8 Rows.fnValueSizeOfBuiltValueSpec Rows.fnValueSizeOfBuiltValueRow = true := by kernel_rfl
theorem fact30 : (fun (P : Program) (f : FuncId) (fn : Func) (s : ChangeSpec) (c : OpenClaim) => (c.veiled == (fn.params.toList ++ s.plain.varTypes P ++ fn.resultTypes.toList).any (P.veiledRec ·))) Try.pinned.checked.prog 8 Try.f8 Rows.fnValueSizeOfBuiltValueSpec Rows.fnValueSizeOfBuiltValueRow = true := by kernel_rfl
theorem fact31 : (fun (P : Program) (f : FuncId) (fn : Func) (s : ChangeSpec) (c : OpenClaim) => c.veiledFits P fn.params.toList (fn.params.toList ++ s.plain.varTypes P ++ fn.resultTypes.toList)) Try.pinned.checked.prog 8 Try.f8 Rows.fnValueSizeOfBuiltValueSpec Rows.fnValueSizeOfBuiltValueRow = true := by kernel_rfl
theorem closedFact : joinedFacts Try.pinned.checked.prog 8 Try.f8 Rows.fnValueSizeOfBuiltValueSpec Rows.fnValueSizeOfBuiltValueRow = true := by
  unfold joinedFacts
  simp only [Bool.and_eq_true]
  exact ⟨⟨⟨⟨⟨⟨⟨⟨⟨⟨⟨⟨⟨⟨⟨⟨⟨⟨⟨⟨⟨⟨⟨⟨⟨⟨⟨⟨⟨⟨⟨fact0, fact1⟩, fact2⟩, fact3⟩, fact4⟩, fact5⟩, fact6⟩, fact7⟩, fact8⟩, fact9⟩, fact10⟩, fact11⟩, fact12⟩, fact13⟩, fact14⟩, fact15⟩, fact16⟩, fact17⟩, fact18⟩, fact19⟩, fact20⟩, fact21⟩, fact22⟩, fact23⟩, fact24⟩, mayEnterFact⟩, fact26⟩, fact27⟩, fact28⟩, fact29⟩, fact30⟩, fact31⟩
end Go.Proofs.Qxb6000722a
