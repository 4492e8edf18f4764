/- The closed facts that every row of this seat asks, taken one by one: the dump's head is long (26 roots), so its words are taken apart by a lemma and not by one evaluation. No condition. -/
import Derived.Test.YtcamaikogengoaaFrame
namespace Go.Proofs.Ytcamaikogengoaa
set_option linter.unusedVariables false
set_option linter.unusedSimpArgs false
set_option linter.unusedSectionVars false
open Go.ChangeShapes Go.WideShapes Go.ChangeAt Go.RowKit

/-- The head of the dump, sign by sign. -/
def headCodes : List Nat := [
  104, 97, 114, 110, 101, 115, 115, 32, 55, 48, 102, 98, 101, 99, 55, 53, 101, 53, 48, 53, 55, 55, 49, 57, 98, 55, 99, 55, 54, 49,
  53, 48, 97, 55, 53, 102, 49, 100, 53, 54, 102, 53, 48, 52, 99, 56, 97, 53, 99, 51, 49, 102, 56, 97, 98, 102, 53, 53, 102, 54,
  102, 52, 49, 102, 56, 48, 48, 97, 99, 54, 98, 101, 32, 99, 117, 116, 32, 97, 116, 32, 108, 111, 111, 112, 46, 101, 120, 97, 109, 112,
  108, 101, 47, 112, 117, 98, 45, 115, 111, 114, 116, 112, 105, 101, 99, 101, 115, 47, 108, 97, 119, 115, 46, 70, 110, 69, 120, 97, 99, 116,
  82, 97, 110, 100, 111, 109, 32, 108, 111, 111, 112, 46, 101, 120, 97, 109, 112, 108, 101, 47, 112, 117, 98, 45, 115, 111, 114, 116, 112, 105,
  101, 99, 101, 115, 47, 108, 97, 119, 115, 46, 70, 110, 69, 120, 97, 99, 116, 77, 101, 100, 105, 97, 110, 32, 108, 111, 111, 112, 46, 101,
  120, 97, 109, 112, 108, 101, 47, 112, 117, 98, 45, 115, 111, 114, 116, 112, 105, 101, 99, 101, 115, 47, 108, 97, 119, 115, 46, 70, 110, 82,
  111, 97, 100, 115, 32, 108, 111, 111, 112, 46, 101, 120, 97, 109, 112, 108, 101, 47, 112, 117, 98, 45, 115, 111, 114, 116, 112, 105, 101, 99,
  101, 115, 47, 108, 97, 119, 115, 46, 70, 110, 69, 120, 97, 99, 116, 83, 119, 97, 112, 32, 108, 111, 111, 112, 46, 101, 120, 97, 109, 112,
  108, 101, 47, 112, 117, 98, 45, 115, 111, 114, 116, 112, 105, 101, 99, 101, 115, 47, 108, 97, 119, 115, 46, 70, 110, 69, 120, 97, 99, 116,
  82, 101, 118, 101, 114, 115, 101, 32, 108, 111, 111, 112, 46, 101, 120, 97, 109, 112, 108, 101, 47, 112, 117, 98, 45, 115, 111, 114, 116, 112,
  105, 101, 99, 101, 115, 47, 108, 97, 119, 115, 46, 70, 110, 80, 111, 119, 101, 114, 32, 108, 111, 111, 112, 46, 101, 120, 97, 109, 112, 108,
  101, 47, 112, 117, 98, 45, 115, 111, 114, 116, 112, 105, 101, 99, 101, 115, 47, 108, 97, 119, 115, 46, 70, 110, 80, 100, 113, 73, 116, 101,
  109, 115, 32, 108, 111, 111, 112, 46, 101, 120, 97, 109, 112, 108, 101, 47, 112, 117, 98, 45, 115, 111, 114, 116, 112, 105, 101, 99, 101, 115,
  47, 108, 97, 119, 115, 46, 70, 110, 69, 120, 97, 99, 116, 73, 110, 115, 101, 114, 116, 105, 111, 110, 32, 108, 111, 111, 112, 46, 101, 120,
  97, 109, 112, 108, 101, 47, 112, 117, 98, 45, 115, 111, 114, 116, 112, 105, 101, 99, 101, 115, 47, 108, 97, 119, 115, 46, 70, 110, 83, 105,
  102, 116, 32, 108, 111, 111, 112, 46, 101, 120, 97, 109, 112, 108, 101, 47, 112, 117, 98, 45, 115, 111, 114, 116, 112, 105, 101, 99, 101, 115,
  47, 108, 97, 119, 115, 46, 70, 110, 84, 119, 105, 110, 115, 32, 108, 111, 111, 112, 46, 101, 120, 97, 109, 112, 108, 101, 47, 112, 117, 98,
  45, 115, 111, 114, 116, 112, 105, 101, 99, 101, 115, 47, 108, 97, 119, 115, 46, 70, 110, 83, 105, 102, 116, 65, 108, 108, 32, 108, 111, 111,
  112, 46, 101, 120, 97, 109, 112, 108, 101, 47, 112, 117, 98, 45, 115, 111, 114, 116, 112, 105, 101, 99, 101, 115, 47, 108, 97, 119, 115, 46,
  70, 110, 84, 119, 105, 99, 101, 32, 108, 111, 111, 112, 46, 101, 120, 97, 109, 112, 108, 101, 47, 112, 117, 98, 45, 115, 111, 114, 116, 112,
  105, 101, 99, 101, 115, 47, 108, 97, 119, 115, 46, 70, 110, 69, 120, 97, 99, 116, 73, 110, 115, 101, 114, 116, 105, 111, 110, 73, 116, 101,
  109, 115, 32, 108, 111, 111, 112, 46, 101, 120, 97, 109, 112, 108, 101, 47, 112, 117, 98, 45, 115, 111, 114, 116, 112, 105, 101, 99, 101, 115,
  47, 108, 97, 119, 115, 46, 70, 110, 67, 104, 111, 111, 115, 101, 32, 108, 111, 111, 112, 46, 101, 120, 97, 109, 112, 108, 101, 47, 112, 117,
  98, 45, 115, 111, 114, 116, 112, 105, 101, 99, 101, 115, 47, 108, 97, 119, 115, 46, 70, 110, 80, 97, 114, 116, 105, 116, 105, 111, 110, 69,
  113, 117, 97, 108, 32, 108, 111, 111, 112, 46, 101, 120, 97, 109, 112, 108, 101, 47, 112, 117, 98, 45, 115, 111, 114, 116, 112, 105, 101, 99,
  101, 115, 47, 108, 97, 119, 115, 46, 70, 110, 69, 120, 97, 99, 116, 82, 111, 116, 97, 116, 101, 32, 108, 111, 111, 112, 46, 101, 120, 97,
  109, 112, 108, 101, 47, 112, 117, 98, 45, 115, 111, 114, 116, 112, 105, 101, 99, 101, 115, 47, 108, 97, 119, 115, 46, 70, 110, 69, 120, 97,
  99, 116, 72, 101, 97, 112, 83, 111, 114, 116, 32, 108, 111, 111, 112, 46, 101, 120, 97, 109, 112, 108, 101, 47, 112, 117, 98, 45, 115, 111,
  114, 116, 112, 105, 101, 99, 101, 115, 47, 108, 97, 119, 115, 46, 70, 110, 80, 97, 114, 116, 105, 116, 105, 111, 110, 32, 108, 111, 111, 112,
  46, 101, 120, 97, 109, 112, 108, 101, 47, 112, 117, 98, 45, 115, 111, 114, 116, 112, 105, 101, 99, 101, 115, 47, 108, 97, 119, 115, 46, 70,
  110, 65, 108, 114, 101, 97, 100, 121, 32, 108, 111, 111, 112, 46, 101, 120, 97, 109, 112, 108, 101, 47, 112, 117, 98, 45, 115, 111, 114, 116,
  112, 105, 101, 99, 101, 115, 47, 108, 97, 119, 115, 46, 70, 110, 80, 97, 114, 116, 105, 97, 108, 32, 108, 111, 111, 112, 46, 101, 120, 97,
  109, 112, 108, 101, 47, 112, 117, 98, 45, 115, 111, 114, 116, 112, 105, 101, 99, 101, 115, 47, 108, 97, 119, 115, 46, 70, 110, 66, 114, 101,
  97, 107, 32, 108, 111, 111, 112, 46, 101, 120, 97, 109, 112, 108, 101, 47, 112, 117, 98, 45, 115, 111, 114, 116, 112, 105, 101, 99, 101, 115,
  47, 108, 97, 119, 115, 46, 70, 110, 69, 120, 97, 99, 116, 82, 111, 116, 97, 116, 101, 73, 116, 101, 109, 115, 32, 108, 111, 111, 112, 46,
  101, 120, 97, 109, 112, 108, 101, 47, 112, 117, 98, 45, 115, 111, 114, 116, 112, 105, 101, 99, 101, 115, 47, 108, 97, 119, 115, 46, 70, 110,
  72, 101, 97, 112, 73, 116, 101, 109, 115, 32, 108, 111, 111, 112, 46, 101, 120, 97, 109, 112, 108, 101, 47, 112, 117, 98, 45, 115, 111, 114,
  116, 112, 105, 101, 99, 101, 115, 47, 108, 97, 119, 115, 46, 70, 110, 69, 120, 97, 99, 116, 77, 101, 114, 103, 101, 73, 116, 101, 109, 115,
  32, 108, 111, 111, 112, 46, 101, 120, 97, 109, 112, 108, 101, 47, 112, 117, 98, 45, 115, 111, 114, 116, 112, 105, 101, 99, 101, 115, 47, 108,
  97, 119, 115, 46, 70, 110, 69, 120, 97, 99, 116, 83, 116, 97, 98, 108, 101, 73, 116, 101, 109, 115, 32, 108, 111, 111, 112, 46, 101, 120,
  97, 109, 112, 108, 101, 47, 112, 117, 98, 45, 115, 111, 114, 116, 112, 105, 101, 99, 101, 115, 47, 108, 97, 119, 115, 46, 70, 110, 69, 120,
  97, 99, 116, 80, 100, 113]
def headChars : List Char := headCodes.map Char.ofNat
theorem head_is : Try.prog.initOrder = String.ofList headChars := by kernel_rfl
theorem head_toList : Try.prog.initOrder.toList = headChars := by rw [head_is]; exact String.toList_ofList
theorem head_words : behindMainWord (wordsSigns headChars) = "cut".toList :: "at".toList :: wordsSigns (headChars.drop 80) := by kernel_rfl
theorem head_behind : behindMainWord (wordsSigns Try.prog.initOrder.toList) = "cut".toList :: "at".toList :: wordsSigns (headChars.drop 80) := by rw [head_toList, head_words]
theorem strip_cut (r : List (List Char)) : stripLifts liftWords ("cut".toList :: r) = ([], "cut".toList :: r) := by rfl
theorem no_later : Try.prog.laysLater = false := by kernel_rfl
theorem no_reflect : Try.prog.bearsReflect = false := by kernel_rfl
theorem door : Try.prog.doorFits [] = true := by kernel_rfl
theorem headLifts_of {P : Program} {r : List (List Char)} (h : behindMainWord (wordsSigns P.initOrder.toList) = "cut".toList :: r) : P.headLifts = [] := by
  unfold Program.headLifts
  rw [h, strip_cut]
  simp
theorem mayEnter_of {P : Program} {r : List (List Char)} (h : behindMainWord (wordsSigns P.initOrder.toList) = "cut".toList :: r) (h1 : P.laysLater = false) (h2 : P.bearsReflect = false) (h3 : P.doorFits [] = true) : P.mayEnter = true := by
  unfold Program.mayEnter
  rw [h]
  simp only [strip_cut, h1, h2, h3]
  simp
theorem liftsFinal_of {P : Program} {r : List (List Char)} (h : behindMainWord (wordsSigns P.initOrder.toList) = "cut".toList :: r) : P.liftsFinal = false := by
  unfold Program.liftsFinal
  rw [headLifts_of h, h]
  simp
theorem make_of {P : Program} {r : List (List Char)} (h : behindMainWord (wordsSigns P.initOrder.toList) = "cut".toList :: r) : P.make = some .cut := by
  unfold Program.make
  rw [h]
  simp
theorem may_enter : Try.prog.mayEnter = true := mayEnter_of head_behind no_later no_reflect door
theorem lifts_final : Try.prog.liftsFinal = false := liftsFinal_of head_behind
theorem make_cut : Try.prog.make = some .cut := make_of head_behind

theorem closed_mk {P : Program} {f : FuncId} {fn : Func} {s : ChangeSpec} {c : OpenClaim} (h1 : c.wf (OpenSpec.ofChange s) = true) (h2a : laidOutB P = true) (h2b : mapsRowed P = true) (h3a : fn.params.all (P.readableRec ·) = true) (h3b : namedTie P c.named s.vars = true)
    (h4a : (c.stops == []) = true) (h4b : (P.stops == []) = true) (h4c : (c.knobs == []) = true) (h4d : (P.stopKnobs == []) = true)
    (h5 : (c.inPlace == P.inPlace f) = true) (h6 : (c.unfollowed == P.unfollowed f) = true) (h7 : (c.recurses == P.recurses f) = true) (h8 : (c.named == P.varsNamed f) = true)
    (h9 : (c.maps == (fn.params.toList ++ s.plain.varTypes P).any (P.mapsRec ·)) = true) (h10 : (c.ifaces == (fn.params.toList ++ s.plain.varTypes P).any (P.ifacesRec ·)) = true) (h11 : (c.mapsOut == P.mapsAmong fn.resultTypes.toList) = true)
    (h12 : (c.loops == (fn.params.toList ++ s.plain.varTypes P).any (P.loopsFrom ·)) = true) (h13 : (c.wideKeys == (fn.params.toList ++ s.plain.varTypes P ++ fn.resultTypes.toList).any (P.wideKeysFrom ·)) = true)
    (h14 : s.vars.all (P.varReadable ·) = true) (h15 : fn.resultTypes.all (fun t => P.readableRec t && decide (t < P.types.size)) = true) (h16 : (c.ifacesOut == fn.resultTypes.toList.any (P.ifacesRec ·)) = true) (h17 : (c.loopsOut == fn.resultTypes.toList.any (P.loopsFrom ·)) = true)
    (h18 : (c.plainKeys == P.plainKeys) = true) (h19 : c.shortTexts.isNone = true) (h20 : P.stopsHeard = true) (h21 : P.mayEnter = true) (h22 : c.lifted = false) (h22b : P.liftsFinal = false) (h23 : c.make = .cut) (h23b : P.make = some .cut)
    (h24 : c.domain.isEmpty = true) (h24b : (c.kinds == []) = true) (h25 : (c.pinned == c.pinnedBy) = true)
    (h26 : (c.veiled == (fn.params.toList ++ s.plain.varTypes P ++ fn.resultTypes.toList).any (P.veiledRec ·)) = true) (h27 : c.veiledFits P fn.params.toList (fn.params.toList ++ s.plain.varTypes P ++ fn.resultTypes.toList) = true) : joinedFacts P f fn s c = true := by
  have h22' : (c.lifted == P.liftsFinal) = true := by rw [h22, h22b]; rfl
  have h23' : (P.make == some c.make) = true := by rw [h23b, h23]; rfl
  clear h22 h22b h23 h23b
  unfold joinedFacts
  rw [h1, h2a, h2b, h3a, h3b, h4a, h4b, h4c, h4d, h5, h6, h7, h8, h9, h10, h11, h12, h13, h14, h15, h16, h17, h18, h19, h20, h21, h22', h23', if_pos h24, h24b, h25, h26, h27]
  rfl
theorem all_laid : laidOutB Try.prog = true := laidOut
theorem all_rowed : mapsRowed Try.prog = true := by kernel_rfl
theorem all_stops : (Try.prog.stops == []) = true := by kernel_rfl
theorem all_knobs : (Try.prog.stopKnobs == []) = true := by kernel_rfl
theorem all_heard : Try.prog.stopsHeard = true := by kernel_rfl
end Go.Proofs.Ytcamaikogengoaa
