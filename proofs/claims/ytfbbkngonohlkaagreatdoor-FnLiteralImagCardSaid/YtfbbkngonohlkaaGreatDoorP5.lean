/- The closed facts of laws.FnLiteralImag's row, one by one (all of them in one declaration pass the limit on memory). -/
import Derived.Test.YtfbbkngonohlkaaGreatDoorP1
import Derived.Test.YtfbbkngonohlkaaGreatDoorCards
import Derived.SevenTiedAt
import Derived.JoinedOf
namespace Go.Proofs.YtfbbkngonohlkaaGreatDoor.fnLiteralImag
open Go Go.RowKit
set_option linter.unusedVariables false
set_option maxRecDepth 100000
noncomputable abbrev P : Program := Tryz.pinned.checked.prog
noncomputable abbrev fn : Func := Tryz.f4
abbrev c : OpenClaim := Rows.fnLiteralImagRow
abbrev s : ChangeSpec := Rows.fnLiteralImagSpec
theorem a1 : c.wf (OpenSpec.ofChange s) = true := by kernel_rfl
theorem a3 : mapsRowed P = true := by kernel_rfl
theorem a4 : fn.params.all (P.readableRec ·) = true := by kernel_rfl
theorem a5 : namedTie P c.named s.vars = true := by kernel_rfl
theorem a6 : (c.stops == []) = true := by kernel_rfl
theorem a7 : (P.stops == []) = true := by kernel_rfl
theorem a8 : (c.knobs == []) = true := by kernel_rfl
theorem a9 : (P.stopKnobs == []) = true := by kernel_rfl
theorem a10 : (c.inPlace == P.inPlace 4) = true := by kernel_rfl
theorem a11 : (c.unfollowed == P.unfollowed 4) = true := by kernel_rfl
theorem a12 : (c.recurses == P.recurses 4) = true := by kernel_rfl
theorem a13 : (c.named == P.varsNamed 4) = true := by kernel_rfl
theorem a14 : (c.maps == (fn.params.toList ++ s.plain.varTypes P).any (P.mapsRec ·)) = true := by kernel_rfl
theorem a15 : (c.ifaces == (fn.params.toList ++ s.plain.varTypes P).any (P.ifacesRec ·)) = true := by kernel_rfl
theorem a16 : (c.mapsOut == P.mapsAmong fn.resultTypes.toList) = true := by kernel_rfl
theorem a17 : (c.loops == (fn.params.toList ++ s.plain.varTypes P).any (P.loopsFrom ·)) = true := by kernel_rfl
theorem a18 : (c.wideKeys == (fn.params.toList ++ s.plain.varTypes P ++ fn.resultTypes.toList).any (P.wideKeysFrom ·)) = true := by kernel_rfl
theorem a19 : s.vars.all (P.varReadable ·) = true := by kernel_rfl
theorem a20 : fn.resultTypes.all (fun t => P.readableRec t && decide (t < P.types.size)) = true := by kernel_rfl
theorem a21 : (c.ifacesOut == fn.resultTypes.toList.any (P.ifacesRec ·)) = true := by kernel_rfl
theorem a22 : (c.loopsOut == fn.resultTypes.toList.any (P.loopsFrom ·)) = true := by kernel_rfl
theorem a23 : (c.plainKeys == P.plainKeys) = true := by kernel_rfl
theorem a24 : c.shortTexts.isNone = true := by kernel_rfl
theorem a25 : P.stopsHeard = true := by kernel_rfl
theorem a26 : P.mayEnter = true := by kernel_rfl
theorem a27 : (c.lifted == P.liftsFinal) = true := by kernel_rfl
theorem a28 : (P.make == some c.make) = true := by kernel_rfl
theorem a29 : (c.kinds == (if c.domain.isEmpty then [] else fn.params.toList.map fun t => match P.underlying t with | some (.int k) => some k | _ => none)) = true := by kernel_rfl
theorem a30 : (c.pinned == c.pinnedBy) = true := by kernel_rfl
theorem a31 : (c.veiled == (fn.params.toList ++ s.plain.varTypes P ++ fn.resultTypes.toList).any (P.veiledRec ·)) = true := by kernel_rfl
theorem a32 : c.veiledFits P fn.params.toList (fn.params.toList ++ s.plain.varTypes P ++ fn.resultTypes.toList) = true := by kernel_rfl
theorem b1 : c.wfByText (OpenSpec.ofChange s) = true := by kernel_rfl
theorem b2 : P.mainIs = some (true, "9bd208ad0ba465942f91f4d3933930092dc1c8c0c20362e61b55920ecead1fdd".toList) := by kernel_rfl
theorem b3 : true = P.looks [] := by kernel_rfl
theorem b4 : false = c.goesBy P := by kernel_rfl
theorem b5 : ([22, 5, 5].all fun u => !P.wantsStandIn u) = true := by kernel_rfl
theorem b6 : P.funcNamed "loop.example/pub-g03237/laws.FnLiteralImag" = some 4 := by kernel_rfl
theorem b7 : varsRowed Tryz.prog s.vars = true := by kernel_rfl
theorem and2 {a b : Bool} (h : a = true) (k : b = true) : (a && b) = true := by rw [h, k]; rfl
theorem joined : joinedFacts P 4 fn s c = true := by
  unfold joinedFacts
  exact and2 (and2 (and2 (and2 (and2 (and2 (and2 (and2 (and2 (and2 (and2 (and2 (and2 (and2 (and2 (and2 (and2 (and2 (and2 (and2 (and2 (and2 (and2 (and2 (and2 (and2 (and2 (and2 (and2 (and2 (and2 a1 laid_out) a3) a4) a5) a6) a7) a8) a9) a10) a11) a12) a13) a14) a15) a16) a17) a18) a19) a20) a21) a22) a23) a24) a25) a26) a27) a28) a29) a30) a31) a32
end Go.Proofs.YtfbbkngonohlkaaGreatDoor.fnLiteralImag
