/- What the row of FnAttribute says of the program's text: closed facts, part by part. -/
import Derived.Test.YtimonhimfioohaaGreatDoorLaid
namespace Go.Proofs.YtimonhimfioohaaGreatDoor.fnAttribute
open Go.RowKit

theorem and_mk {a b : Bool} (h1 : a = true) (h2 : b = true) : (a && b) = true := by rw [h1, h2]; rfl
theorem closed0 : Rows.fnAttributeRow.wf (OpenSpec.ofChange (OpenSpec.ofChange Rows.fnAttributeSpec).bare) = true := by kernel_rfl
theorem closed1 : laidOutB Tryz.prog = true := by kernel_rfl
theorem closed2 : mapsRowed Tryz.prog = true := by kernel_rfl
theorem closed3 : Tryz.f9.params.all (Tryz.prog.readableRec ·) = true := by kernel_rfl
theorem closed4 : namedTie Tryz.prog Rows.fnAttributeRow.named (OpenSpec.ofChange Rows.fnAttributeSpec).bare.vars = true := by kernel_rfl
theorem closed5 : (Rows.fnAttributeRow.stops == []) = true := by kernel_rfl
theorem closed6 : (Tryz.prog.stops == []) = true := by kernel_rfl
theorem closed7 : (Rows.fnAttributeRow.knobs == []) = true := by kernel_rfl
theorem closed8 : (Tryz.prog.stopKnobs == []) = true := by kernel_rfl
theorem closed9 : (Rows.fnAttributeRow.inPlace == Tryz.prog.inPlace 9) = true := by kernel_rfl
theorem closed10 : (Rows.fnAttributeRow.unfollowed == Tryz.prog.unfollowed 9) = true := by kernel_rfl
theorem closed11 : (Rows.fnAttributeRow.recurses == Tryz.prog.recurses 9) = true := by kernel_rfl
theorem closed12 : (Rows.fnAttributeRow.named == Tryz.prog.varsNamed 9) = true := by kernel_rfl
theorem closed13 : (Rows.fnAttributeRow.maps == (Tryz.f9.params.toList ++ (OpenSpec.ofChange Rows.fnAttributeSpec).bare.plain.varTypes Tryz.prog).any (Tryz.prog.mapsRec ·)) = true := by kernel_rfl
theorem closed14 : (Rows.fnAttributeRow.ifaces == (Tryz.f9.params.toList ++ (OpenSpec.ofChange Rows.fnAttributeSpec).bare.plain.varTypes Tryz.prog).any (Tryz.prog.ifacesRec ·)) = true := by kernel_rfl
theorem closed15 : (Rows.fnAttributeRow.mapsOut == Tryz.prog.mapsAmong Tryz.f9.resultTypes.toList) = true := by kernel_rfl
theorem closed16 : (Rows.fnAttributeRow.loops == (Tryz.f9.params.toList ++ (OpenSpec.ofChange Rows.fnAttributeSpec).bare.plain.varTypes Tryz.prog).any (Tryz.prog.loopsFrom ·)) = true := by kernel_rfl
theorem closed17 : (Rows.fnAttributeRow.wideKeys == (Tryz.f9.params.toList ++ (OpenSpec.ofChange Rows.fnAttributeSpec).bare.plain.varTypes Tryz.prog ++ Tryz.f9.resultTypes.toList).any (Tryz.prog.wideKeysFrom ·)) = true := by kernel_rfl
theorem closed18 : (OpenSpec.ofChange Rows.fnAttributeSpec).bare.vars.all (Tryz.prog.varReadable ·) = true := by kernel_rfl
theorem closed19 : Tryz.f9.resultTypes.all (fun t => Tryz.prog.readableRec t && decide (t < Tryz.prog.types.size)) = true := by kernel_rfl
theorem closed20 : (Rows.fnAttributeRow.ifacesOut == Tryz.f9.resultTypes.toList.any (Tryz.prog.ifacesRec ·)) = true := by kernel_rfl
theorem closed21 : (Rows.fnAttributeRow.loopsOut == Tryz.f9.resultTypes.toList.any (Tryz.prog.loopsFrom ·)) = true := by kernel_rfl
theorem closed22 : (Rows.fnAttributeRow.plainKeys == Tryz.prog.plainKeys) = true := by kernel_rfl
theorem closed23 : Rows.fnAttributeRow.shortTexts.isNone = true := by kernel_rfl
theorem closed24 : Tryz.prog.stopsHeard = true := by kernel_rfl
theorem closed25 : Tryz.prog.mayEnter = true := by kernel_rfl
theorem closed26 : (Rows.fnAttributeRow.lifted == Tryz.prog.liftsFinal) = true := by kernel_rfl
theorem closed27 : (Tryz.prog.make == some Rows.fnAttributeRow.make) = true := by kernel_rfl
theorem closed28 : (Rows.fnAttributeRow.kinds == (if Rows.fnAttributeRow.domain.isEmpty then [] else Tryz.f9.params.toList.map fun t => match Tryz.prog.underlying t with | some (.int k) => some k | _ => none)) = true := by kernel_rfl
theorem closed29 : (Rows.fnAttributeRow.pinned == Rows.fnAttributeRow.pinnedBy) = true := by kernel_rfl
theorem closed30 : (Rows.fnAttributeRow.veiled == (Tryz.f9.params.toList ++ (OpenSpec.ofChange Rows.fnAttributeSpec).bare.plain.varTypes Tryz.prog ++ Tryz.f9.resultTypes.toList).any (Tryz.prog.veiledRec ·)) = true := by kernel_rfl
theorem closed31 : Rows.fnAttributeRow.veiledFits Tryz.prog Tryz.f9.params.toList (Tryz.f9.params.toList ++ (OpenSpec.ofChange Rows.fnAttributeSpec).bare.plain.varTypes Tryz.prog ++ Tryz.f9.resultTypes.toList) = true := by kernel_rfl
set_option maxRecDepth 100000 in
theorem closed : joinedFacts Tryz.prog 9 Tryz.f9 (OpenSpec.ofChange Rows.fnAttributeSpec).bare Rows.fnAttributeRow = true := (and_mk (and_mk (and_mk (and_mk (and_mk (and_mk (and_mk (and_mk (and_mk (and_mk (and_mk (and_mk (and_mk (and_mk (and_mk (and_mk (and_mk (and_mk (and_mk (and_mk (and_mk (and_mk (and_mk (and_mk (and_mk (and_mk (and_mk (and_mk (and_mk (and_mk (and_mk closed0 closed1) closed2) closed3) closed4) closed5) closed6) closed7) closed8) closed9) closed10) closed11) closed12) closed13) closed14) closed15) closed16) closed17) closed18) closed19) closed20) closed21) closed22) closed23) closed24) closed25) closed26) closed27) closed28) closed29) closed30) closed31)

end Go.Proofs.YtimonhimfioohaaGreatDoor.fnAttribute
