/- What the row of FnSource says of the program's text: closed facts, part by part. -/
import Derived.Test.YtimonhimfioohaaGreatDoorLaid
namespace Go.Proofs.YtimonhimfioohaaGreatDoor.fnSource
open Go.RowKit

theorem and_mk {a b : Bool} (h1 : a = true) (h2 : b = true) : (a && b) = true := by rw [h1, h2]; rfl
theorem closed0 : Rows.fnSourceRow.wf (OpenSpec.ofChange (OpenSpec.ofChange Rows.fnSourceSpec).bare) = true := by kernel_rfl
theorem closed1 : laidOutB Tryz.prog = true := by kernel_rfl
theorem closed2 : mapsRowed Tryz.prog = true := by kernel_rfl
theorem closed3 : Tryz.f8.params.all (Tryz.prog.readableRec ·) = true := by kernel_rfl
theorem closed4 : namedTie Tryz.prog Rows.fnSourceRow.named (OpenSpec.ofChange Rows.fnSourceSpec).bare.vars = true := by kernel_rfl
theorem closed5 : (Rows.fnSourceRow.stops == []) = true := by kernel_rfl
theorem closed6 : (Tryz.prog.stops == []) = true := by kernel_rfl
theorem closed7 : (Rows.fnSourceRow.knobs == []) = true := by kernel_rfl
theorem closed8 : (Tryz.prog.stopKnobs == []) = true := by kernel_rfl
theorem closed9 : (Rows.fnSourceRow.inPlace == Tryz.prog.inPlace 8) = true := by kernel_rfl
theorem closed10 : (Rows.fnSourceRow.unfollowed == Tryz.prog.unfollowed 8) = true := by kernel_rfl
theorem closed11 : (Rows.fnSourceRow.recurses == Tryz.prog.recurses 8) = true := by kernel_rfl
theorem closed12 : (Rows.fnSourceRow.named == Tryz.prog.varsNamed 8) = true := by kernel_rfl
theorem closed13 : (Rows.fnSourceRow.maps == (Tryz.f8.params.toList ++ (OpenSpec.ofChange Rows.fnSourceSpec).bare.plain.varTypes Tryz.prog).any (Tryz.prog.mapsRec ·)) = true := by kernel_rfl
theorem closed14 : (Rows.fnSourceRow.ifaces == (Tryz.f8.params.toList ++ (OpenSpec.ofChange Rows.fnSourceSpec).bare.plain.varTypes Tryz.prog).any (Tryz.prog.ifacesRec ·)) = true := by kernel_rfl
theorem closed15 : (Rows.fnSourceRow.mapsOut == Tryz.prog.mapsAmong Tryz.f8.resultTypes.toList) = true := by kernel_rfl
theorem closed16 : (Rows.fnSourceRow.loops == (Tryz.f8.params.toList ++ (OpenSpec.ofChange Rows.fnSourceSpec).bare.plain.varTypes Tryz.prog).any (Tryz.prog.loopsFrom ·)) = true := by kernel_rfl
theorem closed17 : (Rows.fnSourceRow.wideKeys == (Tryz.f8.params.toList ++ (OpenSpec.ofChange Rows.fnSourceSpec).bare.plain.varTypes Tryz.prog ++ Tryz.f8.resultTypes.toList).any (Tryz.prog.wideKeysFrom ·)) = true := by kernel_rfl
theorem closed18 : (OpenSpec.ofChange Rows.fnSourceSpec).bare.vars.all (Tryz.prog.varReadable ·) = true := by kernel_rfl
theorem closed19 : Tryz.f8.resultTypes.all (fun t => Tryz.prog.readableRec t && decide (t < Tryz.prog.types.size)) = true := by kernel_rfl
theorem closed20 : (Rows.fnSourceRow.ifacesOut == Tryz.f8.resultTypes.toList.any (Tryz.prog.ifacesRec ·)) = true := by kernel_rfl
theorem closed21 : (Rows.fnSourceRow.loopsOut == Tryz.f8.resultTypes.toList.any (Tryz.prog.loopsFrom ·)) = true := by kernel_rfl
theorem closed22 : (Rows.fnSourceRow.plainKeys == Tryz.prog.plainKeys) = true := by kernel_rfl
theorem closed23 : Rows.fnSourceRow.shortTexts.isNone = true := by kernel_rfl
theorem closed24 : Tryz.prog.stopsHeard = true := by kernel_rfl
theorem closed25 : Tryz.prog.mayEnter = true := by kernel_rfl
theorem closed26 : (Rows.fnSourceRow.lifted == Tryz.prog.liftsFinal) = true := by kernel_rfl
theorem closed27 : (Tryz.prog.make == some Rows.fnSourceRow.make) = true := by kernel_rfl
theorem closed28 : (Rows.fnSourceRow.kinds == (if Rows.fnSourceRow.domain.isEmpty then [] else Tryz.f8.params.toList.map fun t => match Tryz.prog.underlying t with | some (.int k) => some k | _ => none)) = true := by kernel_rfl
theorem closed29 : (Rows.fnSourceRow.pinned == Rows.fnSourceRow.pinnedBy) = true := by kernel_rfl
theorem closed30 : (Rows.fnSourceRow.veiled == (Tryz.f8.params.toList ++ (OpenSpec.ofChange Rows.fnSourceSpec).bare.plain.varTypes Tryz.prog ++ Tryz.f8.resultTypes.toList).any (Tryz.prog.veiledRec ·)) = true := by kernel_rfl
theorem closed31 : Rows.fnSourceRow.veiledFits Tryz.prog Tryz.f8.params.toList (Tryz.f8.params.toList ++ (OpenSpec.ofChange Rows.fnSourceSpec).bare.plain.varTypes Tryz.prog ++ Tryz.f8.resultTypes.toList) = true := by kernel_rfl
set_option maxRecDepth 100000 in
theorem closed : joinedFacts Tryz.prog 8 Tryz.f8 (OpenSpec.ofChange Rows.fnSourceSpec).bare Rows.fnSourceRow = true := (and_mk (and_mk (and_mk (and_mk (and_mk (and_mk (and_mk (and_mk (and_mk (and_mk (and_mk (and_mk (and_mk (and_mk (and_mk (and_mk (and_mk (and_mk (and_mk (and_mk (and_mk (and_mk (and_mk (and_mk (and_mk (and_mk (and_mk (and_mk (and_mk (and_mk (and_mk closed0 closed1) closed2) closed3) closed4) closed5) closed6) closed7) closed8) closed9) closed10) closed11) closed12) closed13) closed14) closed15) closed16) closed17) closed18) closed19) closed20) closed21) closed22) closed23) closed24) closed25) closed26) closed27) closed28) closed29) closed30) closed31)

end Go.Proofs.YtimonhimfioohaaGreatDoor.fnSource
