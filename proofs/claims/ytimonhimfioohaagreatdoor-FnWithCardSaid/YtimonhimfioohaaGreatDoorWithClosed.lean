/- What the row of FnWith says of the program's text: closed facts, part by part. -/
import Derived.Test.YtimonhimfioohaaGreatDoorLaid
namespace Go.Proofs.YtimonhimfioohaaGreatDoor.fnWith
open Go.RowKit

theorem and_mk {a b : Bool} (h1 : a = true) (h2 : b = true) : (a && b) = true := by rw [h1, h2]; rfl
theorem closed0 : Rows.fnWithRow.wf (OpenSpec.ofChange (OpenSpec.ofChange Rows.fnWithSpec).bare) = true := by kernel_rfl
theorem closed1 : laidOutB Tryz.prog = true := by kernel_rfl
theorem closed2 : mapsRowed Tryz.prog = true := by kernel_rfl
theorem closed3 : Tryz.f10.params.all (Tryz.prog.readableRec ·) = true := by kernel_rfl
theorem closed4 : namedTie Tryz.prog Rows.fnWithRow.named (OpenSpec.ofChange Rows.fnWithSpec).bare.vars = true := by kernel_rfl
theorem closed5 : (Rows.fnWithRow.stops == []) = true := by kernel_rfl
theorem closed6 : (Tryz.prog.stops == []) = true := by kernel_rfl
theorem closed7 : (Rows.fnWithRow.knobs == []) = true := by kernel_rfl
theorem closed8 : (Tryz.prog.stopKnobs == []) = true := by kernel_rfl
theorem closed9 : (Rows.fnWithRow.inPlace == Tryz.prog.inPlace 10) = true := by kernel_rfl
theorem closed10 : (Rows.fnWithRow.unfollowed == Tryz.prog.unfollowed 10) = true := by kernel_rfl
theorem closed11 : (Rows.fnWithRow.recurses == Tryz.prog.recurses 10) = true := by kernel_rfl
theorem closed12 : (Rows.fnWithRow.named == Tryz.prog.varsNamed 10) = true := by kernel_rfl
theorem closed13 : (Rows.fnWithRow.maps == (Tryz.f10.params.toList ++ (OpenSpec.ofChange Rows.fnWithSpec).bare.plain.varTypes Tryz.prog).any (Tryz.prog.mapsRec ·)) = true := by kernel_rfl
theorem closed14 : (Rows.fnWithRow.ifaces == (Tryz.f10.params.toList ++ (OpenSpec.ofChange Rows.fnWithSpec).bare.plain.varTypes Tryz.prog).any (Tryz.prog.ifacesRec ·)) = true := by kernel_rfl
theorem closed15 : (Rows.fnWithRow.mapsOut == Tryz.prog.mapsAmong Tryz.f10.resultTypes.toList) = true := by kernel_rfl
theorem closed16 : (Rows.fnWithRow.loops == (Tryz.f10.params.toList ++ (OpenSpec.ofChange Rows.fnWithSpec).bare.plain.varTypes Tryz.prog).any (Tryz.prog.loopsFrom ·)) = true := by kernel_rfl
theorem closed17 : (Rows.fnWithRow.wideKeys == (Tryz.f10.params.toList ++ (OpenSpec.ofChange Rows.fnWithSpec).bare.plain.varTypes Tryz.prog ++ Tryz.f10.resultTypes.toList).any (Tryz.prog.wideKeysFrom ·)) = true := by kernel_rfl
theorem closed18 : (OpenSpec.ofChange Rows.fnWithSpec).bare.vars.all (Tryz.prog.varReadable ·) = true := by kernel_rfl
theorem closed19 : Tryz.f10.resultTypes.all (fun t => Tryz.prog.readableRec t && decide (t < Tryz.prog.types.size)) = true := by kernel_rfl
theorem closed20 : (Rows.fnWithRow.ifacesOut == Tryz.f10.resultTypes.toList.any (Tryz.prog.ifacesRec ·)) = true := by kernel_rfl
theorem closed21 : (Rows.fnWithRow.loopsOut == Tryz.f10.resultTypes.toList.any (Tryz.prog.loopsFrom ·)) = true := by kernel_rfl
theorem closed22 : (Rows.fnWithRow.plainKeys == Tryz.prog.plainKeys) = true := by kernel_rfl
theorem closed23 : Rows.fnWithRow.shortTexts.isNone = true := by kernel_rfl
theorem closed24 : Tryz.prog.stopsHeard = true := by kernel_rfl
theorem closed25 : Tryz.prog.mayEnter = true := by kernel_rfl
theorem closed26 : (Rows.fnWithRow.lifted == Tryz.prog.liftsFinal) = true := by kernel_rfl
theorem closed27 : (Tryz.prog.make == some Rows.fnWithRow.make) = true := by kernel_rfl
theorem closed28 : (Rows.fnWithRow.kinds == (if Rows.fnWithRow.domain.isEmpty then [] else Tryz.f10.params.toList.map fun t => match Tryz.prog.underlying t with | some (.int k) => some k | _ => none)) = true := by kernel_rfl
theorem closed29 : (Rows.fnWithRow.pinned == Rows.fnWithRow.pinnedBy) = true := by kernel_rfl
theorem closed30 : (Rows.fnWithRow.veiled == (Tryz.f10.params.toList ++ (OpenSpec.ofChange Rows.fnWithSpec).bare.plain.varTypes Tryz.prog ++ Tryz.f10.resultTypes.toList).any (Tryz.prog.veiledRec ·)) = true := by kernel_rfl
theorem closed31 : Rows.fnWithRow.veiledFits Tryz.prog Tryz.f10.params.toList (Tryz.f10.params.toList ++ (OpenSpec.ofChange Rows.fnWithSpec).bare.plain.varTypes Tryz.prog ++ Tryz.f10.resultTypes.toList) = true := by kernel_rfl
set_option maxRecDepth 100000 in
theorem closed : joinedFacts Tryz.prog 10 Tryz.f10 (OpenSpec.ofChange Rows.fnWithSpec).bare Rows.fnWithRow = true := (and_mk (and_mk (and_mk (and_mk (and_mk (and_mk (and_mk (and_mk (and_mk (and_mk (and_mk (and_mk (and_mk (and_mk (and_mk (and_mk (and_mk (and_mk (and_mk (and_mk (and_mk (and_mk (and_mk (and_mk (and_mk (and_mk (and_mk (and_mk (and_mk (and_mk (and_mk closed0 closed1) closed2) closed3) closed4) closed5) closed6) closed7) closed8) closed9) closed10) closed11) closed12) closed13) closed14) closed15) closed16) closed17) closed18) closed19) closed20) closed21) closed22) closed23) closed24) closed25) closed26) closed27) closed28) closed29) closed30) closed31)

end Go.Proofs.YtimonhimfioohaaGreatDoor.fnWith
