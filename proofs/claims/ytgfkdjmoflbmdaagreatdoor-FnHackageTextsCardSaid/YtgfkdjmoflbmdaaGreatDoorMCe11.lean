/- FnHackageTexts: the row's closed facts, one by one. -/
import Derived.Test.YtgfkdjmoflbmdaaGreatDoorRows
import Derived.JoinedCond
namespace Go.Proofs.YtgfkdjmoflbmdaaGreatDoor.HackageTexts
open Go
theorem k0 : (Rows.fnHackageTextsRow.wf (OpenSpec.ofChange (OpenSpec.ofChange Rows.fnHackageTextsSpec).bare)) = true := by kernel_rfl
theorem k1 : laidOutB Tryz.pinned.checked.prog = true := by kernel_rfl
theorem k2 : mapsRowed Tryz.pinned.checked.prog = true := by kernel_rfl
theorem k3 : Tryz.f11.params.all (Tryz.pinned.checked.prog.readableRec ·) = true := by kernel_rfl
theorem k4 : namedTie Tryz.pinned.checked.prog Rows.fnHackageTextsRow.named (OpenSpec.ofChange Rows.fnHackageTextsSpec).bare.vars = true := by kernel_rfl
theorem k5 : (Rows.fnHackageTextsRow.stops == []) = true := by kernel_rfl
theorem k6 : (Tryz.pinned.checked.prog.stops == []) = true := by kernel_rfl
theorem k7 : (Rows.fnHackageTextsRow.knobs == []) = true := by kernel_rfl
theorem k8 : (Tryz.pinned.checked.prog.stopKnobs == []) = true := by kernel_rfl
theorem k9 : (Rows.fnHackageTextsRow.inPlace == Tryz.pinned.checked.prog.inPlace 11) = true := by kernel_rfl
theorem k10 : (Rows.fnHackageTextsRow.unfollowed == Tryz.pinned.checked.prog.unfollowed 11) = true := by kernel_rfl
theorem k11 : (Rows.fnHackageTextsRow.recurses == Tryz.pinned.checked.prog.recurses 11) = true := by kernel_rfl
theorem k12 : (Rows.fnHackageTextsRow.named == Tryz.pinned.checked.prog.varsNamed 11) = true := by kernel_rfl
theorem k13 : (Rows.fnHackageTextsRow.maps == (Tryz.f11.params.toList ++ (OpenSpec.ofChange Rows.fnHackageTextsSpec).bare.plain.varTypes Tryz.pinned.checked.prog).any (Tryz.pinned.checked.prog.mapsRec ·)) = true := by kernel_rfl
theorem k14 : (Rows.fnHackageTextsRow.ifaces == (Tryz.f11.params.toList ++ (OpenSpec.ofChange Rows.fnHackageTextsSpec).bare.plain.varTypes Tryz.pinned.checked.prog).any (Tryz.pinned.checked.prog.ifacesRec ·)) = true := by kernel_rfl
theorem k15 : (Rows.fnHackageTextsRow.mapsOut == Tryz.pinned.checked.prog.mapsAmong Tryz.f11.resultTypes.toList) = true := by kernel_rfl
theorem k16 : (Rows.fnHackageTextsRow.loops == (Tryz.f11.params.toList ++ (OpenSpec.ofChange Rows.fnHackageTextsSpec).bare.plain.varTypes Tryz.pinned.checked.prog).any (Tryz.pinned.checked.prog.loopsFrom ·)) = true := by kernel_rfl
theorem k17 : (Rows.fnHackageTextsRow.wideKeys == (Tryz.f11.params.toList ++ (OpenSpec.ofChange Rows.fnHackageTextsSpec).bare.plain.varTypes Tryz.pinned.checked.prog ++ Tryz.f11.resultTypes.toList).any (Tryz.pinned.checked.prog.wideKeysFrom ·)) = true := by kernel_rfl
theorem k18 : (OpenSpec.ofChange Rows.fnHackageTextsSpec).bare.vars.all (Tryz.pinned.checked.prog.varReadable ·) = true := by kernel_rfl
theorem k19 : Tryz.f11.resultTypes.all (fun t => Tryz.pinned.checked.prog.readableRec t && decide (t < Tryz.pinned.checked.prog.types.size)) = true := by kernel_rfl
theorem k20 : (Rows.fnHackageTextsRow.ifacesOut == Tryz.f11.resultTypes.toList.any (Tryz.pinned.checked.prog.ifacesRec ·)) = true := by kernel_rfl
theorem k21 : (Rows.fnHackageTextsRow.loopsOut == Tryz.f11.resultTypes.toList.any (Tryz.pinned.checked.prog.loopsFrom ·)) = true := by kernel_rfl
theorem k22 : (Rows.fnHackageTextsRow.plainKeys == Tryz.pinned.checked.prog.plainKeys) = true := by kernel_rfl
theorem k23 : Rows.fnHackageTextsRow.shortTexts.isNone = true := by kernel_rfl
theorem k24 : Tryz.pinned.checked.prog.stopsHeard = true := by kernel_rfl
theorem k25 : Tryz.pinned.checked.prog.mayEnter = true := by kernel_rfl
theorem k26 : (Rows.fnHackageTextsRow.lifted == Tryz.pinned.checked.prog.liftsFinal) = true := by kernel_rfl
theorem k27 : (Tryz.pinned.checked.prog.make == some Rows.fnHackageTextsRow.make) = true := by kernel_rfl
theorem k28 : (Rows.fnHackageTextsRow.kinds == (if Rows.fnHackageTextsRow.domain.isEmpty then [] else Tryz.f11.params.toList.map fun t => match Tryz.pinned.checked.prog.underlying t with | some (.int k) => some k | _ => none)) = true := by kernel_rfl
theorem k29 : (Rows.fnHackageTextsRow.pinned == Rows.fnHackageTextsRow.pinnedBy) = true := by kernel_rfl
theorem k30 : (Rows.fnHackageTextsRow.veiled == (Tryz.f11.params.toList ++ (OpenSpec.ofChange Rows.fnHackageTextsSpec).bare.plain.varTypes Tryz.pinned.checked.prog ++ Tryz.f11.resultTypes.toList).any (Tryz.pinned.checked.prog.veiledRec ·)) = true := by kernel_rfl
theorem k31 : Rows.fnHackageTextsRow.veiledFits Tryz.pinned.checked.prog Tryz.f11.params.toList (Tryz.f11.params.toList ++ (OpenSpec.ofChange Rows.fnHackageTextsSpec).bare.plain.varTypes Tryz.pinned.checked.prog ++ Tryz.f11.resultTypes.toList) = true := by kernel_rfl
end Go.Proofs.YtgfkdjmoflbmdaaGreatDoor.HackageTexts
