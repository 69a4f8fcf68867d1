/- The closed facts of FnJSameWritten's row, one by one. -/
import Derived.JoinedCond
import Derived.KernelRfl
import Derived.Test.YtpmggjplfcjkkaaGreatDoorRows
set_option linter.unusedVariables false
set_option linter.unusedSimpArgs false
set_option maxRecDepth 100000
namespace Go.Proofs.YtpmggjplfcjkkaaGreatDoor
open Go
namespace Facts4
noncomputable abbrev P : Program := Tryz.prog
noncomputable abbrev s : ChangeSpec := Rows.fnJSameWrittenSpec
noncomputable abbrev c : OpenClaim := Rows.fnJSameWrittenRow
noncomputable abbrev fn : Func := Tryz.f4
theorem k1 : c.wf (OpenSpec.ofChange s) = true := by kernel_rfl
theorem k2 : laidOutB P = true := by kernel_rfl
theorem k3 : mapsRowed P = true := by kernel_rfl
theorem k4 : fn.params.all (P.readableRec ·) = true := by kernel_rfl
theorem k5 : namedTie P c.named s.vars = true := by kernel_rfl
theorem k6 : (c.stops == []) = true := by kernel_rfl
theorem k7 : (P.stops == []) = true := by kernel_rfl
theorem k8 : (c.knobs == []) = true := by kernel_rfl
theorem k9 : (P.stopKnobs == []) = true := by kernel_rfl
theorem k10 : (c.inPlace == P.inPlace 4) = true := by kernel_rfl
theorem k11 : (c.unfollowed == P.unfollowed 4) = true := by kernel_rfl
theorem k12 : (c.recurses == P.recurses 4) = true := by kernel_rfl
theorem k13 : (c.named == P.varsNamed 4) = true := by kernel_rfl
theorem k14 : (c.maps == (fn.params.toList ++ s.plain.varTypes P).any (P.mapsRec ·)) = true := by kernel_rfl
theorem k15 : (c.ifaces == (fn.params.toList ++ s.plain.varTypes P).any (P.ifacesRec ·)) = true := by kernel_rfl
theorem k16 : (c.mapsOut == P.mapsAmong fn.resultTypes.toList) = true := by kernel_rfl
theorem k17 : (c.loops == (fn.params.toList ++ s.plain.varTypes P).any (P.loopsFrom ·)) = true := by kernel_rfl
theorem k17b : (c.wideKeys == (fn.params.toList ++ s.plain.varTypes P ++ fn.resultTypes.toList).any (P.wideKeysFrom ·)) = true := by kernel_rfl
theorem k18 : s.vars.all (P.varReadable ·) = true := by kernel_rfl
theorem k19 : fn.resultTypes.all (fun t => P.readableRec t && decide (t < P.types.size)) = true := by kernel_rfl
theorem k20 : (c.ifacesOut == fn.resultTypes.toList.any (P.ifacesRec ·)) = true := by kernel_rfl
theorem k21 : (c.loopsOut == fn.resultTypes.toList.any (P.loopsFrom ·)) = true := by kernel_rfl
theorem k22 : (c.plainKeys == P.plainKeys) = true := by kernel_rfl
theorem k23 : c.shortTexts.isNone = true := by kernel_rfl
theorem k23b : P.stopsHeard = true := by kernel_rfl
theorem k24 : P.mayEnter = true := by kernel_rfl
theorem k24b : (c.lifted == P.liftsFinal) = true := by kernel_rfl
theorem k24c : (P.make == some c.make) = true := by kernel_rfl
theorem k25 : (c.kinds == (if c.domain.isEmpty then [] else fn.params.toList.map fun t => match P.underlying t with | some (.int k) => some k | _ => none)) = true := by kernel_rfl
theorem k26 : (c.pinned == c.pinnedBy) = true := by kernel_rfl
theorem k27 : (c.veiled == (fn.params.toList ++ s.plain.varTypes P ++ fn.resultTypes.toList).any (P.veiledRec ·)) = true := by kernel_rfl
theorem k28 : c.veiledFits P fn.params.toList (fn.params.toList ++ s.plain.varTypes P ++ fn.resultTypes.toList) = true := by kernel_rfl
theorem andI {a b : Bool} (ha : a = true) (hb : b = true) : (a && b) = true := by rw [ha, hb]; rfl
theorem closed : joinedFacts P 4 fn (OpenSpec.ofChange s).bare c = true := (andI (andI (andI (andI (andI (andI (andI (andI (andI (andI (andI (andI (andI (andI (andI (andI (andI (andI (andI (andI (andI (andI (andI (andI (andI (andI (andI (andI (andI (andI (andI k1 k2) k3) k4) k5) k6) k7) k8) k9) k10) k11) k12) k13) k14) k15) k16) k17) k17b) k18) k19) k20) k21) k22) k23) k23b) k24) k24b) k24c) k25) k26) k27) k28)
end Facts4
end Go.Proofs.YtpmggjplfcjkkaaGreatDoor
