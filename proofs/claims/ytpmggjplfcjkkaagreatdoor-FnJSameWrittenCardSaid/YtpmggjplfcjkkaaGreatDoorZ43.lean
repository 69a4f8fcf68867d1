/- FnJSameWritten's card: for every text and number the law FnJSameWritten returns true, and the texts read as before; the listed package-level variables hold what the program's text lays. -/
import Derived.Test.YtpmggjplfcjkkaaGreatDoorZ40
import Derived.Test.YtpmggjplfcjkkaaGreatDoorZ34
import Derived.Test.YtpmggjplfcjkkaaGreatDoorZ42
set_option linter.unusedVariables false
set_option linter.unusedSimpArgs false
set_option maxRecDepth 100000
namespace Go.Proofs.YtpmggjplfcjkkaaGreatDoor
open Go.ChangeShapes Go.WideShapes Go.ChangeAt Go.RowKit

theorem reads4 (os : Os) {H : Type} (enc : TypeId × Value → H) : ∃ places, DataW.whole enc Tryz.prog ((laidWorld os).forCall (fun _ _ => 0) ⟨#[], #[.string ⟨#[]⟩, .int .i64 0], []⟩).memory Tryz.f4.params.toList Rows.fnJSameWrittenSpec.vars false #[Value.string ⟨#[]⟩, Value.int .i64 0].toList 8 = some ([.lit (.string []), .lit (.int .i64 0)], [tok enc (errAt 1), tok enc (errAt 2), .lit (.int .i64 40), .lit (.int .i64 40), .lit (.int .i64 12), .lit (.int .i64 80)], places) :=
  ⟨[.cell 2 0, .cell 3 0, .cell 8 0, .cell 1 0, .cell 6 0, .cell 7 0], by kernel_rfl⟩
theorem lifted4 (os : Os) (started : os.Started) (H : Type) (enc : TypeId × Value → H) (F : Stop.Interp) :
    ReturnsInHanded {} Tryz.checked os 4 .any ((OpenSpec.ofChange Rows.fnJSameWrittenSpec).preRow enc Tryz.prog Tryz.f4 Rows.fnJSameWrittenRow.domain false Rows.fnJSameWrittenRow.laid) (((OpenSpec.ofChange Rows.fnJSameWrittenSpec).at F).post enc Tryz.prog Tryz.f4 false true false false) := by
  obtain ⟨places, hx⟩ := reads4 os enc
  refine returnsInHanded_of_row (C := Tryz.checked) (s := OpenSpec.ofChange Rows.fnJSameWrittenSpec) own started (by kernel_rfl) Tryz.func4
    (witness_row_at (enc := enc) (C := Tryz.checked) false (laidWorld os) #[.string ⟨#[]⟩, .int .i64 0] rfl (by kernel_rfl) (by kernel_rfl) (by kernel_rfl)
      (OpenSpec.preRow_of_cond 8 hx (by kernel_rfl) (fun k hk => by cases hk) (by kernel_rfl) (laid_metH os _))) ?_
  intro W base args ds gs before hval hW _ _ _ hL hsh _
  exact contract4 H enc W base args ds gs before hval hW hL hsh
theorem said4 : Rows.FnJSameWrittenSaid :=
  OpenClaim.holds_of_cond 4 Tryz.f4 rfl rfl rfl rfl rfl rfl rfl ⟨rfl, rfl, rfl, rfl, rfl⟩ rfl rfl rfl rfl rfl Facts4.named Tryz.func4 Facts4.closed Facts4.inst Facts4.wrap
    (fun os started H enc _ F => by rw [OpenClaim.pre_eq_preRow]; exact lifted4 os started H enc F)
theorem plain4 (f : FuncId) (fn : Func) (hf : Tryz.pinned.checked.prog.funcNamed "given.example/pub-querent/laws.FnJSameWritten" = some f) (hfn : Tryz.pinned.checked.prog.funcs[f]? = some fn) :
    true = Tryz.pinned.checked.prog.looks [] ∧ ∀ (j : Nat) t, fn.params[j]? = some t → Tryz.pinned.checked.prog.wantsStandIn t = false := by
  obtain rfl : f = 4 := Option.some.inj (Facts4.fname.symm.trans hf) |>.symm
  obtain rfl : fn = Tryz.f4 := (Option.some.inj (Tryz.func4.symm.trans hfn)).symm
  refine ⟨Facts4.looks.symm, fun j t ht => ?_⟩
  rw [Tryz.params4] at ht
  have h2 : t = 9 ∨ t = 3 := by
    have := Array.mem_of_getElem? ht
    simpa using this
  rcases h2 with rfl | rfl
  · exact Facts4.stand
  · exact Facts4.stand3
/-- FnJSameWritten's card. -/
theorem fnJSameWritten_holds : Rows.FnJSameWrittenCardSaid :=
  Claim7.holds_tied_plain_at .later [] _ _ _ _ said4 (fun _ h => by cases h) (by kernel_rfl) (fun _ h => by cases h) fnJSameWritten_row_tie rfl ⟨rfl, rfl⟩ (by kernel_rfl) rfl plain4 (by kernel_rfl)
#print axioms fnJSameWritten_holds
end Go.Proofs.YtpmggjplfcjkkaaGreatDoor
