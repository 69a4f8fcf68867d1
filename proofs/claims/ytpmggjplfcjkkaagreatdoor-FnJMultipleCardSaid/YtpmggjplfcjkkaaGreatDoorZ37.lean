/- FnJMultiple's card: for every two texts the law FnJMultiple returns true, and the texts read as before; the listed package-level variables hold what the program's text lays. -/
import Derived.Test.YtpmggjplfcjkkaaGreatDoorZ34
import Derived.Test.YtpmggjplfcjkkaaGreatDoorZ36
set_option linter.unusedVariables false
set_option linter.unusedSimpArgs false
set_option maxRecDepth 100000
namespace Go.Proofs.YtpmggjplfcjkkaaGreatDoor
open Go.ChangeShapes Go.WideShapes Go.ChangeAt Go.RowKit

theorem reads3 (os : Os) {H : Type} (enc : TypeId × Value → H) : ∃ places, DataW.whole enc Tryz.prog ((laidWorld os).forCall (fun _ _ => 0) ⟨#[], #[.string ⟨#[]⟩, .string ⟨#[]⟩], []⟩).memory Tryz.f3.params.toList Rows.fnJMultipleSpec.vars false #[Value.string ⟨#[]⟩, Value.string ⟨#[]⟩].toList 8 = some ([.lit (.string []), .lit (.string [])], [tok enc (errAt 1), tok enc (errAt 2), .lit (.int .i64 40), .lit (.int .i64 40), .lit (.int .i64 12), .lit (.int .i64 80)], places) :=
  ⟨[.cell 2 0, .cell 3 0, .cell 8 0, .cell 1 0, .cell 6 0, .cell 7 0], by kernel_rfl⟩
theorem lifted3 (os : Os) (started : os.Started) (H : Type) (enc : TypeId × Value → H) (F : Stop.Interp) :
    ReturnsInHanded {} Tryz.checked os 3 .any ((OpenSpec.ofChange Rows.fnJMultipleSpec).preRow enc Tryz.prog Tryz.f3 Rows.fnJMultipleRow.domain false Rows.fnJMultipleRow.laid) (((OpenSpec.ofChange Rows.fnJMultipleSpec).at F).post enc Tryz.prog Tryz.f3 false true false false) := by
  obtain ⟨places, hx⟩ := reads3 os enc
  refine returnsInHanded_of_row (C := Tryz.checked) (s := OpenSpec.ofChange Rows.fnJMultipleSpec) own started (by kernel_rfl) Tryz.func3
    (witness_row_at (enc := enc) (C := Tryz.checked) false (laidWorld os) #[.string ⟨#[]⟩, .string ⟨#[]⟩] rfl (by kernel_rfl) (by kernel_rfl) (by kernel_rfl)
      (OpenSpec.preRow_of_cond 8 hx (by kernel_rfl) (fun k hk => by cases hk) (by kernel_rfl) (laid_metH os _))) ?_
  intro W base args ds gs before hval hW _ _ _ hL hsh _
  exact contract3 H enc W base args ds gs before hval hW hL hsh
theorem said3 : Rows.FnJMultipleSaid :=
  OpenClaim.holds_of_cond 3 Tryz.f3 rfl rfl rfl rfl rfl rfl rfl ⟨rfl, rfl, rfl, rfl, rfl⟩ rfl rfl rfl rfl rfl Facts3.named Tryz.func3 Facts3.closed Facts3.inst Facts3.wrap
    (fun os started H enc _ F => by rw [OpenClaim.pre_eq_preRow]; exact lifted3 os started H enc F)
theorem plain3 (f : FuncId) (fn : Func) (hf : Tryz.pinned.checked.prog.funcNamed "given.example/pub-querent/laws.FnJMultiple" = some f) (hfn : Tryz.pinned.checked.prog.funcs[f]? = some fn) :
    true = Tryz.pinned.checked.prog.looks [] ∧ ∀ (j : Nat) t, fn.params[j]? = some t → Tryz.pinned.checked.prog.wantsStandIn t = false := by
  obtain rfl : f = 3 := Option.some.inj (Facts3.fname.symm.trans hf) |>.symm
  obtain rfl : fn = Tryz.f3 := (Option.some.inj (Tryz.func3.symm.trans hfn)).symm
  refine ⟨Facts3.looks.symm, fun j t ht => ?_⟩
  rw [Tryz.params3] at ht
  obtain rfl : t = 9 := by
    have := Array.mem_of_getElem? ht
    simpa using this
  exact Facts3.stand
/-- FnJMultiple's card. -/
theorem fnJMultiple_holds : Rows.FnJMultipleCardSaid :=
  Claim7.holds_tied_plain_at .later [] _ _ _ _ said3 (fun _ h => by cases h) (by kernel_rfl) (fun _ h => by cases h) fnJMultiple_row_tie rfl ⟨rfl, rfl⟩ (by kernel_rfl) rfl plain3 (by kernel_rfl)
#print axioms fnJMultiple_holds
end Go.Proofs.YtpmggjplfcjkkaaGreatDoor
