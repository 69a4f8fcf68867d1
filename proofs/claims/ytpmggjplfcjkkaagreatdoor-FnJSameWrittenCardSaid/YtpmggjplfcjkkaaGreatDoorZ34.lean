/- FnJMultiple: the row and its card: for every two texts the law returns true (the listed variables as the program's text lays them). -/
import Derived.Test.YtpmggjplfcjkkaaGreatDoorCards
import Derived.Test.YtpmggjplfcjkkaaGreatDoorTie
import Derived.Test.YtpmggjplfcjkkaaGreatDoorZ32
import Derived.Test.YtpmggjplfcjkkaaGreatDoorZ33
set_option linter.unusedVariables false
set_option linter.unusedSimpArgs false
set_option maxRecDepth 100000
namespace Go.Proofs.YtpmggjplfcjkkaaGreatDoor
open Go.ChangeShapes Go.WideShapes Go.ChangeAt Go.RowKit
open Go.ChangeMaps (open_string shut_string)

theorem wo_of {W : World} (hL : laidMetH Tryz.prog laidL W) (hsh : W.ShapedOpen Tryz.prog) : Wo W := by
  obtain ⟨h1, h6, h7, h8, h0⟩ := laid_facts hL
  exact ⟨⟨globals_there hsh, h1, h6, h7, h8⟩, h0⟩
abbrev vars6 : List String := ["given.example/pub-querent/pub/bigall.errInvalSep", "given.example/pub-querent/pub/bigall.errNoDigits", "given.example/pub-querent/pub/bigall.divRecursiveThreshold", "given.example/pub-querent/pub/bigall.karatsubaThreshold", "given.example/pub-querent/pub/bigall.basicSqrThreshold", "given.example/pub-querent/pub/bigall.karatsubaSqrThreshold"]
theorem rowed6 : varsRowed Tryz.prog vars6 = true := by kernel_rfl
theorem six {H : Type} {P : Program} {enc : TypeId × Value → H} {w : World} {sp : Nat → Bool} {gs : List (DataW H)} {ps : List MemPlace} (h : DataW.TrodVars enc P w sp vars6 gs ps) : ∃ a b c d e f, gs = [a, b, c, d, e, f] := by
  match gs, h with
  | [a, b, c, d, e, f], _ => exact ⟨a, b, c, d, e, f, rfl⟩
  | [], h => exact h.elim
  | [_], h => obtain ⟨_, _, _, _, _, _, _, _, _, _, h, _⟩ := h; exact h.elim
  | [_, _], h => obtain ⟨_, _, _, _, _, _, _, _, _, _, ⟨_, _, _, _, _, _, _, _, _, _, h, _⟩, _⟩ := h; exact h.elim
  | [_, _, _], h => obtain ⟨_, _, _, _, _, _, _, _, _, _, ⟨_, _, _, _, _, _, _, _, _, _, ⟨_, _, _, _, _, _, _, _, _, _, h, _⟩, _⟩, _⟩ := h; exact h.elim
  | [_, _, _, _], h => obtain ⟨_, _, _, _, _, _, _, _, _, _, ⟨_, _, _, _, _, _, _, _, _, _, ⟨_, _, _, _, _, _, _, _, _, _, ⟨_, _, _, _, _, _, _, _, _, _, h, _⟩, _⟩, _⟩, _⟩ := h; exact h.elim
  | [_, _, _, _, _], h => obtain ⟨_, _, _, _, _, _, _, _, _, _, ⟨_, _, _, _, _, _, _, _, _, _, ⟨_, _, _, _, _, _, _, _, _, _, ⟨_, _, _, _, _, _, _, _, _, _, ⟨_, _, _, _, _, _, _, _, _, _, h, _⟩, _⟩, _⟩, _⟩, _⟩ := h; exact h.elim
  | _ :: _ :: _ :: _ :: _ :: _ :: _ :: _, h => obtain ⟨_, _, _, _, _, _, _, _, _, _, ⟨_, _, _, _, _, _, _, _, _, _, ⟨_, _, _, _, _, _, _, _, _, _, ⟨_, _, _, _, _, _, _, _, _, _, ⟨_, _, _, _, _, _, _, _, _, _, ⟨_, _, _, _, _, _, _, _, _, _, h, _⟩, _⟩, _⟩, _⟩, _⟩, _⟩ := h; exact h.elim

/-- What the walk gives, for every two texts and every world that holds the listed variables. -/
theorem contract3 (H : Type) (enc : TypeId × Value → H) (W : World) (base : Nat) (args : Array Value) (ds gs : List (DataW H)) (before : List MemPlace)
    (hval : ∀ (j : Nat) t v, Tryz.f3.params[j]? = some t → args[j]? = some v → Value.okWide Tryz.prog W .any base t v)
    (hW : DataW.Whole enc Tryz.prog Tryz.f3.params.toList Rows.fnJMultipleSpec.vars false W args.toList ds gs before) (hL : laidMetH Tryz.prog laidL W) (hsh : W.ShapedOpen Tryz.prog) :
    Calls Tryz.prog 3 args W fun e W' => ∃ v, e = .returned v ∧ Rows.fnJMultipleSpec.post enc Tryz.prog Tryz.f3 false true false false W args v W' := by
  have hW' := hW
  obtain ⟨p, q, hA0, hV0, rfl, hfz, hnd⟩ := hW
  have hA : DataW.TrodAll enc Tryz.prog W 0 (fun _ => true) true Tryz.f3.params.toList args.toList ds p := hA0
  have hV : DataW.TrodVars enc Tryz.prog W (fun _ => true) vars6 gs q := hV0
  rw [Tryz.params3] at hA hval
  obtain ⟨v0, v1, d0, d1, p0, p1, rfl, rfl, rfl, h0, h1⟩ := trodAll_two hA
  obtain ⟨A, rfl, rfl, rfl, wA⟩ := open_string Tryz.underlying9 (hval 0 9 v0 rfl rfl) h0
  obtain ⟨B, rfl, rfl, rfl, wB⟩ := open_string Tryz.underlying9 (hval 1 9 v1 rfl rfl) h1
  obtain ⟨a, b, c, d, e, f, rfl⟩ := six hV
  clear hA0 hV0
  refine (law3 (A := A) (B := B) (w := W) (by unfold maxLen at wA; omega) (by unfold maxLen at wB; omega) (wo_of hL hsh)).mono ?_
  rintro e' W' ⟨rfl, hf⟩
  have hb := hf.below
  exact ⟨_, rfl, _, _, _, [], [], q, hW', trodAll_mk1 (shut_bool Tryz.underlying4 _), trodAll_mk2 (shut_string Tryz.underlying9 wA) (shut_string Tryz.underlying9 wB), hb.trodVars laidOut rowed6 hV, hb.frame _, fun h => by cases h⟩
end Go.Proofs.YtpmggjplfcjkkaaGreatDoor

/- A world that holds the listed variables (for the witness of both rows). -/
set_option linter.unusedVariables false
set_option linter.unusedSimpArgs false
set_option maxRecDepth 100000
namespace Go.Proofs.YtpmggjplfcjkkaaGreatDoor
open Go.ChangeShapes Go.WideShapes Go.ChangeAt Go.RowKit

def layAt (g : Nat) (cs : Array Value) (h : Array Obj) : Array Obj := h.modify g fun
  | .cells _ t fr => .cells cs t fr
  | o => o
abbrev sEof : ByteArray := ⟨#[69, 79, 70]⟩
abbrev sSep : ByteArray := ⟨#[39, 95, 39, 32, 109, 117, 115, 116, 32, 115, 101, 112, 97, 114, 97, 116, 101, 32, 115, 117, 99, 99, 101, 115, 115, 105, 118, 101, 32, 100, 105, 103, 105, 116, 115]⟩
abbrev sDig : ByteArray := ⟨#[110, 117, 109, 98, 101, 114, 32, 104, 97, 115, 32, 110, 111, 32, 100, 105, 103, 105, 116, 115]⟩
abbrev sSyn : ByteArray := ⟨#[105, 110, 118, 97, 108, 105, 100, 32, 115, 121, 110, 116, 97, 120]⟩
abbrev sRng : ByteArray := ⟨#[118, 97, 108, 117, 101, 32, 111, 117, 116, 32, 111, 102, 32, 114, 97, 110, 103, 101]⟩
def tab32 : Array Value := (#[0, 1, 28, 2, 29, 14, 24, 3, 30, 22, 20, 15, 25, 17, 4, 8, 31, 27, 13, 23, 21, 19, 16, 7, 26, 12, 18, 6, 11, 5, 10, 9] : Array Int).map (Value.int .u8)
def tab64 : Array Value := (#[0, 1, 56, 2, 57, 49, 28, 3, 61, 58, 42, 50, 38, 29, 17, 4, 62, 47, 59, 36, 45, 43, 51, 22, 53, 39, 33, 30, 24, 18, 12, 5, 63, 55, 48, 27, 60, 41, 37, 16, 46, 35, 44, 21, 52, 32, 23, 11, 54, 26, 40, 15, 34, 20, 31, 10, 25, 14, 19, 9, 13, 8, 7, 6] : Array Int).map (Value.int .u8)
def tabPow : Array Value := (#[1, 10, 100, 1000, 10000, 100000, 1000000, 10000000, 100000000, 1000000000, 10000000000, 100000000000, 1000000000000, 10000000000000, 100000000000000, 1000000000000000, 10000000000000000, 100000000000000000, 1000000000000000000, 10000000000000000000] : Array Int).map (Value.int .u64)
noncomputable def low : Nat := (World.holding Tryz.prog default ⟨#[], #[], []⟩).heap.size
noncomputable def errAt (k : Nat) : Value := .iface 418 (.pointer (some ⟨low + k, 0, none⟩))
noncomputable def laidWorld (os : Os) : World :=
  let w0 := World.holding Tryz.prog os ⟨#[.cells #[.string sEof] 420, .cells #[.string sSep] 420, .cells #[.string sDig] 420, .cells #[.string sSyn] 420, .cells #[.string sRng] 420], #[], []⟩
  { w0 with heap := layAt 0 #[errAt 0] (layAt 2 #[errAt 1] (layAt 3 #[errAt 2] (layAt 11 #[errAt 3] (layAt 12 #[errAt 4] (layAt 1 #[.int .i64 40] (layAt 6 #[.int .i64 12] (layAt 7 #[.int .i64 80] (layAt 8 #[.int .i64 40] (layAt 4 tabPow (layAt 9 tab32 (layAt 10 tab64 w0.heap))))))))))) }
theorem laid_met (os : Os) (av : Array Value) : laidMet Tryz.prog laidL ((laidWorld os).forCall (fun _ _ => 0) ⟨#[], av, []⟩).memory :=
  laidMet_of_run' 8 (by kernel_rfl) (by kernel_rfl)
theorem laid_metH (os : Os) (av : Array Value) : laidMetH Tryz.prog laidL ((laidWorld os).forCall (fun _ _ => 0) ⟨#[], av, []⟩).memory := by
  rw [MakeChecks.laidMetH_plain _ _ _ (by rfl)]
  exact laid_met os av
end Go.Proofs.YtpmggjplfcjkkaaGreatDoor
