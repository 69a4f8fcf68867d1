/- Rat.Quo, whole. -/
import Derived.Test.YtpmggjplfcjkkaaGreatDoorZ18
import Derived.Test.YtpmggjplfcjkkaaGreatDoorZ19
set_option linter.unusedVariables false
set_option linter.unusedSimpArgs false
namespace Go.Proofs.YtpmggjplfcjkkaaGreatDoor
open Go.RowKit Nq

theorem normOk {zb N D : Nat} (hD : 0 < D) (lN : N < Bw ^ 39) (lD : D < Bw ^ 39) (h14 : 14 ≤ zb) : NormOk zb N D := by
  intro w3 ao bo sg nb hr hT ha hb
  by_cases h0 : N = 0
  · subst h0
    rw [Nat.gcd_zero_left, Nat.zero_div, Nat.div_self hD]
    exact ⟨false, norm_zero hr⟩
  · exact ⟨sg, norm_main hr (by omega) hD lN lD ha hb h14 hT⟩
/-- Rat.Quo: the quotient, trimmed. -/
theorem ratQuo {zb xb yb : Nat} {va v1 v2 : Value} {nb : Bool} {xao xbo yao ybo : Option Nat} {xna xnb yna ynb : Bool} {xn xd yn yd : Nat} {w : World} (hz : Cells w zb #[va, v1, .bool nb, v2] 101) (hx : RatIs w xb xao xbo xna xnb xn xd) (hy : RatIs w yb yao ybo yna ynb yn yd)
    (xd0 : 0 < xd) (yd0 : 0 < yd) (yn0 : 0 < yn) (lxn : xn < Bw ^ 39) (lxd : xd < Bw ^ 39) (lyn : yn < Bw ^ 39) (lyd : yd < Bw ^ 39) (lN : xn * yd < Bw ^ 39) (lD : yn * xd < Bw ^ 39) (h14 : 14 ≤ zb) (hT : Th w) :
    Calls Tryz.prog 137 #[.pointer (some ⟨zb, 0, none⟩), .pointer (some ⟨xb, 0, none⟩), .pointer (some ⟨yb, 0, none⟩)] w (QuoPost w zb (xn * yd) (yn * xd)) :=
  quo_walk hz hx hy xd0 yd0 yn0 lxn lxd lyn lyd h14 hT (normOk (Nat.mul_pos yn0 xd0) lN lD h14)
end Go.Proofs.YtpmggjplfcjkkaaGreatDoor
