/- impl.JMultiple. -/
import Derived.Test.YtpmggjplfcjkkaaGreatDoorZ31
import Derived.Test.YtpmggjplfcjkkaaGreatDoorZ03
import Derived.Test.YtpmggjplfcjkkaaGreatDoorZ25
set_option linter.unusedVariables false
set_option linter.unusedSimpArgs false
namespace Go.Proofs.YtpmggjplfcjkkaaGreatDoor
open Go.RowKit Nq
theorem wp_build67 {o : Oper} {a : Act} {w : World} {K : Act → World → Prop} {Q : Exit → Act → World → Prop} (i : Nat) (x : Operand) (ho : o.op = Op.build 67 #[(6, .const (.int .i64 2020)), (i, x)]) {v : Value} {C : Array Value} (hx : a.eval x = v)
    (hr : (Instr.build 67 #[(6, .int .i64 2020), (i, v)]).run Tryz.prog w = .ok (.agg C) w) (h : K (a.put o.dst (.agg C)) w) : o.wp Tryz.prog a w K Q := by
  have hr' : (execOp a.eval o).run Tryz.prog w = .ok (.value (.agg C)) w := by
    unfold execOp
    simp only [ho]
    simp only [List.map_toArray, List.map_cons, List.map_nil, hx]
    have hc : a.eval (.const (.int .i64 2020)) = .int .i64 2020 := rfl
    rw [hc]
    simp [hr]
  unfold Oper.wp
  rw [hr']
  exact h

theorem as328 (w : World) (v : Value) : (Instr.typeAssert (.iface 328 v) 77 128 true).run Tryz.prog w = .ok (.tuple #[.pointer none, .bool false]) w := by kernel_rfl
set_option exponentiation.threshold 1000 in
theorem ten200 {a b : Nat} (ha : a ≤ 10 ^ 200) (hb : b ≤ 10 ^ 200) : a < Bw ^ 39 ∧ a * b < Bw ^ 39 := by
  have h3 : 10 ^ 700 < Bw ^ 39 := by rw [Bw_eq]; decide +kernel
  have h4 : a * b ≤ 10 ^ 200 * 10 ^ 200 := Nat.mul_le_mul ha hb
  have h6 : (10 : Nat) ^ 200 * 10 ^ 200 ≤ 10 ^ 700 := by decide +kernel
  have h7 : (10 : Nat) ^ 200 ≤ 10 ^ 700 := by decide +kernel
  generalize Bw ^ 39 = X at *
  generalize (10 : Nat) ^ 700 = T at *
  generalize (10 : Nat) ^ 200 * 10 ^ 200 = U at *
  generalize (10 : Nat) ^ 200 = V at *
  generalize a * b = Y at *
  exact ⟨by omega, by omega⟩
theorem NumT.rat_le {S : ByteArray} {neg : Bool} {I F : List Nat} {dot : Bool} {ex : Int} (N : NumT S neg I F dot ex) : rn (dval (I ++ F)) (ex - F.length) ≤ 10 ^ 200 ∧ rd (dval (I ++ F)) (ex - F.length) ≤ 10 ^ 200 := by
  have hMl : dval (I ++ F) ≤ 10 ^ 100 := Nat.le_of_lt (Nat.lt_of_lt_of_le (dval_lt N.txt.dig) (Nat.pow_le_pow_right (by decide) (by simpa using N.len)))
  have hex := N.exl
  have hF := N.len
  refine ⟨Nat.le_trans (rn_le _ _) ?_, Nat.le_trans (rd_le _ _) (Nat.pow_le_pow_right (by decide) (by omega))⟩
  refine Nat.le_trans (Nat.mul_le_mul hMl (Nat.pow_le_pow_right (by decide) (by omega : (ex - (F.length : Int)).toNat ≤ 100))) ?_
  rw [← Nat.pow_add]
  exact Nat.le_refl _

/-- What one of the thin package's functions on numbers hands back. -/
def BoolsPost (w : World) (ok : Bool) (e : Ending) (w' : World) : Prop := e = .returned (.tuple #[.bool ok, .bool true]) ∧ Fr [] w w'
set_option maxRecDepth 100000 in
set_option maxHeartbeats 4000000 in
theorem implMultiple {A B : ByteArray} {nega negb : Bool} {IA FA IB FB : List Nat} {dota dotb : Bool} {exa exb : Int} {w : World} (NA : NumT A nega IA FA dota exa) (NB : NumT B negb IB FB dotb exb) (h0 : dval (IB ++ FB) ≠ 0) (hw : Wo w) :
    Calls Tryz.prog 7 #[.string A, .string B] w (BoolsPost w (decide (rn (dval (IB ++ FB)) (exb - FB.length) * rd (dval (IA ++ FA)) (exa - FA.length) ∣ rn (dval (IA ++ FA)) (exa - FA.length) * rd (dval (IB ++ FB)) (exb - FB.length)))) := by
  have ba := NA.rat_le
  have bb := NB.rat_le
  have hyn : 0 < rn (dval (IB ++ FB)) (exb - FB.length) := rn_pos (by omega)
  have hyd := rd_pos (dval (IB ++ FB)) (exb - FB.length)
  have hxd := rd_pos (dval (IA ++ FA)) (exa - FA.length)
  have hA := wholeRat NA hw
  have HB : Hid (∀ w1, Fr [] w w1 → Calls Tryz.prog 17 #[.string B] w1 (RatPost w1 (negb && dval (IB ++ FB) != 0) (rn (dval (IB ++ FB)) (exb - FB.length)) (rd (dval (IB ++ FB)) (exb - FB.length)))) := Lib.hid fun w1 f => wholeRat NB (hw.fr0 f)
  obtain ⟨xn, hxn⟩ : ∃ n, n = rn (dval (IA ++ FA)) (exa - FA.length) := ⟨_, rfl⟩
  obtain ⟨xd, hxdd⟩ : ∃ n, n = rd (dval (IA ++ FA)) (exa - FA.length) := ⟨_, rfl⟩
  have hdv : decide (rn (dval (IB ++ FB)) (exb - FB.length) * rd (dval (IA ++ FA)) (exa - FA.length) ∣ rn (dval (IA ++ FA)) (exa - FA.length) * rd (dval (IB ++ FB)) (exb - FB.length)) = decide (rn (dval (IB ++ FB)) (exb - FB.length) * xd / Nat.gcd (xn * rd (dval (IB ++ FB)) (exb - FB.length)) (rn (dval (IB ++ FB)) (exb - FB.length) * xd) = 1) := by
    rw [hxn, hxdd, decide_eq_decide]
    exact (whole_iff (Nat.mul_pos hyn hxd)).symm
  rw [hdv]
  rw [← hxn, ← hxdd] at ba hA
  rw [← hxdd] at hxd
  generalize rn (dval (IB ++ FB)) (exb - FB.length) = yn at *
  generalize rd (dval (IB ++ FB)) (exb - FB.length) = yd at *
  generalize (negb && dval (IB ++ FB) != 0) = ng at *
  -- the schema, then Validate
  have HV : Hid (∀ w2 yb, Fr [] w w2 → (∃ ao bo nb, RatIs w2 yb ao bo ng nb yn yd) → Calls Tryz.prog 19 #[.pointer (some ⟨w2.heap.size, 0, none⟩), .iface 44 (.string A)] (w2.alloc (.cells (schC (.pointer none) (.pointer (some ⟨yb, 0, none⟩))) 67)) (SchPost (w2.alloc (.cells (schC (.pointer none) (.pointer (some ⟨yb, 0, none⟩))) 67)) (decide (yn * xd / Nat.gcd (xn * yd) (yn * xd) = 1)))) := by
    refine Lib.hid fun w2 yb hf hy => schemaValidate ?_
    obtain ⟨ao, bo, nb, hy⟩ := hy
    have hs : Sch (w2.alloc (.cells (schC (.pointer none) (.pointer (some ⟨yb, 0, none⟩))) 67)) w2.heap.size none (some ⟨yb, 0, none⟩) := Cells.new w2 _ _
    have fa : Fr [] w2 (w2.alloc (.cells (schC (.pointer none) (.pointer (some ⟨yb, 0, none⟩))) 67)) := (Fr.refl _ _).alloc _
    refine schValidate (kt := 328) (Cells.lt hs) as328 (Cells.cell hs 8 rfl) fun w3 vb scb ub lb hv h3 hb => ?_
    have hs3 := hs.fr h3 (by simp)
    have hn := numValidate_mult NA (hw.fr0 ((hf.trans fa).trans h3)) hv hs3 ((hy.fr fa (by simp) (by simp) (by simp)).fr h3 (by simp) (by simp) (by simp)) hxn hxdd hxd hyd hyn (ten200 ba.1 ba.1).1 (ten200 ba.2 ba.1).1 (ten200 bb.1 ba.1).1 (ten200 bb.2 ba.1).1 (ten200 ba.1 bb.2).2 (ten200 bb.1 ba.2).2
    generalize decide (yn * xd / Nat.gcd (xn * yd) (yn * xd) = 1) = ok at *
    cases ok with
    | true => exact vdMult_ok hv hs3 hn
    | false => exact vdMult_bad hv hs3 hn
  have HS : Hid (∀ w2 yb ao bo nb, RatIs w2 yb ao bo ng nb yn yd → ∃ s : Int, (s == 0) = false ∧ Calls Tryz.prog 18 #[.pointer (some ⟨yb, 0, none⟩)] w2 fun e w' => e = .returned (.int .i64 s) ∧ w2 = w') := by
    refine Lib.hid fun w2 yb ao bo nb hy => ⟨if yn = 0 then 0 else if ng then -1 else 1, ?_, (ratSign hy).mono fun e w' hh => ⟨hh.1, hh.2.symm⟩⟩
    rw [if_neg (by omega)]
    cases ng <;> rfl
  have HF : Hid (∀ (w2 w3 : World) o, Fr [] w w2 → Fr [] (w2.alloc o) w3 → Fr [] w w3) := Lib.hid fun w2 w3 o f g => (f.trans ((Fr.refl _ _).alloc _)).trans g
  generalize decide (yn * xd / Nat.gcd (xn * yd) (yn * xd) = 1) = ok at *
  clear NA NB h0 hw ba bb hyn hyd hxd hxn hxdd hdv
  go_enter Tryz.func7, Tryz.ntmps7
  go_upto_region 2 with (first | (go_at_call 17; (with_reducible refine hA.mono ?_); rintro e w1 ⟨xb, rfl, hx⟩; have hB := HB.out w1 hx.fr; have HX := Lib.hid hx; clear hx hA) | (go_at_call 17; (with_reducible refine hB.mono ?_); rintro e w2 ⟨yb, rfl, hy⟩; have HYY := Lib.hid hy; clear hy hB))
  obtain ⟨ao, bo, nb, hy, -, -⟩ := HYY.out.is
  obtain ⟨s, hs0, h18⟩ := HS.out w2 yb ao bo nb hy
  have f2 := HX.out.fr.trans HYY.out.fr
  have h19 := HV.out w2 yb f2 ⟨ao, bo, nb, hy⟩
  have HF2 := Lib.hid f2
  clear hy f2 HB HV HS HX HYY
  go_wp2_with (first | (go_at_call 18; (with_reducible refine h18.mono ?_); rintro e w3 ⟨rfl, rfl⟩) | (go_at_call 19; (with_reducible refine h19.mono ?_); rintro e w3 hp; have HP := Lib.hid hp; clear hp))
  refine wp_build67 56 (.tmp 24) rfl rfl (build_mult _ _) ?_
  cases ok with
  | true =>
    have h19' : Calls Tryz.prog 19 #[.pointer (some ⟨w2.heap.size, 0, none⟩), .iface 44 (.string A)] (w2.alloc (.cells (schC (.pointer none) (.pointer (some ⟨yb, 0, none⟩))) 67)) fun e w' => e = .returned .nilIface ∧ Hid (Fr [] w w') :=
      h19.mono fun e w' hp => ⟨by have := hp.1; rwa [if_pos rfl] at this, Lib.hid (HF.out _ _ _ HF2.out hp.2)⟩
    clear h19 h18
    go_wp2_with (go_at_call 19; (with_reducible refine h19'.mono ?_); rintro e w3 ⟨rfl, HP⟩)
    go_ret2
    exact ⟨rfl, HP.out⟩
  | false =>
    have h19' : Calls Tryz.prog 19 #[.pointer (some ⟨w2.heap.size, 0, none⟩), .iface 44 (.string A)] (w2.alloc (.cells (schC (.pointer none) (.pointer (some ⟨yb, 0, none⟩))) 67)) fun e w' => ∃ p, e = .returned (.iface 127 (.pointer (some p))) ∧ Hid (Fr [] w w') := by
      refine h19.mono fun e w' hp => ?_
      have := hp.1
      rw [if_neg (by decide)] at this
      obtain ⟨p, hp1⟩ := this
      exact ⟨p, hp1, Lib.hid (HF.out _ _ _ HF2.out hp.2)⟩
    clear h19 h18
    go_wp2_with (go_at_call 19; (with_reducible refine h19'.mono ?_); rintro e w3 ⟨p, rfl, HP⟩)
    go_ret2
    exact ⟨rfl, HP.out⟩
end Go.Proofs.YtpmggjplfcjkkaaGreatDoor

/- laws.FnJMultiple: walk and plain law joined. -/
set_option linter.unusedVariables false
set_option linter.unusedSimpArgs false
namespace Go.Proofs.YtpmggjplfcjkkaaGreatDoor
open Go.RowKit Nq

theorem dok_of (S : ByteArray) (m : Bool) (D : ByteArray) (x : Int) (h : decF S = some (m, D, x)) : Dok m D x := by
  obtain ⟨neg, I, F, dot, ex, _, hd⟩ := decF_num h
  refine ⟨hd.bar, hd.sz, hd.x, fun hm h0 => ?_⟩
  have h1 := hd.sg
  have h2 := hd.z.2 h0
  rw [h2] at h1
  simp at h1
  rw [hm] at h1
  cases h1
theorem mult_same {M1 M2 m1 m2 : Nat} {E1 E2 e1 e2 : Int} (h1 : SameNum M1 E1 m1 e1) (h2 : SameNum M2 E2 m2 e2) : rn M2 E2 * rd M1 E1 ∣ rn M1 E1 * rd M2 E2 ↔ m2 * 10 ^ (e2 - e1).toNat ∣ m1 * 10 ^ (e1 - e2).toNat := by
  rw [h1.low.1, h1.low.2, h2.low.1, h2.low.2]
  exact mult_iff m1 e1 m2 e2
theorem impl_mult {A B : ByteArray} {m1 m2 : Bool} {D1 D2 : ByteArray} {x1 x2 : Int} (ha : decF A = some (m1, D1, x1)) (hb : decF B = some (m2, D2, x2)) (h0 : D2.size ≠ 0) {w : World} (hw : Wo w) :
    Calls Tryz.prog 7 #[.string A, .string B] w fun e w' => e = .returned (.tuple #[.bool (multB D1 x1 D2 x2), .bool true]) ∧ Fr [] w w' := by
  obtain ⟨na, IA, FA, da, ea, NA, dA⟩ := decF_num ha
  obtain ⟨nb, IB, FB, db, eb, NB, dB⟩ := decF_num hb
  have h := implMultiple NA NB (fun e => h0 (dB.z.1 e)) hw
  have hm := mult_same dA.same dB.same
  unfold multB
  rw [← decide_eq_decide.2 hm]
  exact h
/-- laws.FnJMultiple returns true. -/
theorem law3 {A B : ByteArray} {w : World} (sA : A.size ≤ 9223372036854775807) (sB : B.size ≤ 9223372036854775807) (hw : Wo w) : Calls Tryz.prog 3 #[.string A, .string B] w (LawPost w) := by
  by_cases h : 2147483647 < A.size ∨ 2147483647 < B.size
  · exact law3_long h sA sB
  · exact law3_short (by omega) (by omega) dok_of fun m1 D1 x1 m2 D2 x2 ha hb h0 w1 f => impl_mult ha hb h0 (hw.fr0 f)
end Go.Proofs.YtpmggjplfcjkkaaGreatDoor
