/- spec.JShifted (printed by gen_shifted.py). -/
import Derived.Lib.ItoaLen
import Derived.Test.YtpmggjplfcjkkaaGreatDoorZ39
import Derived.Test.YtpmggjplfcjkkaaGreatDoorZ04
import Derived.Lib.LaidTab
import Derived.Test.YtpmggjplfcjkkaaGreatDoorZ34
set_option linter.unusedVariables false
set_option linter.unusedSimpArgs false
namespace Go.Proofs.YtpmggjplfcjkkaaGreatDoor
open Go.RowKit Nq

/-- The table of powers of ten. -/
abbrev Tab (w : World) : Prop := Lib.TabIs Tryz.prog w "internal/strconv.uint64pow10" .u64 Lib.pow10Tab
theorem gPow : Tryz.prog.globalNamed "internal/strconv.uint64pow10" = some 4 := by kernel_rfl
theorem Tab.fr {w w' : World} (h : Tab w) (hf : Fr [] w w') : Tab w' := by
  unfold Tab Lib.TabIs World.var? at h ⊢
  rw [gPow] at h ⊢
  simp only [Option.bind_some] at h ⊢
  have hlt : 4 < w.heap.size := by
    cases hh : w.heap[4]? with
    | none => rw [hh] at h; cases h
    | some o => exact (Array.getElem?_eq_some_iff.1 hh).1
  rw [hf.block 4 hlt (by simp)]
  exact h
theorem fr_grow (w : World) (k : Nat) (os : Array Obj) : Fr [] w (Sort.grow (w.drewN k) os) := by
  refine ⟨rfl, rfl, rfl, ?_, fun i hi _ => ?_⟩
  · show w.heap.size ≤ (w.heap ++ os).size
    simp
  · show (w.heap ++ os)[i]? = w.heap[i]?
    rw [Array.getElem?_append_left hi]
theorem itoaC (n : Int) (h0 : -1000 ≤ n) (h1 : n ≤ 1000) (w : World) (ht : Tab w) : Calls Tryz.prog 21 #[.int .i64 n] w fun e w' => e = .returned (.string (itoaS n)) ∧ Fr [] w w' := by
  refine (Tryz.strconv_Itoa n (by omega) (by omega) w ht).mono ?_
  rintro e w' ⟨rfl, k, os, rfl⟩
  exact ⟨rfl, fr_grow w k os⟩
/-- What spec.JShifted hands back. -/
def shifted (S : ByteArray) (m : Bool) (D : ByteArray) (x z : Int) : ByteArray := if z < 0 ∨ 20 < z then S else if isDec (shiftT m D x z.toNat) = true then shiftT m D x z.toNat else S
theorem itoaS_size (n : Int) (h0 : -1000 ≤ n) (h1 : n ≤ 1000) : (itoaS n).size ≤ 21 := by
  have := Lib.itoa_length_le n (by omega) (by omega)
  simpa [itoaS, ByteArray.size] using this
theorem shift_text (m : Bool) (D : ByteArray) (x : Int) (z : Nat) : shiftT m D x z = if m then ⟨#[45]⟩ ++ (shiftB D z ++ ⟨#[101]⟩ ++ itoaS (x - z)) else shiftB D z ++ ⟨#[101]⟩ ++ itoaS (x - z) := by
  unfold shiftT
  cases m with
  | true =>
    apply ext_list
    simp only [if_true, toList_append, List.append_assoc]
  | false =>
    apply ext_list
    simp only [Bool.false_eq_true, if_false, toList_append, List.append_assoc]
    rfl

set_option maxRecDepth 100000 in
set_option maxHeartbeats 2000000 in
theorem shifted_out {S : ByteArray} {m : Bool} {D : ByteArray} {x z : Int} {w : World} (hS : S.size ≤ 2147483647) (hd : decF S = some (m, D, x)) (hz : z < 0 ∨ 20 < z) : Calls Tryz.prog 9 #[.string S, .int .i64 z] w fun e w' => e = .returned (.string (shifted S m D x z)) ∧ Fr [] w w' := by
  have HR : Hid (shifted S m D x z = S) := Lib.hid (by unfold shifted; rw [if_pos hz])
  have h15 := jDecimalOf S hS w
  rw [hd] at h15
  replace h15 : Calls Tryz.prog 15 #[.string S] w fun e w' => e = .returned (.tuple #[.agg #[.bool m, .string D, .int .i64 x], .bool true]) ∧ Fr [] w w' := h15
  have HA : Hid (∀ (w1 : World) (o : Obj), Fr [] w w1 → Fr [] w (w1.alloc o)) := Lib.hid fun w1 o h => h.alloc o
  clear hd hS
  by_cases h1 : z < 0
  · have d1 : decide (z < 0) = true := decide_eq_true h1
    clear hz
    go_enter Tryz.func9, Tryz.ntmps9
    go_wp2_with (go_at_call 15; (with_reducible refine h15.mono ?_); rintro e w1 ⟨rfl, hf⟩; have HF := Lib.hid hf; clear hf h15)
    go_ret
    exact ⟨by rw [HR.out]; rfl, HA.out _ _ HF.out⟩
  · have d1 : decide (z < 0) = false := decide_eq_false h1
    have d2 : decide (z > 20) = true := decide_eq_true (by omega)
    clear hz
    go_enter Tryz.func9, Tryz.ntmps9
    go_wp2_with (go_at_call 15; (with_reducible refine h15.mono ?_); rintro e w1 ⟨rfl, hf⟩; have HF := Lib.hid hf; clear hf h15)
    go_ret
    exact ⟨by rw [HR.out]; rfl, HA.out _ _ HF.out⟩

set_option maxRecDepth 100000 in
set_option maxHeartbeats 8000000 in
theorem shifted_in {S : ByteArray} {m : Bool} {D : ByteArray} {x : Int} {z : Nat} {w : World} (hS : S.size ≤ 2147483647) (hd : decF S = some (m, D, x)) (ok : Dok m D x) (hz : z ≤ 20) (ht : Tab w) : Calls Tryz.prog 9 #[.string S, .int .i64 (z : Int)] w fun e w' => e = .returned (.string (shifted S m D x z)) ∧ Fr [] w w' := by
  have h15 := jDecimalOf S hS w
  rw [hd] at h15
  replace h15 : Calls Tryz.prog 15 #[.string S] w fun e w' => e = .returned (.tuple #[.agg #[.bool m, .string D, .int .i64 x], .bool true]) ∧ Fr [] w w' := h15
  have hx1 := ok.x.1
  have hx2 := ok.x.2
  have hsz := ok.sz
  have HB := Lib.hid (shiftB_ok ok.bar z)
  have hJs := itoaS_size (x - (z : Int)) (by omega) (by omega)
  have H21 : Hid (∀ w1, Fr [] w w1 → Calls Tryz.prog 21 #[.int .i64 (x - (z : Int))] w1 fun e w' => e = .returned (.string (itoaS (x - (z : Int)))) ∧ Fr [] w1 w') := Lib.hid fun w1 f => itoaC _ (by omega) (by omega) w1 (ht.fr f)
  obtain ⟨R, hR⟩ : ∃ R, shifted S m D x z = R := ⟨_, rfl⟩
  have HR : Hid (R = if isDec (shiftT m D x z) = true then shiftT m D x z else S) := Lib.hid (by rw [← hR]; unfold shifted; rw [if_neg (by omega), Int.toNat_natCast])
  have HT := Lib.hid (shift_text m D x z)
  obtain ⟨J, hJ⟩ : ∃ J, itoaS (x - (z : Int)) = J := ⟨_, rfl⟩
  rw [hJ] at hJs H21 HT
  rw [hR]
  have HA : Hid (∀ (w1 : World) (o : Obj), Fr [] w w1 → Fr [] w (w1.alloc o)) := Lib.hid fun w1 o h => h.alloc o
  have HC : Hid (∀ (w1 w2 : World), Fr [] (w1.alloc (.cells #[.bool m, .string D, .int .i64 x] 38)) w2 → w2.cell? ⟨w1.heap.size, 0, none⟩ = some (.bool m)) := Lib.hid fun w1 w2 h => ((Cells.new w1 #[.bool m, .string D, .int .i64 x] 38).fr h (by simp)).cell 0 rfl
  have hdz1 : decide ((z : Int) < 0) = false := decide_eq_false (by omega)
  have hdz2 : decide ((z : Int) > 20) = false := decide_eq_false (by omega)
  clear hd hS ok ht hR hJ
  go_enter Tryz.func9, Tryz.ntmps9
  go_wp2_with (go_at_call 15; (with_reducible refine h15.mono ?_); rintro e w1 ⟨rfl, hf⟩; have HF := Lib.hid hf; clear hf h15)
  go_loop [7, 8] (fun v7 v8 => ∃ (V : ByteArray) (i : Nat), i ≤ z ∧ V.size ≤ 40 + i ∧ v7 = .string V ∧ v8 = .int .i64 i ∧ Hid (zerN (z - i) V = zerN z D)) (fun _ v8 => z - (intOf v8).toNat)
  case atStart => exact ⟨D, 0, by omega, by omega, rfl, rfl, Lib.hid (by simp)⟩
  case round =>
    obtain ⟨V, i, hi, hV, rfl, rfl, H⟩ := hrel
    by_cases hlt : i < z
    · have HN : Hid (zerN (z - (i + 1)) (V ++ ⟨#[48]⟩) = zerN z D ∧ (V ++ (⟨#[48]⟩ : ByteArray)).size ≤ 40 + (i + 1)) := Lib.hid ⟨by
        rw [← H.out, show z - i = (z - (i + 1)) + 1 by omega]; rfl, by rw [ByteArray.size_append]; show V.size + 1 ≤ _; omega⟩
      clear H
      go_wp2_with fail
      go_round
      case rel => exact ⟨V ++ ⟨#[48]⟩, i + 1, hlt, HN.out.2, rfl, by go_num, Lib.hid HN.out.1⟩
      case measure => simp [intOf]; omega
    · have hdi : decide ((i : Int) < (z : Int)) = false := decide_eq_false (by omega)
      have hdi2 : decide (i < z) = false := decide_eq_false (by omega)
      have HV : Hid (V = zerN z D) := Lib.hid (by rw [← H.out, show z - i = 0 by omega]; rfl)
      clear H
      have f2 := HA.out _ (.cells #[.bool m, .string D, .int .i64 x] 38) HF.out
      have h21 := H21.out _ f2
      have HF2 := Lib.hid f2
      clear f2 H21
      by_cases h0 : D.size = 0
      · have hE := isEmpty_of h0
        have hE' := empty_toList h0
        have HSB : Hid (shiftB D z = ⟨#[48]⟩) := Lib.hid (by unfold shiftB; rw [if_pos h0])
        clear h0
        cases m with
        | true =>
          have HTT : Hid (shiftT true D x z = (⟨#[45]⟩ ++ ((⟨#[48]⟩ : ByteArray) ++ ⟨#[101]⟩ ++ J))) := Lib.hid (by rw [HT.out, HSB.out]; rfl)
          have h14 := fun w1 => jIsDecimal (⟨#[45]⟩ ++ ((⟨#[48]⟩ : ByteArray) ++ ⟨#[101]⟩ ++ J)) (by simp only [ByteArray.size_append]; show 1 + (1 + 1 + J.size) ≤ _; omega) w1
          rw [show (decF (⟨#[45]⟩ ++ ((⟨#[48]⟩ : ByteArray) ++ ⟨#[101]⟩ ++ J))).isSome = isDec (⟨#[45]⟩ ++ ((⟨#[48]⟩ : ByteArray) ++ ⟨#[101]⟩ ++ J)) from rfl] at h14
          cases hdec : isDec (⟨#[45]⟩ ++ ((⟨#[48]⟩ : ByteArray) ++ ⟨#[101]⟩ ++ J))
          · have HRR : Hid (R = S) := Lib.hid (by rw [HR.out, HTT.out, hdec]; rfl)
            rw [hdec] at h14
            clear hdec
            go_wp2_with (first | (go_at_call 21; (with_reducible refine h21.mono ?_); rintro e w2 ⟨rfl, hf⟩; have c0 := HC.out _ _ hf; have HG := Lib.hid (HF2.out.trans hf); clear hf h21) | (go_at_call 14; (with_reducible refine (h14 _).mono ?_); rintro e w3 ⟨rfl, hf⟩; have HH := Lib.hid (HG.out.trans hf); clear hf))
            go_ret
            exact ⟨by rw [HRR.out]; rfl, HH.out⟩
          · have HRR : Hid (R = (⟨#[45]⟩ ++ ((⟨#[48]⟩ : ByteArray) ++ ⟨#[101]⟩ ++ J))) := Lib.hid (by rw [HR.out, HTT.out, hdec]; rfl)
            rw [hdec] at h14
            clear hdec
            go_wp2_with (first | (go_at_call 21; (with_reducible refine h21.mono ?_); rintro e w2 ⟨rfl, hf⟩; have c0 := HC.out _ _ hf; have HG := Lib.hid (HF2.out.trans hf); clear hf h21) | (go_at_call 14; (with_reducible refine (h14 _).mono ?_); rintro e w3 ⟨rfl, hf⟩; have HH := Lib.hid (HG.out.trans hf); clear hf))
            go_ret
            exact ⟨by rw [HRR.out]; rfl, HH.out⟩
        | false =>
          have HTT : Hid (shiftT false D x z = ((⟨#[48]⟩ : ByteArray) ++ ⟨#[101]⟩ ++ J)) := Lib.hid (by rw [HT.out, HSB.out]; rfl)
          have h14 := fun w1 => jIsDecimal ((⟨#[48]⟩ : ByteArray) ++ ⟨#[101]⟩ ++ J) (by simp only [ByteArray.size_append]; show (1 + 1 + J.size) ≤ _; omega) w1
          rw [show (decF ((⟨#[48]⟩ : ByteArray) ++ ⟨#[101]⟩ ++ J)).isSome = isDec ((⟨#[48]⟩ : ByteArray) ++ ⟨#[101]⟩ ++ J) from rfl] at h14
          cases hdec : isDec ((⟨#[48]⟩ : ByteArray) ++ ⟨#[101]⟩ ++ J)
          · have HRR : Hid (R = S) := Lib.hid (by rw [HR.out, HTT.out, hdec]; rfl)
            rw [hdec] at h14
            clear hdec
            go_wp2_with (first | (go_at_call 21; (with_reducible refine h21.mono ?_); rintro e w2 ⟨rfl, hf⟩; have c0 := HC.out _ _ hf; have HG := Lib.hid (HF2.out.trans hf); clear hf h21) | (go_at_call 14; (with_reducible refine (h14 _).mono ?_); rintro e w3 ⟨rfl, hf⟩; have HH := Lib.hid (HG.out.trans hf); clear hf))
            go_ret
            exact ⟨by rw [HRR.out]; rfl, HH.out⟩
          · have HRR : Hid (R = ((⟨#[48]⟩ : ByteArray) ++ ⟨#[101]⟩ ++ J)) := Lib.hid (by rw [HR.out, HTT.out, hdec]; rfl)
            rw [hdec] at h14
            clear hdec
            go_wp2_with (first | (go_at_call 21; (with_reducible refine h21.mono ?_); rintro e w2 ⟨rfl, hf⟩; have c0 := HC.out _ _ hf; have HG := Lib.hid (HF2.out.trans hf); clear hf h21) | (go_at_call 14; (with_reducible refine (h14 _).mono ?_); rintro e w3 ⟨rfl, hf⟩; have HH := Lib.hid (HG.out.trans hf); clear hf))
            go_ret
            exact ⟨by rw [HRR.out]; rfl, HH.out⟩
      · have hE := notEmpty_of (show 0 < D.size by omega)
        have hE' := some_toList (show 0 < D.size by omega)
        have HSB : Hid (shiftB D z = V) := Lib.hid (by unfold shiftB; rw [if_neg h0, HV.out])
        clear h0
        cases m with
        | true =>
          have HTT : Hid (shiftT true D x z = (⟨#[45]⟩ ++ (V ++ ⟨#[101]⟩ ++ J))) := Lib.hid (by rw [HT.out, HSB.out]; rfl)
          have h14 := fun w1 => jIsDecimal (⟨#[45]⟩ ++ (V ++ ⟨#[101]⟩ ++ J)) (by simp only [ByteArray.size_append]; show 1 + (V.size + 1 + J.size) ≤ _; omega) w1
          rw [show (decF (⟨#[45]⟩ ++ (V ++ ⟨#[101]⟩ ++ J))).isSome = isDec (⟨#[45]⟩ ++ (V ++ ⟨#[101]⟩ ++ J)) from rfl] at h14
          cases hdec : isDec (⟨#[45]⟩ ++ (V ++ ⟨#[101]⟩ ++ J))
          · have HRR : Hid (R = S) := Lib.hid (by rw [HR.out, HTT.out, hdec]; rfl)
            rw [hdec] at h14
            clear hdec
            go_wp2_with (first | (go_at_call 21; (with_reducible refine h21.mono ?_); rintro e w2 ⟨rfl, hf⟩; have c0 := HC.out _ _ hf; have HG := Lib.hid (HF2.out.trans hf); clear hf h21) | (go_at_call 14; (with_reducible refine (h14 _).mono ?_); rintro e w3 ⟨rfl, hf⟩; have HH := Lib.hid (HG.out.trans hf); clear hf))
            go_ret
            exact ⟨by rw [HRR.out]; rfl, HH.out⟩
          · have HRR : Hid (R = (⟨#[45]⟩ ++ (V ++ ⟨#[101]⟩ ++ J))) := Lib.hid (by rw [HR.out, HTT.out, hdec]; rfl)
            rw [hdec] at h14
            clear hdec
            go_wp2_with (first | (go_at_call 21; (with_reducible refine h21.mono ?_); rintro e w2 ⟨rfl, hf⟩; have c0 := HC.out _ _ hf; have HG := Lib.hid (HF2.out.trans hf); clear hf h21) | (go_at_call 14; (with_reducible refine (h14 _).mono ?_); rintro e w3 ⟨rfl, hf⟩; have HH := Lib.hid (HG.out.trans hf); clear hf))
            go_ret
            exact ⟨by rw [HRR.out]; rfl, HH.out⟩
        | false =>
          have HTT : Hid (shiftT false D x z = (V ++ ⟨#[101]⟩ ++ J)) := Lib.hid (by rw [HT.out, HSB.out]; rfl)
          have h14 := fun w1 => jIsDecimal (V ++ ⟨#[101]⟩ ++ J) (by simp only [ByteArray.size_append]; show (V.size + 1 + J.size) ≤ _; omega) w1
          rw [show (decF (V ++ ⟨#[101]⟩ ++ J)).isSome = isDec (V ++ ⟨#[101]⟩ ++ J) from rfl] at h14
          cases hdec : isDec (V ++ ⟨#[101]⟩ ++ J)
          · have HRR : Hid (R = S) := Lib.hid (by rw [HR.out, HTT.out, hdec]; rfl)
            rw [hdec] at h14
            clear hdec
            go_wp2_with (first | (go_at_call 21; (with_reducible refine h21.mono ?_); rintro e w2 ⟨rfl, hf⟩; have c0 := HC.out _ _ hf; have HG := Lib.hid (HF2.out.trans hf); clear hf h21) | (go_at_call 14; (with_reducible refine (h14 _).mono ?_); rintro e w3 ⟨rfl, hf⟩; have HH := Lib.hid (HG.out.trans hf); clear hf))
            go_ret
            exact ⟨by rw [HRR.out]; rfl, HH.out⟩
          · have HRR : Hid (R = (V ++ ⟨#[101]⟩ ++ J)) := Lib.hid (by rw [HR.out, HTT.out, hdec]; rfl)
            rw [hdec] at h14
            clear hdec
            go_wp2_with (first | (go_at_call 21; (with_reducible refine h21.mono ?_); rintro e w2 ⟨rfl, hf⟩; have c0 := HC.out _ _ hf; have HG := Lib.hid (HF2.out.trans hf); clear hf h21) | (go_at_call 14; (with_reducible refine (h14 _).mono ?_); rintro e w3 ⟨rfl, hf⟩; have HH := Lib.hid (HG.out.trans hf); clear hf))
            go_ret
            exact ⟨by rw [HRR.out]; rfl, HH.out⟩

/-- spec.JShifted -/
theorem specShifted {S : ByteArray} {m : Bool} {D : ByteArray} {x z : Int} {w : World} (hS : S.size ≤ 2147483647) (hd : decF S = some (m, D, x)) (ok : Dok m D x) (ht : Tab w) : Calls Tryz.prog 9 #[.string S, .int .i64 z] w fun e w' => e = .returned (.string (shifted S m D x z)) ∧ Fr [] w w' := by
  by_cases h : z < 0 ∨ 20 < z
  · exact shifted_out hS hd h
  · obtain ⟨k, rfl⟩ : ∃ k : Nat, z = k := ⟨z.toNat, by omega⟩
    exact shifted_in hS hd ok (by omega) ht
/-- The text handed back writes the number too. -/
theorem shifted_num {S : ByteArray} {m : Bool} {D : ByteArray} {x z : Int} (hd : decF S = some (m, D, x)) (ok : Dok m D x) : NumIs (shifted S m D x z) m (rn (dv D) x) (rd (dv D) x) ∧ (shifted S m D x z).size ≤ 40 := by
  have h40 : ∀ T r, decF T = some r → T.size ≤ 40 := by
    intro T r h
    unfold decF at h
    split at h
    · cases h
    · omega
  unfold shifted
  split
  · exact ⟨numIs_of hd, h40 _ _ hd⟩
  · split
    · rename_i h
      unfold isDec at h
      cases hh : decF (shiftT m D x z.toNat) with
      | none => rw [hh] at h; cases h
      | some r =>
        obtain ⟨m', D', x'⟩ := r
        exact ⟨shift_num ok hh, h40 _ _ hh⟩
    · exact ⟨numIs_of hd, h40 _ _ hd⟩
end Go.Proofs.YtpmggjplfcjkkaaGreatDoor

/- laws.FnJSameWritten returns true. -/
set_option linter.unusedVariables false
set_option linter.unusedSimpArgs false
namespace Go.Proofs.YtpmggjplfcjkkaaGreatDoor
open Go.RowKit Nq

set_option maxRecDepth 100000 in
set_option maxHeartbeats 1000000 in
theorem law4_long {A : ByteArray} {z : Int} {w : World} (h : 2147483647 < A.size) (sA : A.size ≤ 9223372036854775807) : Calls Tryz.prog 4 #[.string A, .int .i64 z] w (LawPost w) := by
  have d1 : decide ((A.size : Int) > 2147483647) = true := decide_eq_true (by omega)
  clear h
  go_enter Tryz.func4, Tryz.ntmps4
  go_wp2_with fail
  go_ret
  exact ⟨rfl, Fr.refl _ _⟩
set_option maxRecDepth 100000 in
set_option maxHeartbeats 8000000 in
theorem law4_short {A : ByteArray} {z : Int} {w : World} (sA : A.size ≤ 2147483647) (hw : Wo w) (ht : Tab w) : Calls Tryz.prog 4 #[.string A, .int .i64 z] w (LawPost w) := by
  have d1 : decide ((A.size : Int) > 2147483647) = false := decide_eq_false (by omega)
  have f1 : Fr [] w (w.alloc (.cells #[.string A] 9)) := (Fr.refl _ _).alloc _
  have h5 := jDecimals w.heap.size 1 [A] (by simp) (by intro S hS; simp at hS; subst hS; exact sA) (w.alloc (.cells #[.string A] 9)) (strs_new w 9 [A])
  replace h5 : Calls Tryz.prog 5 #[.slice (some ⟨w.heap.size, 0, none⟩) 1 1] (w.alloc (.cells #[.string A] 9)) fun e w' => e = .returned (.bool (isDec A && true)) ∧ Hid (Fr [] w w') := h5.mono fun e w' h => ⟨h.1, Lib.hid (f1.trans h.2)⟩
  cases ha : decF A with
  | none =>
    rw [show isDec A = false by unfold isDec; rw [ha]; rfl, Bool.false_and] at h5
    clear hw ht f1 ha
    go_enter Tryz.func4, Tryz.ntmps4
    go_wp2_with (go_at_call 5; (with_reducible refine h5.mono ?_); rintro e w1 ⟨rfl, HF⟩)
    go_ret
    exact ⟨rfl, HF.out⟩
  | some r =>
    obtain ⟨m, D, x⟩ := r
    have ok := dok_of _ _ _ _ ha
    rw [show isDec A = true by unfold isDec; rw [ha]; rfl] at h5
    replace h5 : Calls Tryz.prog 5 #[.slice (some ⟨w.heap.size, 0, none⟩) 1 1] (w.alloc (.cells #[.string A] 9)) fun e w' => e = .returned (.bool true) ∧ Hid (Fr [] w w') := h5
    have NA := numIs_of ha
    obtain ⟨NB, sB⟩ := shifted_num (z := z) ha ok
    have hA0 : 0 < A.size := by
      obtain ⟨neg, I, F, dot, ex, N, _⟩ := decF_num ha
      exact N.pos
    have hB0 : 0 < (shifted A m D x z).size := by
      unfold shifted
      split
      · exact hA0
      · split
        · unfold shiftT
          simp only [ByteArray.size_append]
          have := (shiftB_ok ok.bar z.toNat).2.1
          omega
        · exact hA0
    obtain ⟨B, hB⟩ : ∃ B, shifted A m D x z = B := ⟨_, rfl⟩
    have H9 : Hid (∀ w1, Fr [] w w1 → Calls Tryz.prog 9 #[.string A, .int .i64 z] w1 fun e w' => e = .returned (.string B) ∧ Fr [] w1 w') := Lib.hid fun w1 f => by
      have := specShifted (z := z) sA ha ok (ht.fr f)
      rwa [hB] at this
    rw [hB] at NB hB0
    have H10A : Hid (∀ w1, Fr [] w w1 → Calls Tryz.prog 10 #[.string A] w1 fun e w' => e = .returned (.tuple #[.bool (decide (rd (dv D) x = 1)), .bool true]) ∧ Fr [] w1 w') := Lib.hid fun w1 f => implInteger NA (hw.fr0 f)
    have H10B : Hid (∀ w1, Fr [] w w1 → Calls Tryz.prog 10 #[.string B] w1 fun e w' => e = .returned (.tuple #[.bool (decide (rd (dv D) x = 1)), .bool true]) ∧ Fr [] w1 w') := Lib.hid fun w1 f => implInteger NB (hw.fr0 f)
    have H11A : Hid (∀ w1, Fr [] w w1 → Calls Tryz.prog 11 #[.string A, .string B] w1 fun e w' => e = .returned (.tuple #[.bool false, .bool true]) ∧ Fr [] w1 w') := Lib.hid fun w1 f => implLess NA NB (hw.fr0 f)
    have H11B : Hid (∀ w1, Fr [] w w1 → Calls Tryz.prog 11 #[.string B, .string A] w1 fun e w' => e = .returned (.tuple #[.bool false, .bool true]) ∧ Fr [] w1 w') := Lib.hid fun w1 f => implLess NB NA (hw.fr0 f)
    have H12 : Hid (∀ w1, Fr [] w w1 → Calls Tryz.prog 12 #[.agg (jv A), .agg (jv B)] w1 fun e w' => e = .returned (.bool true) ∧ Fr [] w1 w') := Lib.hid fun w1 f => implSame NA NB hA0 hB0 (hw.fr0 f)
    have h13A := fun w1 => lawNumber A w1
    have h13B := fun w1 => lawNumber B w1
    generalize decide (rd (dv D) x = 1) = v at *
    clear hw ht f1 ha ok NA NB sB hA0 hB0 hB
    cases v <;>
    · go_enter Tryz.func4, Tryz.ntmps4
      go_upto_region 6 with (first | (go_at_call 5; (with_reducible refine h5.mono ?_); rintro e w1 ⟨rfl, HF1⟩; have k9 := H9.out _ HF1.out) | (go_at_call 9; (with_reducible refine k9.mono ?_); rintro e w2 ⟨rfl, hf⟩; have HF2 := Lib.hid (HF1.out.trans hf); clear hf k9))
      have k10 := H10A.out _ HF2.out
      go_upto_region 7 with (go_at_call 10; (with_reducible refine k10.mono ?_); rintro e w3 ⟨rfl, hf⟩; have HF3 := Lib.hid (HF2.out.trans hf); clear hf k10)
      have k10 := H10B.out _ HF3.out
      go_upto_region 8 with (go_at_call 10; (with_reducible refine k10.mono ?_); rintro e w4 ⟨rfl, hf⟩; have HF4 := Lib.hid (HF3.out.trans hf); clear hf k10)
      have k11 := H11A.out _ HF4.out
      go_upto_region 9 with (go_at_call 11; (with_reducible refine k11.mono ?_); rintro e w5 ⟨rfl, hf⟩; have HF5 := Lib.hid (HF4.out.trans hf); clear hf k11)
      have k11 := H11B.out _ HF5.out
      go_upto_region 10 with (go_at_call 11; (with_reducible refine k11.mono ?_); rintro e w6 ⟨rfl, hf⟩; have HF6 := Lib.hid (HF5.out.trans hf); clear hf k11)
      have k12 := H12.out ((w6.alloc (.cells (jv A) 33)).alloc (.cells (jv B) 33)) ((HF6.out.alloc _).alloc _)
      have HF7 : Hid (Fr [] w ((w6.alloc (.cells (jv A) 33)).alloc (.cells (jv B) 33))) := Lib.hid ((HF6.out.alloc _).alloc _)
      go_wp2_with (first | (go_at_call 13; (with_reducible refine (h13A _).mono ?_); rintro e w7 ⟨rfl, rfl⟩) | (go_at_call 13; (with_reducible refine (h13B _).mono ?_); rintro e w7 ⟨rfl, rfl⟩) | (go_at_call 12; (with_reducible refine k12.mono ?_); rintro e w8 ⟨rfl, hf⟩; have HF8 := Lib.hid (HF7.out.trans hf); clear hf))
      go_ret
      exact ⟨rfl, HF8.out⟩
theorem law4 {A : ByteArray} {z : Int} {w : World} (sA : A.size ≤ 9223372036854775807) (hw : Wo w) (ht : Tab w) : Calls Tryz.prog 4 #[.string A, .int .i64 z] w (LawPost w) := by
  by_cases h : 2147483647 < A.size
  · exact law4_long h sA
  · exact law4_short (by omega) hw ht
end Go.Proofs.YtpmggjplfcjkkaaGreatDoor

/- FnJSameWritten: the row's contract. -/
set_option linter.unusedVariables false
set_option linter.unusedSimpArgs false
set_option maxRecDepth 100000
namespace Go.Proofs.YtpmggjplfcjkkaaGreatDoor
open Go.ChangeShapes Go.WideShapes Go.ChangeAt Go.RowKit
open Go.ChangeMaps (open_string shut_string)

theorem t4 : (Tryz.prog.globals[4]?).map (·.type) = some 345 := by kernel_rfl
theorem powData : Rows.laid_internal_strconv_uint64pow10 = Lib.tabData (H := Unit) .u64 Lib.pow10Tab := by rfl
theorem tab_of {W : World} (h : laidMetH Tryz.prog laidL W) : Tab W := by
  have h1 := laid_one h "internal/strconv.uint64pow10" Rows.laid_internal_strconv_uint64pow10 (by kernel_rfl) rfl
  rw [powData] at h1
  exact Lib.tabIs_of_head gPow t4 Tryz.underlying345 Tryz.underlying211 (by kernel_rfl) (by kernel_rfl) h1
theorem contract4 (H : Type) (enc : TypeId × Value → H) (W : World) (base : Nat) (args : Array Value) (ds gs : List (DataW H)) (before : List MemPlace)
    (hval : ∀ (j : Nat) t v, Tryz.f4.params[j]? = some t → args[j]? = some v → Value.okWide Tryz.prog W .any base t v)
    (hW : DataW.Whole enc Tryz.prog Tryz.f4.params.toList Rows.fnJSameWrittenSpec.vars false W args.toList ds gs before) (hL : laidMetH Tryz.prog laidL W) (hsh : W.ShapedOpen Tryz.prog) :
    Calls Tryz.prog 4 args W fun e W' => ∃ v, e = .returned v ∧ Rows.fnJSameWrittenSpec.post enc Tryz.prog Tryz.f4 false true false false W args v W' := by
  have hW' := hW
  obtain ⟨p, q, hA0, hV0, rfl, hfz, hnd⟩ := hW
  have hA : DataW.TrodAll enc Tryz.prog W 0 (fun _ => true) true Tryz.f4.params.toList args.toList ds p := hA0
  have hV : DataW.TrodVars enc Tryz.prog W (fun _ => true) vars6 gs q := hV0
  rw [Tryz.params4] at hA hval
  obtain ⟨v0, v1, d0, d1, p0, p1, rfl, rfl, rfl, h0, h1⟩ := trodAll_two hA
  obtain ⟨A, rfl, rfl, rfl, wA⟩ := open_string Tryz.underlying9 (hval 0 9 v0 rfl rfl) h0
  obtain ⟨z, rfl, rfl, rfl, wz⟩ := open_int Tryz.underlying3 (hval 1 3 v1 rfl rfl) h1
  obtain ⟨a, b, c, d, e, f, rfl⟩ := six hV
  clear hA0 hV0
  refine (law4 (A := A) (z := z) (w := W) (by unfold maxLen at wA; omega) (wo_of hL hsh) (tab_of hL)).mono ?_
  rintro e' W' ⟨rfl, hf⟩
  have hb := hf.below
  exact ⟨_, rfl, _, _, _, [], [], q, hW', trodAll_mk1 (shut_bool Tryz.underlying4 _), trodAll_mk2 (shut_string Tryz.underlying9 wA) (shut_int Tryz.underlying3 wz), hb.trodVars laidOut rowed6 hV, hb.frame _, fun h => by cases h⟩
end Go.Proofs.YtpmggjplfcjkkaaGreatDoor
