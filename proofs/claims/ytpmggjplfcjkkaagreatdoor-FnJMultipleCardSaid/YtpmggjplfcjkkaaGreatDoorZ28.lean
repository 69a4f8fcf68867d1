/- Rat.SetString of a text with an exponent below 0. -/
import Derived.Deep.DeepCutAuto
import Derived.Test.YtpmggjplfcjkkaaGreatDoorZ25
set_option linter.unusedVariables false
set_option linter.unusedSimpArgs false
namespace Go.Proofs.YtpmggjplfcjkkaaGreatDoor
open Go.RowKit Nq
attribute [local go_sem] run_eof run_nil_eof run_neq_eof

set_option maxRecDepth 100000 in
set_option maxHeartbeats 16000000 in
theorem setString_neg {rb b : Nat} {S : ByteArray} {neg : Bool} {ex cnt : Int} {eb : Addr} {M pe : Nat} {w : World} (P : SetPre w rb b S neg ex eb cnt M pe) (hM0 : 0 < M) (hMl : M < 10 ^ 100) {f : Int} {k : Nat} (hf : f = if cnt < 0 then cnt else 0) (hf1 : -100 ≤ f) (hf2 : f ≤ 0) (hex1 : -99 ≤ ex) (hex2 : ex ≤ 99) (hE : f + ex = -(k : Int)) (hk0 : 0 < k) (hk2 : k ≤ 200) :
    Calls Tryz.prog 50 #[.pointer (some ⟨rb, 0, none⟩), .string S] w (SetPost w rb neg (numOf M (-(k : Int)) / Nat.gcd (numOf M (-(k : Int))) (denOf (-(k : Int)))) (denOf (-(k : Int)) / Nat.gcd (numOf M (-(k : Int))) (denOf (-(k : Int))))) := by
  have h60 := P.h60
  have h62 := P.h62
  have H66 := P.h66
  have H63 := P.h63
  have H67 := P.h67
  have H64 := P.h64
  have hd0 := P.hd0
  have HP := Lib.hid P
  clear P
  go_enter_defers Tryz.func50, Tryz.ntmps50
  go_upto_region 36 with (first | (go_at_call 60; (with_reducible refine h60.mono ?_); rintro e w1 ⟨rfl, rfl⟩) | (go_at_call 62; (with_reducible refine h62.mono ?_); rintro e w1 ⟨rfl, hw1⟩; have h66 := H66.out w1 hw1.out.1 hw1.out.2) | (go_at_call 66; (with_reducible refine h66.mono ?_); rintro e w2 ⟨rfl, c1, hw2⟩; have h63 := H63.out w2 hw2.out.1 hw2.out.2) | (go_at_call 63; (with_reducible refine h63.mono ?_); rintro e w3 ⟨p, q, r, zo, rfl, ⟨x, c3⟩, z3, hw3⟩; have h67 := H67.out _ zo hw3.out.1 hw3.out.2.1 hw3.out.2.2.1 hw3.out.2.2.2) | (go_at_call 67; (with_reducible refine h67.mono ?_); rintro e w5 ⟨rfl, hw5⟩; have h64 := H64.out w5 zo hw5.out.1 hw5.out.2.1 hw5.out.2.2 hw3.out.2.2.2) | (go_at_call 64; (with_reducible refine h64.mono ?_); rintro e w6 ⟨rfl, e6, ⟨a6, l6, c6, q6, hl6, hl6'⟩, HS⟩))
  clear h60 h62 h63 h66 h67 h64 H66 H63 H67 H64 hw1 hw2 hw3 hw5 c1 c3 z3 x
  have hl : ((l6 : Int) == 0) = false := by rw [beq_eq_false_iff_ne]; have : l6 ≠ 0 := fun e => by have := hl6.1 e; omega
                                            omega
  have Hf := Lib.hid hf
  have hstk := getStack w6
  obtain ⟨s, hs⟩ : ∃ s, w6.heap.size = s := ⟨_, rfl⟩
  obtain ⟨hsp, hnil⟩ := HS.out.stk HP.out.hlt HP.out.h14 HP.out.t
  rw [hs] at hstk hsp
  obtain ⟨w7, hw7⟩ : ∃ w7, w6.alloc (.cells #[.pointer none] 139) = w7 := ⟨_, rfl⟩
  rw [hw7] at hstk hsp hnil
  have HSP := Lib.hid (And.intro hnil hsp)
  have HMl := Lib.hid hMl
  clear HS HP hl6 hf hsp hnil hs hw7 hMl
  go_upto_if 140 with fail
  go_cut [18, 19, 20] from 24 to 157 (fun v18 v19 _ wc => v18 = .int .i64 f ∧ v19 = .int .i64 f ∧ w6 = wc)
  case first => as_aux_lemma =>
    have hff := Hf.out
    by_cases hc : cnt < 0
    · have hd : decide (cnt < 0) = true := by simpa using hc
      rw [if_pos hc] at hff
      clear hE Hf
      subst hff
      go_wp2_with fail
      go_meet
      exact ⟨rfl, rfl, rfl⟩
    · rw [if_neg hc] at hff
      have HFF := Lib.hid hff
      clear hff hE Hf
      have hd : decide (cnt < 0) = false := by simpa using hc
      go_wp2_with fail
      go_meet
      exact ⟨by rw [HFF.out], by rw [HFF.out], rfl⟩
  case rest =>
    obtain ⟨rfl, rfl, rfl⟩ := hcut
    clear Hf q6 hl hl6' e6
    have hd1 : (-(k : Int) != 0) = true := by simp; omega
    have hd2 : decide (-(k : Int) < 0) = true := by simp; omega
    have hk : 1 ≤ k := by omega
    have hku : IntKind.u64.wrap (k : Int) = (k : Int) := by simp only [IntKind.wrap, IntKind.bits, IntKind.signed, Bool.false_and, Bool.false_eq_true, if_false]; omega
    have hnil := HSP.out.1
    obtain ⟨k69, k70⟩ := HSP.out.2.make hnil hk (by omega)
    clear HSP
    go_upto_region 67 with (go_at_call 40; (with_reducible refine hstk.mono ?_); rintro e w8 ⟨rfl, rfl⟩; clear hstk)
    go_cut [23] from 24 to 193 (fun v23 wc => FiveAt w wc rb zo M s k v23)
    case first => as_aux_lemma =>
      go_region_held3 (fun w' => w'.cell? ⟨rb, 3, none⟩ = some (.slice none 0 0)) (first | exact hnil | exact c4 | exact c5 | exact c6 | go_keep) ((first | (go_at_call 69; (with_reducible refine k69.mono ?_); rintro e w4 ⟨p, q, r, rfl, c4, kB⟩) | (go_at_call 70; (with_reducible refine k70.mono ?_); rintro e w4 ⟨p, q, r, rfl, c4, kB⟩) | (go_at_call 70; (with_reducible refine kB.mono ?_); rintro e w5 ⟨p', q', r', rfl, c5, kC⟩) | (go_at_call 69; (with_reducible refine kB.mono ?_); rintro e w5 ⟨p', q', r', rfl, c5, kC⟩) | (go_at_call 68; (with_reducible refine kC.mono ?_); rintro e w6 ⟨v, p3, q3, r3, rfl, rfl, HV⟩; have c6 := HV.out.nil)))
      all_goals (go_wp2_with fail; go_meet; exact ⟨_, _, _, rfl, HV⟩)
    case rest =>
      obtain ⟨p, q, r, rfl, HV⟩ := hcut
      clear k69 k70 hnil
      have hc3 := HV.out.nil
      obtain ⟨hz3, HPP⟩ := HV.out.put
      have hd5 := Nat.pow_pos (n := k) (show 0 < 5 by decide)
      have hb := big_lt HMl.out hk2
      have HL : Hid (∀ w9 bo', Sp w w9 rb zo bo' M (5 ^ k) s → ∃ a l c, w9.cell? ⟨rb, 3, none⟩ = some (.slice a l c) ∧ Calls Tryz.prog 71 #[.slice a l c, .slice a l c, .int .u64 (k : Int)] w9.drew (SpTo w rb 3 (.slice a l c) (fun w' => ∃ bo', Sp w w' rb zo bo' M (5 ^ k * 2 ^ k) s))) :=
        Lib.hid fun w9 bo' h => h.lshB (up39 hb.2.2.2.1) hd5 hk (by omega)
      clear hb hd5
      have hw1 : IntKind.i64.wrap (k : Int) = (k : Int) := by simp only [IntKind.wrap, IntKind.bits, IntKind.signed, Bool.true_and, Bool.false_eq_true, if_false]; split <;> simp at * <;> omega
      have hw2 : IntKind.i64.wrap (- -(k : Int)) = (k : Int) := by rw [Int.neg_neg]; exact hw1
      go_upto_region 78 with fail
      obtain ⟨bo', hs9⟩ := HPP.out
      obtain ⟨a3, l3, c3, q3', kL⟩ := HL.out _ bo' hs9
      clear HPP hs9 HL hc3 hz3 HV
      generalize World.setCell _ _ _ = w10 at *
      go_cut [] from 24 to 282 (fun wc2 => Hid (∃ bo2, Sp w wc2 rb zo bo2 M (5 ^ k * 2 ^ k) s))
      case first =>
        refine wp_region_noPanic ?_
        go_region_with (go_at_call 71; (with_reducible refine kL.mono ?_); rintro e w8 ⟨v, p2, q2, r2, rfl, rfl, q3, q4, HP⟩)
        all_goals (as_aux_lemma => (refine NoPanic.normal ?_; go_wp2_with fail; go_meet; exact HP))
      case rest =>
        clear kL q3'
        obtain ⟨bo2, hsp⟩ := hcut.out
        have e : 5 ^ k * 2 ^ k = denOf (-(k : Int)) := by
          unfold denOf
          rw [Int.neg_neg, Int.toNat_natCast, ← Nat.mul_pow]
        have e2 : M = numOf M (-(k : Int)) := by unfold numOf; simp
        rw [e] at hsp
        have hspn : Sp w wc rb zo bo2 (numOf M (-(k : Int))) (denOf (-(k : Int))) s := by rw [← e2]; exact hsp
        clear hsp
        have hb := big_lt HMl.out hk2
        have hld : denOf (-(k : Int)) < Bw ^ 39 := by unfold denOf; rw [Int.neg_neg, Int.toNat_natCast]; exact hb.2.1
        have hln : numOf M (-(k : Int)) < Bw ^ 39 := by rw [← e2]; exact hb.2.2.2.2
        have hn1 : 0 < numOf M (-(k : Int)) := by rw [← e2]; exact hM0
        have hd2 := denOf_pos (-(k : Int))
        clear e e2 hb hcut
        have hn0 : 0 < numOf M (-(k : Int)) := hn1
        have hd0' : 0 < denOf (-(k : Int)) := hd2
        have hfin := fun neg => hspn.fin hn0 hd0' (hln) (hld) neg
        cases neg
        · as_aux_lemma =>
            obtain ⟨⟨x1, f1⟩, f2, ⟨a3, l3, c3, f3, f4, f5⟩, k65⟩ := hfin false
            clear hfin hn0 hd0' hln hld hd2 hn1 hspn
            go_wp2_with (go_at_call 65; (with_reducible refine k65.mono ?_); rintro e w9 ⟨rfl, hst, HQ⟩)
            refine leaves_cons (f := 41) (args := #[.pointer (some ⟨s, 0, none⟩)]) (by simp) (by simp [go_sem]) ?_
            refine (stkFree_d .returning hst).mono ?_
            rintro e u' w8 ⟨rfl, rfl, k2⟩
            exact ⟨.tuple #[.pointer (some ⟨rb, 0, none⟩), .bool true], by simp [results, Tryz.results50, go_sem], HQ.out w8 k2⟩
        · as_aux_lemma =>
            obtain ⟨⟨x1, f1⟩, f2, ⟨a3, l3, c3, f3, f4, f5⟩, k65⟩ := hfin true
            clear hfin hn0 hd0' hln hld hd2 hn1 hspn
            have hl3 : decide ((l3 : Int) > 0) = true := by simp; omega
            go_wp2_with (go_at_call 65; (with_reducible refine k65.mono ?_); rintro e w9 ⟨rfl, hst, HQ⟩)
            refine leaves_cons (f := 41) (args := #[.pointer (some ⟨s, 0, none⟩)]) (by simp) (by simp [go_sem]) ?_
            refine (stkFree_d .returning hst).mono ?_
            rintro e u' w8 ⟨rfl, rfl, k2⟩
            exact ⟨.tuple #[.pointer (some ⟨rb, 0, none⟩), .bool true], by simp [results, Tryz.results50, go_sem], HQ.out w8 k2⟩
end Go.Proofs.YtpmggjplfcjkkaaGreatDoor
