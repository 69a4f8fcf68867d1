/- Rat.SetString of a text with an exponent above 0. -/
import Derived.Deep.DeepCutAuto
import Derived.Test.YtpmggjplfcjkkaaGreatDoorZ25
set_option linter.unusedVariables false
set_option linter.unusedSimpArgs false
namespace Go.Proofs.YtpmggjplfcjkkaaGreatDoor
open Go.RowKit Nq
attribute [local go_sem] run_eof run_nil_eof run_neq_eof

set_option maxRecDepth 100000 in
set_option maxHeartbeats 16000000 in
theorem setString_pos {rb b : Nat} {S : ByteArray} {neg : Bool} {ex cnt : Int} {eb : Addr} {M pe : Nat} {w : World} (P : SetPre w rb b S neg ex eb cnt M pe) (hM0 : 0 < M) (hMl : M < 10 ^ 100) {f : Int} {k : Nat} (hf : f = if cnt < 0 then cnt else 0) (hf1 : -100 ≤ f) (hf2 : f ≤ 0) (hex1 : -99 ≤ ex) (hex2 : ex ≤ 99) (hE : f + ex = (k : Int)) (hk0 : 0 < k) (hk2 : k ≤ 200) :
    Calls Tryz.prog 50 #[.pointer (some ⟨rb, 0, none⟩), .string S] w (SetPost w rb neg (numOf M (k : Int) / Nat.gcd (numOf M (k : Int)) (denOf (k : Int))) (denOf (k : Int) / Nat.gcd (numOf M (k : Int)) (denOf (k : Int)))) := by
  have h60 := P.h60
  have h62 := P.h62
  have H66 := P.h66
  have H63 := P.h63
  have H67 := P.h67
  have H64 := P.h64
  have hd0 := P.hd0
  have HP := Lib.hid P
  clear P
  go_enter_defers Tryz.func50, Tryz.ntmps50
  go_upto_region 36 with (first | (go_at_call 60; (with_reducible refine h60.mono ?_); rintro e w1 ⟨rfl, rfl⟩) | (go_at_call 62; (with_reducible refine h62.mono ?_); rintro e w1 ⟨rfl, hw1⟩; have h66 := H66.out w1 hw1.out.1 hw1.out.2) | (go_at_call 66; (with_reducible refine h66.mono ?_); rintro e w2 ⟨rfl, c1, hw2⟩; have h63 := H63.out w2 hw2.out.1 hw2.out.2) | (go_at_call 63; (with_reducible refine h63.mono ?_); rintro e w3 ⟨p, q, r, zo, rfl, ⟨x, c3⟩, z3, hw3⟩; have h67 := H67.out _ zo hw3.out.1 hw3.out.2.1 hw3.out.2.2.1 hw3.out.2.2.2) | (go_at_call 67; (with_reducible refine h67.mono ?_); rintro e w5 ⟨rfl, hw5⟩; have h64 := H64.out w5 zo hw5.out.1 hw5.out.2.1 hw5.out.2.2 hw3.out.2.2.2) | (go_at_call 64; (with_reducible refine h64.mono ?_); rintro e w6 ⟨rfl, e6, ⟨a6, l6, c6, q6, hl6, hl6'⟩, HS⟩))
  clear h60 h62 h63 h66 h67 h64 H66 H63 H67 H64 hw1 hw2 hw3 hw5 c1 c3 z3 x
  have hl : ((l6 : Int) == 0) = false := by rw [beq_eq_false_iff_ne]; have : l6 ≠ 0 := fun e => by have := hl6.1 e; omega
                                            omega
  have Hf := Lib.hid hf
  have hstk := getStack w6
  obtain ⟨s, hs⟩ : ∃ s, w6.heap.size = s := ⟨_, rfl⟩
  obtain ⟨hsp, hnil⟩ := HS.out.stk HP.out.hlt HP.out.h14 HP.out.t
  rw [hs] at hstk hsp
  obtain ⟨w7, hw7⟩ : ∃ w7, w6.alloc (.cells #[.pointer none] 139) = w7 := ⟨_, rfl⟩
  rw [hw7] at hstk hsp hnil
  have HSP := Lib.hid (And.intro hnil hsp)
  have HMl := Lib.hid hMl
  clear HS HP hl6 hf hsp hnil hs hw7 hMl
  go_upto_if 140 with fail
  go_cut [18, 19, 20] from 24 to 157 (fun v18 v19 _ wc => v18 = .int .i64 f ∧ v19 = .int .i64 f ∧ w6 = wc)
  case first => as_aux_lemma =>
    have hff := Hf.out
    by_cases hc : cnt < 0
    · have hd : decide (cnt < 0) = true := by simpa using hc
      rw [if_pos hc] at hff
      clear hE Hf
      subst hff
      go_wp2_with fail
      go_meet
      exact ⟨rfl, rfl, rfl⟩
    · rw [if_neg hc] at hff
      have HFF := Lib.hid hff
      clear hff hE Hf
      have hd : decide (cnt < 0) = false := by simpa using hc
      go_wp2_with fail
      go_meet
      exact ⟨by rw [HFF.out], by rw [HFF.out], rfl⟩
  case rest =>
    obtain ⟨rfl, rfl, rfl⟩ := hcut
    clear Hf q6 hl hl6' e6
    have hd1 : ((k : Int) != 0) = true := by simp; omega
    have hk : 1 ≤ k := by omega
    have hku : IntKind.u64.wrap (k : Int) = (k : Int) := by simp only [IntKind.wrap, IntKind.bits, IntKind.signed, Bool.false_and, Bool.false_eq_true, if_false]; omega
    have hnil := HSP.out.1
    obtain ⟨k69, k70⟩ := HSP.out.2.make hnil hk (by omega)
    clear HSP
    go_upto_region 67 with (go_at_call 40; (with_reducible refine hstk.mono ?_); rintro e w8 ⟨rfl, rfl⟩; clear hstk)
    go_cut [23] from 24 to 193 (fun v23 wc => FiveAt w wc rb zo M s k v23)
    case first => as_aux_lemma =>
      go_region_held3 (fun w' => w'.cell? ⟨rb, 3, none⟩ = some (.slice none 0 0)) (first | exact hnil | exact c4 | exact c5 | exact c6 | go_keep) ((first | (go_at_call 69; (with_reducible refine k69.mono ?_); rintro e w4 ⟨p, q, r, rfl, c4, kB⟩) | (go_at_call 70; (with_reducible refine k70.mono ?_); rintro e w4 ⟨p, q, r, rfl, c4, kB⟩) | (go_at_call 70; (with_reducible refine kB.mono ?_); rintro e w5 ⟨p', q', r', rfl, c5, kC⟩) | (go_at_call 69; (with_reducible refine kB.mono ?_); rintro e w5 ⟨p', q', r', rfl, c5, kC⟩) | (go_at_call 68; (with_reducible refine kC.mono ?_); rintro e w6 ⟨v, p3, q3, r3, rfl, rfl, HV⟩; have c6 := HV.out.nil)))
      all_goals (go_wp2_with fail; go_meet; exact ⟨_, _, _, rfl, HV⟩)
    case rest =>
      obtain ⟨p, q, r, rfl, HV⟩ := hcut
      clear k69 k70 hnil
      obtain ⟨po, hpi, -⟩ := HV.out.is
      have hb := big_lt HMl.out hk2
      obtain ⟨a1, l1, c1, q1, kM⟩ := HV.out.sp.mulA hpi hb.2.2.2.2 hb.2.2.2.1
      clear hb hpi
      go_upto_region 69 with fail
      go_cut [] from 24 to 212 (fun wc2 => Hid (∃ ao', Sp w wc2 rb ao' none (M * 5 ^ k) 0 s))
      case first =>
        refine wp_region_noPanic ?_
        go_region_with (go_at_call 56; (with_reducible refine kM.mono ?_); rintro e w8 ⟨v, p2, q2, r2, rfl, rfl, q3, q4, HP⟩)
        all_goals (as_aux_lemma => (refine NoPanic.normal ?_; go_wp2_with fail; go_meet; exact HP))
      case rest =>
        clear q1 kM
        obtain ⟨ao', hsp⟩ := hcut.out
        obtain ⟨a2, l2, c2, q2, kO⟩ := hsp.one
        clear hsp hcut HV
        have hb := big_lt HMl.out hk2
        have h5 : 0 < M * 5 ^ k := Nat.mul_pos hM0 (Nat.pow_pos (by decide))
        have HL : Hid (∀ w9 bo', Sp w w9 rb ao' bo' (M * 5 ^ k) 1 s → ∃ a l c, w9.cell? ⟨rb, 1, none⟩ = some (.slice a l c) ∧ Calls Tryz.prog 71 #[.slice a l c, .slice a l c, .int .u64 (k : Int)] w9.drew (SpTo w rb 1 (.slice a l c) (fun w' => ∃ ao', Sp w w' rb ao' bo' (M * 5 ^ k * 2 ^ k) 1 s))) :=
          Lib.hid fun w9 bo' h => h.lshA (up39 hb.2.2.1) h5 hk (by omega)
        clear hb h5
        go_upto_region 76 with (go_at_call 70; (with_reducible refine kO.mono ?_); rintro e w9 ⟨v, p3, q3, r3, rfl, rfl, q4, q5, HP⟩)
        obtain ⟨bo', hs9⟩ := HP.out
        obtain ⟨a3, l3, c3, q3', kL⟩ := HL.out _ bo' hs9
        clear HP hs9 q2 kO q4 q5 HL
        generalize World.setCell _ _ _ = w10 at *
        go_cut [] from 24 to 282 (fun wc2 => Hid (∃ ao2, Sp w wc2 rb ao2 bo' (M * 5 ^ k * 2 ^ k) 1 s))
        case first =>
          refine wp_region_noPanic ?_
          go_region_with (go_at_call 71; (with_reducible refine kL.mono ?_); rintro e w8 ⟨v, p2, q2, r2, rfl, rfl, q3, q4, HP⟩)
          all_goals (as_aux_lemma => (refine NoPanic.normal ?_; go_wp2_with fail; go_meet; exact HP))
        case rest =>
          clear kL q3'
          obtain ⟨ao2, hsp⟩ := hcut.out
          have e : M * 5 ^ k * 2 ^ k = numOf M k := by
            unfold numOf
            rw [Int.toNat_natCast, Nat.mul_assoc, ← Nat.mul_pow]
          have e2 : 1 = denOf k := by unfold denOf; simp
          rw [e, e2] at hsp
          have hb := big_lt HMl.out hk2
          have hln : numOf M k < Bw ^ 39 := by unfold numOf; rw [Int.toNat_natCast]; exact hb.1
          have hld : denOf k < Bw ^ 39 := by rw [← e2]; have := big_lt (k := 0) HMl.out (by omega); simpa using this.2.1
          have hn1 : 0 < numOf M k := by rw [← e]; exact Nat.mul_pos (Nat.mul_pos hM0 (Nat.pow_pos (by decide))) (Nat.pow_pos (by decide))
          have hd2 := denOf_pos k
          clear e e2 hb hcut
          have hn0 : 0 < numOf M k := hn1
          have hd0' : 0 < denOf k := hd2
          have hfin := fun neg => hsp.fin hn0 hd0' (hln) (hld) neg
          cases neg
          · as_aux_lemma =>
              obtain ⟨⟨x1, f1⟩, f2, ⟨a3, l3, c3, f3, f4, f5⟩, k65⟩ := hfin false
              clear hfin hn0 hd0' hln hld hn1 hd2 hsp
              go_wp2_with (go_at_call 65; (with_reducible refine k65.mono ?_); rintro e w9 ⟨rfl, hst, HQ⟩)
              refine leaves_cons (f := 41) (args := #[.pointer (some ⟨s, 0, none⟩)]) (by simp) (by simp [go_sem]) ?_
              refine (stkFree_d .returning hst).mono ?_
              rintro e u' w8 ⟨rfl, rfl, k2⟩
              exact ⟨.tuple #[.pointer (some ⟨rb, 0, none⟩), .bool true], by simp [results, Tryz.results50, go_sem], HQ.out w8 k2⟩
          · as_aux_lemma =>
              obtain ⟨⟨x1, f1⟩, f2, ⟨a3, l3, c3, f3, f4, f5⟩, k65⟩ := hfin true
              clear hfin hn0 hd0' hln hld hn1 hd2 hsp
              have hl3 : decide ((l3 : Int) > 0) = true := by simp; omega
              go_wp2_with (go_at_call 65; (with_reducible refine k65.mono ?_); rintro e w9 ⟨rfl, hst, HQ⟩)
              refine leaves_cons (f := 41) (args := #[.pointer (some ⟨s, 0, none⟩)]) (by simp) (by simp [go_sem]) ?_
              refine (stkFree_d .returning hst).mono ?_
              rintro e u' w8 ⟨rfl, rfl, k2⟩
              exact ⟨.tuple #[.pointer (some ⟨rb, 0, none⟩), .bool true], by simp [results, Tryz.results50, go_sem], HQ.out w8 k2⟩
end Go.Proofs.YtpmggjplfcjkkaaGreatDoor
