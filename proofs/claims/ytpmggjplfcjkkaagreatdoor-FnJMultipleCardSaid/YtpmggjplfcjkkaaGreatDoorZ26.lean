/- Rat.SetString of a text that writes 0. -/
import Derived.Deep.DeepCutAuto
import Derived.Test.YtpmggjplfcjkkaaGreatDoorZ25
set_option linter.unusedVariables false
set_option linter.unusedSimpArgs false
namespace Go.Proofs.YtpmggjplfcjkkaaGreatDoor
open Go.RowKit Nq
attribute [local go_sem] run_eof run_nil_eof run_neq_eof

set_option maxRecDepth 100000 in
set_option maxHeartbeats 16000000 in
theorem setString_zero {rb b : Nat} {S : ByteArray} {neg : Bool} {ex cnt : Int} {eb : Addr} {M pe : Nat} {w : World} (P : SetPre w rb b S neg ex eb cnt M pe) (hM : M = 0) :
    Calls Tryz.prog 50 #[.pointer (some ⟨rb, 0, none⟩), .string S] w (SetPost w rb false 0 1) := by
  have h60 := P.h60
  have h62 := P.h62
  have H66 := P.h66
  have H63 := P.h63
  have H67 := P.h67
  have H64 := P.h64
  have hd0 := P.hd0
  have HP := Lib.hid P
  clear P
  go_enter_defers Tryz.func50, Tryz.ntmps50
  go_upto_region 36 with (first | (go_at_call 60; (with_reducible refine h60.mono ?_); rintro e w1 ⟨rfl, rfl⟩) | (go_at_call 62; (with_reducible refine h62.mono ?_); rintro e w1 ⟨rfl, hw1⟩; have h66 := H66.out w1 hw1.out.1 hw1.out.2) | (go_at_call 66; (with_reducible refine h66.mono ?_); rintro e w2 ⟨rfl, c1, hw2⟩; have h63 := H63.out w2 hw2.out.1 hw2.out.2) | (go_at_call 63; (with_reducible refine h63.mono ?_); rintro e w3 ⟨p, q, r, zo, rfl, ⟨x, c3⟩, z3, hw3⟩; have h67 := H67.out _ zo hw3.out.1 hw3.out.2.1 hw3.out.2.2.1 hw3.out.2.2.2) | (go_at_call 67; (with_reducible refine h67.mono ?_); rintro e w5 ⟨rfl, hw5⟩; have h64 := H64.out w5 zo hw5.out.1 hw5.out.2.1 hw5.out.2.2 hw3.out.2.2.2) | (go_at_call 64; (with_reducible refine h64.mono ?_); rintro e w6 ⟨rfl, e6, ⟨a6, l6, c6, q6, hl6, hl6'⟩, HS⟩))
  clear h60 h62 h63 h66 h67 h64 H66 H63 H67 H64 hw1 hw2 hw3 hw5 c1 c3 z3 x
  have hl : l6 = 0 := hl6.2 hM
  subst hM hl
  have h65 : Calls Tryz.prog 65 #[.pointer (some ⟨rb, 0, none⟩)] w6 fun e w7 => e = .returned (.pointer (some ⟨rb, 0, none⟩)) ∧ Hid (SetPost w rb false 0 1 (.returned (.tuple #[.pointer (some ⟨rb, 0, none⟩), .bool true])) w7) := by
    have hs := HS.out
    refine (norm_zero hs.r).mono ?_
    rintro e w7 ⟨rfl, ao', bo', nb, h1, h2, h3, h4⟩
    have hsz := hs.fr.size
    refine ⟨rfl, Lib.hid ⟨rfl, ao', bo', nb, h1, hs.fr.trans_new h2 ?_, ?_, ?_⟩⟩
    · intro x hx
      simp at hx
      rcases hx with e | e
      · left; simp [e]
      · right; exact hs.new x e
    · intro x hx
      rcases h3 with e | ⟨y, e, hy⟩
      · rw [e] at hx; exact hs.new x hx
      · rw [e] at hx; injection hx with hx; omega
    · intro x hx
      rcases h4 with e | ⟨y, e, hy⟩
      · rw [e] at hx; cases hx
      · rw [e] at hx; injection hx with hx; omega
  clear HS HP hl6
  go_wp2_with (go_at_call 65; (with_reducible refine h65.mono ?_); rintro e w7 ⟨rfl, HP⟩)
  exact ⟨.tuple #[.pointer (some ⟨rb, 0, none⟩), .bool true], by simp [results, Tryz.results50, go_sem], HP.out⟩

set_option maxRecDepth 100000 in
set_option maxHeartbeats 16000000 in
theorem setString_e0 {rb b : Nat} {S : ByteArray} {neg : Bool} {ex cnt : Int} {eb : Addr} {M pe : Nat} {w : World} (P : SetPre w rb b S neg ex eb cnt M pe) (hM0 : 0 < M) (hMl : M < 10 ^ 100) {f E : Int} (hf : f = if cnt < 0 then cnt else 0) (hf1 : -100 ≤ f) (hf2 : f ≤ 0) (hex1 : -99 ≤ ex) (hex2 : ex ≤ 99) (hE : f + ex = E) (h0 : E = 0) :
    Calls Tryz.prog 50 #[.pointer (some ⟨rb, 0, none⟩), .string S] w (SetPost w rb neg (numOf M E / Nat.gcd (numOf M E) (denOf E)) (denOf E / Nat.gcd (numOf M E) (denOf E))) := by
  subst h0
  have hn : numOf M 0 = M := by simp [numOf]
  have hd : denOf 0 = 1 := by simp [denOf]
  rw [hn, hd]
  clear hn hd
  have h60 := P.h60
  have h62 := P.h62
  have H66 := P.h66
  have H63 := P.h63
  have H67 := P.h67
  have H64 := P.h64
  have hd0 := P.hd0
  have HP := Lib.hid P
  clear P
  go_enter_defers Tryz.func50, Tryz.ntmps50
  go_upto_region 36 with (first | (go_at_call 60; (with_reducible refine h60.mono ?_); rintro e w1 ⟨rfl, rfl⟩) | (go_at_call 62; (with_reducible refine h62.mono ?_); rintro e w1 ⟨rfl, hw1⟩; have h66 := H66.out w1 hw1.out.1 hw1.out.2) | (go_at_call 66; (with_reducible refine h66.mono ?_); rintro e w2 ⟨rfl, c1, hw2⟩; have h63 := H63.out w2 hw2.out.1 hw2.out.2) | (go_at_call 63; (with_reducible refine h63.mono ?_); rintro e w3 ⟨p, q, r, zo, rfl, ⟨x, c3⟩, z3, hw3⟩; have h67 := H67.out _ zo hw3.out.1 hw3.out.2.1 hw3.out.2.2.1 hw3.out.2.2.2) | (go_at_call 67; (with_reducible refine h67.mono ?_); rintro e w5 ⟨rfl, hw5⟩; have h64 := H64.out w5 zo hw5.out.1 hw5.out.2.1 hw5.out.2.2 hw3.out.2.2.2) | (go_at_call 64; (with_reducible refine h64.mono ?_); rintro e w6 ⟨rfl, e6, ⟨a6, l6, c6, q6, hl6, hl6'⟩, HS⟩))
  clear h60 h62 h63 h66 h67 h64 H66 H63 H67 H64 hw1 hw2 hw3 hw5 c1 c3 z3 x
  have hl : ((l6 : Int) == 0) = false := by rw [beq_eq_false_iff_ne]; have : l6 ≠ 0 := fun e => by have := hl6.1 e; omega
                                            omega
  have Hf := Lib.hid hf
  have hstk := getStack w6
  obtain ⟨s, hs⟩ : ∃ s, w6.heap.size = s := ⟨_, rfl⟩
  obtain ⟨hsp, hnil⟩ := HS.out.stk HP.out.hlt HP.out.h14 HP.out.t
  rw [hs] at hstk hsp
  obtain ⟨w7, hw7⟩ : ∃ w7, w6.alloc (.cells #[.pointer none] 139) = w7 := ⟨_, rfl⟩
  rw [hw7] at hstk hsp hnil
  have HSP := Lib.hid (And.intro hnil hsp)
  have HMl := Lib.hid hMl
  clear HS HP hl6 hf hsp hnil hs hw7 hMl
  go_upto_if 140 with fail
  go_cut [18, 19, 20] from 24 to 157 (fun v18 v19 _ wc => v18 = .int .i64 f ∧ v19 = .int .i64 f ∧ w6 = wc)
  case first => as_aux_lemma =>
    have hff := Hf.out
    by_cases hc : cnt < 0
    · have hd : decide (cnt < 0) = true := by simpa using hc
      rw [if_pos hc] at hff
      clear hE Hf
      subst hff
      go_wp2_with fail
      go_meet
      exact ⟨rfl, rfl, rfl⟩
    · rw [if_neg hc] at hff
      have HFF := Lib.hid hff
      clear hff hE Hf
      have hd : decide (cnt < 0) = false := by simpa using hc
      go_wp2_with fail
      go_meet
      exact ⟨by rw [HFF.out], by rw [HFF.out], rfl⟩
  case rest =>
    obtain ⟨rfl, rfl, rfl⟩ := hcut
    clear Hf q6 hl hl6' e6
    have hsp := HSP.out.2
    obtain ⟨a2, l2, c2, q2, kO⟩ := hsp.one
    clear hsp HSP
    go_upto_if 245 with (first | (go_at_call 40; (with_reducible refine hstk.mono ?_); rintro e w8 ⟨rfl, rfl⟩; clear hstk) | (go_at_call 70; (with_reducible refine kO.mono ?_); rintro e w9 ⟨v, p3, q3, r3, rfl, rfl, q4, q5, HQ⟩))
    obtain ⟨bo', hsp⟩ := HQ.out
    have hb := big_lt (k := 0) HMl.out (by omega)
    clear q2 kO q4 HQ
    have hn0 : 0 < M := hM0
    have hd0' : 0 < 1 := by omega
    have hfin := fun neg => hsp.fin hn0 hd0' (hb.2.2.2.2) (by have := hb.2.1; simpa using this) neg
    cases neg
    · as_aux_lemma =>
        obtain ⟨⟨x1, f1⟩, f2, ⟨a3, l3, c3, f3, f4, f5⟩, k65⟩ := hfin false
        clear hfin hn0 hd0'
        go_wp2_with (go_at_call 65; (with_reducible refine k65.mono ?_); rintro e w9 ⟨rfl, hst, HQ⟩)
        refine leaves_cons (f := 41) (args := #[.pointer (some ⟨s, 0, none⟩)]) (by simp) (by simp [go_sem]) ?_
        refine (stkFree_d .returning hst).mono ?_
        rintro e u' w8 ⟨rfl, rfl, k2⟩
        exact ⟨.tuple #[.pointer (some ⟨rb, 0, none⟩), .bool true], by simp [results, Tryz.results50, go_sem], HQ.out w8 k2⟩
    · as_aux_lemma =>
        obtain ⟨⟨x1, f1⟩, f2, ⟨a3, l3, c3, f3, f4, f5⟩, k65⟩ := hfin true
        clear hfin hn0 hd0'
        have hl3 : decide ((l3 : Int) > 0) = true := by simp; omega
        go_wp2_with (go_at_call 65; (with_reducible refine k65.mono ?_); rintro e w9 ⟨rfl, hst, HQ⟩)
        refine leaves_cons (f := 41) (args := #[.pointer (some ⟨s, 0, none⟩)]) (by simp) (by simp [go_sem]) ?_
        refine (stkFree_d .returning hst).mono ?_
        rintro e u' w8 ⟨rfl, rfl, k2⟩
        exact ⟨.tuple #[.pointer (some ⟨rb, 0, none⟩), .bool true], by simp [results, Tryz.results50, go_sem], HQ.out w8 k2⟩
end Go.Proofs.YtpmggjplfcjkkaaGreatDoor
