/- nat.scan. -/
import Derived.LaidEql
import Derived.Deep.DeepCutAuto
import Derived.Test.YtpmggjplfcjkkaaGreatDoorZ21
set_option linter.unusedVariables false
set_option linter.unusedSimpArgs false
namespace Go.Proofs.YtpmggjplfcjkkaaGreatDoor
open Go.RowKit Nq

theorem results_tmp4 {fn : Func} {t u v x : Tmp} (h : fn.results = #[.tmp t, .tmp u, .tmp v, .tmp x]) (tmps : Array Value) (P : Program) (w : World) :
    (results fn tmps).run P w = .ok (.tuple #[tmps.getD t undef, tmps.getD u undef, tmps.getD v undef, tmps.getD x undef]) w := by
  simp [results, h]
theorem eofCmp : (Tryz.prog.info? 418).map (·.comparable) = some true := by kernel_rfl
theorem eofSize : (Tryz.prog.info? 420).map (·.size) = some 1 := by kernel_rfl
theorem run_eof (w : World) (a : Addr) : (binOp .eql 69 (.iface 418 (.pointer (some a))) (.iface 418 (.pointer (some a)))).run Tryz.prog w = .ok (.bool true) w := by
  obtain ⟨i, hi, hc⟩ : ∃ i, Tryz.prog.info? 418 = some i ∧ i.comparable = true := by
    have h := eofCmp
    cases hi : Tryz.prog.info? 418 with
    | none => rw [hi] at h; cases h
    | some i => rw [hi] at h; exact ⟨i, rfl, by simpa using h⟩
  obtain ⟨j, hj⟩ : ∃ j, Tryz.prog.info? 420 = some j := by
    have h := eofSize
    cases hi : Tryz.prog.info? 420 with
    | none => rw [hi] at h; cases h
    | some i => exact ⟨i, rfl⟩
  exact run_eql_iface_ptr_same w a (ti := 69) (tp := 418) (te := 420) (ms := Tryz.prog.methodsAt 69) (by kernel_rfl) (by kernel_rfl) hi hc hj
theorem run_nil_eof (w : World) (v : Value) : (binOp .eql 69 .nilIface (.iface 418 v)).run Tryz.prog w = .ok (.bool false) w :=
  run_eql_iface_nil_left w (ti := 69) (ms := Tryz.prog.methodsAt 69) 418 v (by kernel_rfl)
attribute [local go_sem] run_eof run_nil_eof
/-- What scan hands back. -/
def ScanPost (w : World) (b : Nat) (S : ByteArray) (pe n : Nat) (cnt : Int) (e : Ending) (w' : World) : Prop :=
  ∃ zv zo, e = .returned (.tuple #[zv, .int .i64 10, .int .i64 cnt, .nilIface]) ∧ ScanEnd w b S pe n zv zo w'

set_option maxRecDepth 100000 in
set_option maxHeartbeats 16000000 in
theorem natScan {b a : Nat} {S : ByteArray} {I F : List Nat} {dot : Bool} {eb : Addr} {w : World} (h : Rdr w b S a) (T : Txt S a I F dot) (hS : S.size ≤ 2147483647) (hE : w.cell? ⟨0, 0, none⟩ = some (.iface 418 (.pointer (some eb)))) (h0 : b ≠ 0) (hlen : I.length + F.length ≤ 700) :
    Calls Tryz.prog 63 #[.slice none 0 0, rdv b, .int .i64 0, .bool true] w (ScanPost w b S (a + I.length + (if dot then 1 + F.length else 0)) (dval (I ++ F)) (if dot then -(F.length : Int) else I.length)) := by
  obtain ⟨cnt, Hcnt⟩ : ∃ cnt : Int, Hid ((if dot = true then -(F.length : Int) else I.length) = cnt) := ⟨_, Lib.hid rfl⟩
  obtain ⟨pe, Hpe⟩ : ∃ pe : Nat, Hid (a + I.length + (if dot = true then 1 + F.length else 0) = pe) := ⟨_, Lib.hid rfl⟩
  rw [Hcnt.out, Hpe.out]
  obtain ⟨R, HR⟩ : ∃ R : Int, Hid (R = ((10 ^ 19 : Nat) : Int)) := ⟨_, Lib.hid rfl⟩
  have hR0 : (R == 0) = false := by rw [HR.out]; decide
  have hmp : ∀ w : World, Calls Tryz.prog 107 #[.int .u64 10] w fun e w' => e = .returned (.tuple #[.int .u64 R, .int .i64 19]) ∧ w' = w := by
    intro w
    rw [HR.out]
    exact maxPow_ten w
  obtain ⟨i0, It, hI⟩ : ∃ i0 It, I = i0 :: It := by
    cases I with
    | nil => exact absurd rfl T.ni
    | cons x t => exact ⟨x, t, rfl⟩
  have hc0 : byteAt S a = 48 + i0 := by have := T.hi 0 (by rw [hI]; simp); simpa [hI] using this
  have hlt : a < S.size := by have := T.he; rw [hI] at this; simp at this; omega
  have hi0 : i0 < 10 := T.di i0 (by rw [hI]; simp)
  have h1 : Calls Tryz.prog 64 #[.pointer (some ⟨b, 0, none⟩)] w fun e w' => e = .returned (.tuple #[.int .u8 (48 + i0 : Nat), .nilIface]) ∧ Rdr w' b S (a + 1) ∧ Fr [b] w w' := by
    have := readByte h hlt hS
    rwa [← byteAt_eq hlt, hc0] at this
  have HB := Lib.hid h.lt
  have HT := Lib.hid T
  have HE := Lib.hid hE
  have hE1 : ∀ w1, Fr [b] w w1 → w1.cell? ⟨0, 0, none⟩ = some (.iface 418 (.pointer (some eb))) := fun w1 hf => (cell_fr hf (by have := h.lt; omega) (by simpa using fun e => h0 e.symm)).trans hE
  have HE1 := Lib.hid hE1
  have HZ : Hid (i0 = 0 → dval ((I ++ F).take 1) = 0) := Lib.hid (by intro e; rw [hI, e]; simp [dval])
  have HI : Hid (0 < I.length) := Lib.hid (by rw [hI]; simp)
  have HL : Hid (byteAt S a = 48 + i0 ∧ a < S.size) := Lib.hid ⟨hc0, hlt⟩
  have hb1 : ∀ w1, Rdr w1 b S (a + 1) → Fr [b] w w1 → Calls Tryz.prog 64 #[.pointer (some ⟨b, 0, none⟩)] w1 fun e w' => ∃ c er, e = .returned (.tuple #[c, er]) ∧ Cur w' b S (a + 1) (.iface 418 (.pointer (some eb))) c er ∧ Fr [b] w1 w' := fun w1 r f => readNext r (by omega) hS (hE1 w1 f) h0
  have HB1 := Lib.hid hb1
  obtain ⟨c0, hc00⟩ : ∃ c0 : Nat, 48 + i0 = c0 := ⟨_, rfl⟩
  rw [hc00] at h1
  have Hc00 := Lib.hid hc00
  clear h T hI hc0 hlt hE hE1 hb1 hc00 hi0
  go_enter Tryz.func63, Tryz.ntmps63
  go_upto_if 73 with (go_at_call 64; (with_reducible refine h1.mono ?_); rintro e w1 ⟨rfl, r1, f1⟩)
  have HR1 := Lib.hid (And.intro r1 f1)
  clear r1 f1 h1
  go_cut [9, 10, 11, 13, 15, 16] (fun v9 v10 v11 v13 v15 v16 wc => ∃ (m : Nat) (pr : Int), v9 = .int .i64 10 ∧ v10 = .int .i64 m ∧ v13 = .int .i32 pr ∧ (pr == 95) = false ∧ v16 = .int .i64 0 ∧ Hid (Sn w wc b a S I F dot false (.iface 418 (.pointer (some eb))) m 0 0 0 (.slice none 0 0) v15 v11 none))
  case first => as_aux_lemma =>
    by_cases hz : c0 = 48
    · subst hz
      have hrd := HB1.out w1 HR1.out.1 HR1.out.2
      have hnb : a + 1 < S.size → ∀ k, k ∈ [98, 66, 111, 79, 120, 88] → (((byteAt S (a + 1) : Nat) : Int) == k) = false := by
        intro hlt k hk
        rw [beq_eq_false_iff_ne]
        have hi := HI.out
        have := HT.out.kind (m := 1) (past := false) (by omega) (fun _ => by omega) (by simp) (by simpa using hlt)
        simp only [Bool.false_eq_true, if_false, Nat.add_zero] at this
        simp at hk
        rcases this with ⟨h, h1, h2, _⟩ | ⟨_, _, _, h2⟩ | ⟨_, _, h2⟩ <;> omega
      by_cases hlt : a + 1 < S.size
      · have e1 := hnb hlt 98 (by simp)
        have e2 := hnb hlt 66 (by simp)
        have e3 := hnb hlt 111 (by simp)
        have e4 := hnb hlt 79 (by simp)
        have e5 := hnb hlt 120 (by simp)
        have e6 := hnb hlt 88 (by simp)
        have hrd2 : Calls Tryz.prog 64 #[.pointer (some ⟨b, 0, none⟩)] w1 fun e w' => e = .returned (.tuple #[.int .u8 (byteAt S (a + 1) : Nat), .nilIface]) ∧ Hid (Cur w' b S (a + 1) (.iface 418 (.pointer (some eb))) (.int .u8 (byteAt S (a + 1) : Nat)) .nilIface ∧ Fr [b] w1 w') := by
          refine hrd.mono ?_
          rintro e w2 ⟨c, er, rfl, hcur, hf⟩
          rcases hcur with ⟨k1, rfl, rfl, k2⟩ | ⟨k1, _⟩
          · exact ⟨rfl, Lib.hid ⟨.inl ⟨k1, rfl, rfl, k2⟩, hf⟩⟩
          · omega
        clear hrd hnb hlt
        have HC1 : Hid (∀ w2, Cur w2 b S (a + 1) (.iface 418 (.pointer (some eb))) (.int .u8 (byteAt S (a + 1) : Nat)) .nilIface → Fr [b] w1 w2 → Sn w w2 b a S I F dot false (.iface 418 (.pointer (some eb))) 1 0 0 0 (.slice none 0 0) (.int .u8 (byteAt S (a + 1) : Nat)) .nilIface none) :=
          Lib.hid fun w2 hc hf => ⟨IsN.nil _, by simp, HR1.out.2.trans hf, by simpa using hc, by rw [HZ.out (by have := Hc00.out; omega)], by decide, by decide, by have := HI.out; omega, fun _ => by have := HI.out; omega, by simp⟩
        generalize ((byteAt S (a + 1) : Nat) : Int) = c1 at *
        go_wp2_with (go_at_call 64; (with_reducible refine hrd2.mono ?_); rintro e w2 ⟨rfl, HC2⟩)
        go_meet
        exact ⟨1, 48, rfl, rfl, rfl, by decide, rfl, Lib.hid (HC1.out _ HC2.out.1 HC2.out.2)⟩
      · have hrd2 : Calls Tryz.prog 64 #[.pointer (some ⟨b, 0, none⟩)] w1 fun e w' => e = .returned (.tuple #[.int .u8 0, .iface 418 (.pointer (some eb))]) ∧ Hid (Cur w' b S (a + 1) (.iface 418 (.pointer (some eb))) (.int .u8 0) (.iface 418 (.pointer (some eb))) ∧ Fr [b] w1 w') := by
          refine hrd.mono ?_
          rintro e w2 ⟨c, er, rfl, hcur, hf⟩
          rcases hcur with ⟨k1, _⟩ | ⟨k1, rfl, rfl, k2⟩
          · omega
          · exact ⟨rfl, Lib.hid ⟨.inr ⟨k1, rfl, rfl, k2⟩, hf⟩⟩
        clear hrd hnb hlt
        have HC1 : Hid (∀ w2, Cur w2 b S (a + 1) (.iface 418 (.pointer (some eb))) (.int .u8 0) (.iface 418 (.pointer (some eb))) → Fr [b] w1 w2 → Sn w w2 b a S I F dot false (.iface 418 (.pointer (some eb))) 1 0 0 0 (.slice none 0 0) (.int .u8 0) (.iface 418 (.pointer (some eb))) none) :=
          Lib.hid fun w2 hc hf => ⟨IsN.nil _, by simp, HR1.out.2.trans hf, by simpa using hc, by rw [HZ.out (by have := Hc00.out; omega)], by decide, by decide, by have := HI.out; omega, fun _ => by have := HI.out; omega, by simp⟩
        go_wp2_with (go_at_call 64; (with_reducible refine hrd2.mono ?_); rintro e w2 ⟨rfl, HC2⟩)
        go_meet
        exact ⟨1, 48, rfl, rfl, rfl, by decide, rfl, Lib.hid (HC1.out _ HC2.out.1 HC2.out.2)⟩
    · have d0 : ((c0 : Int) == 48) = false := by rw [beq_eq_false_iff_ne]; omega
      have HS : Hid (Sn w w1 b a S I F dot false (.iface 418 (.pointer (some eb))) 0 0 0 0 (.slice none 0 0) (.int .u8 c0) .nilIface none) := Lib.hid ⟨IsN.nil _, by simp, HR1.out.2, .inl ⟨HL.out.2, rfl, by simp [HL.out.1, Hc00.out], HR1.out.1⟩, by simp [dval], by decide, by decide, by omega, fun _ => by omega, by simp⟩
      go_wp2_with fail
      go_meet
      exact ⟨0, 46, rfl, rfl, rfl, by decide, rfl, HS⟩
  case rest =>
    obtain ⟨m0, pr0, rfl, rfl, rfl, hpr0, rfl, HS⟩ := hcut
    clear HR1 HB1 Hc00 HL HZ
    go_wp2_with (go_at_call 107; (with_reducible refine (hmp _).mono ?_); rintro e w2 ⟨rfl, rfl⟩; clear hmp)
    go_loopw [0, 3, 10, 11, 13, 14, 15, 20, 21, 22] (fun v0 v3 v10 v11 v13 v14 v15 v20 v21 v22 wr => ∃ (past fr : Bool) (m z i w2 : Nat) (zo : Option Nat) (pr dp : Int), v3 = .bool fr ∧ v10 = .int .i64 m ∧ v13 = .int .i32 pr ∧ (pr == 95) = false ∧ v14 = .bool false ∧ v20 = .int .u64 w2 ∧ v21 = .int .i64 i ∧ v22 = .int .i64 dp ∧ Hid (fr = !past ∧ dp = if past then (I.length : Int) else -1) ∧ Hid (Sn w wr b a S I F dot past (.iface 418 (.pointer (some eb))) m z i w2 v0 v15 v11 zo)) (fun _ v3 v10 _ _ _ _ _ _ _ _ => (I.length + F.length - (intOf v10).toNat) + boolN v3)
    case atStart => exact ⟨false, true, m0, 0, 0, 0, none, pr0, -1, rfl, rfl, rfl, hpr0, rfl, rfl, rfl, rfl, Lib.hid ⟨rfl, rfl⟩, HS⟩
    case round =>
      clear HS hpr0
      obtain ⟨past, fr, m, z, i, w2, zo, pr, dp, rfl, rfl, rfl, hpr, rfl, rfl, rfl, rfl, HP, HS⟩ := hrel
      have hs := HS.out
      obtain ⟨za, zl, zc, rfl⟩ := hs.zn.slice
      have il := hs.il
      have ml := hs.ml
      have hEr := HE1.out wr hs.fr
      have mle : m ≤ 700 := by omega
      -- the way out: from a world w1 on, with m digits read
      have hout : past = dot → m = I.length + F.length → ∀ w1, Fr [b] wr w1 → Rdr w1 b S pe → (i = 0 → Hid (ScanEnd w b S pe (dval (I ++ F)) (.slice za zl zc) zo w1)) ∧ Calls Tryz.prog 94 #[.slice za zl zc, .slice za zl zc, .int .u64 (10 ^ i : Nat), .int .u64 w2] w1 fun e w' => ∃ v o, e = .returned v ∧ (∃ p q s, v = .slice p q s) ∧ Hid (ScanEnd w b S pe (dval (I ++ F)) v o w') := by
        intro hpd hm w1 hf hr
        refine ⟨?_, ?_⟩
        · rintro rfl
          exact hs.done hm HB.out hf hr
        · rw [hs.take_all hm]
          exact hs.grow HT.out hlen HB.out hf hr (ten_lt (by omega)) (Nat.lt_trans hs.wl (ten_lt (by omega)))
      have hdp : past = dot → m = I.length + F.length → ((m : Int) == 0) = false ∧ ((dot = true ∧ dp = I.length ∧ (dp - (m : Int)) = cnt) ∨ (dot = false ∧ dp = -1 ∧ (m : Int) = cnt)) := by
        intro hpd hm
        refine ⟨by rw [beq_eq_false_iff_ne]; have := HI.out; omega, ?_⟩
        have hcnt := Hcnt.out
        have h2 := HP.out.2
        rw [hpd] at h2
        cases dot with
        | true => left; simp at h2 hcnt; exact ⟨rfl, h2, by omega⟩
        | false => right; simp at h2 hcnt; have := HT.out.nf rfl; subst this; exact ⟨rfl, h2, by simp at hm; omega⟩
      have HOUT := Lib.hid hout
      clear hout
      rcases hs.cur with ⟨hp, h11, h15, hr⟩ | ⟨hp, rfl, rfl, hr⟩
      · rcases HT.out.kind ml hs.np hs.pp hp with ⟨hmn, hd10, hb48, hpl⟩ | ⟨hpa, hdo, hmi, hb46⟩ | ⟨hpd, hm, hbe⟩
        · have hpe1 : a + m + (if past = true then 1 else 0) + 1 = a + (m + 1) + (if past = true then 1 else 0) := by omega
          rw [hpe1] at hr
          obtain ⟨d, hd⟩ : ∃ d, (I ++ F)[m] = d := ⟨_, rfl⟩
          obtain ⟨c, hc⟩ : ∃ c : Int, ((48 + d : Nat) : Int) = c := ⟨_, rfl⟩
          obtain ⟨q1, hq1⟩ : ∃ q1 : Nat, q1 = w2 * 10 := ⟨_, rfl⟩
          obtain ⟨q2, hq2⟩ : ∃ q2 : Nat, q2 = w2 * 10 + d := ⟨_, rfl⟩
          have hd10' := hd10
          rw [hd] at hd10 hb48
          rw [hb48, hc] at h15
          have c46 : (c == 46) = false := by rw [beq_eq_false_iff_ne]; omega
          have c95 : (c == 95) = false := by rw [beq_eq_false_iff_ne]; omega
          have cl : 48 ≤ c := by omega
          have ch : c ≤ 57 := by omega
          have hsub : c - 48 = (d : Int) := by omega
          have hw18 : w2 < 10 ^ 18 := Nat.lt_of_lt_of_le hs.wl (Nat.pow_le_pow_right (by decide) (by omega))
          have hwr1 : IntKind.u64.wrap ((w2 : Int) * 10) = (q1 : Int) := by simp only [IntKind.wrap, IntKind.bits, IntKind.signed, Bool.false_and, Bool.false_eq_true, if_false]; omega
          have hwr2 : IntKind.u64.wrap ((q1 : Int) + (d : Int)) = (q2 : Int) := by simp only [IntKind.wrap, IntKind.bits, IntKind.signed, Bool.false_and, Bool.false_eq_true, if_false]; omega
          have hwd : IntKind.u8.wrap (d : Int) = (d : Int) := by simp only [IntKind.wrap, IntKind.bits, IntKind.signed, Bool.false_and, Bool.false_eq_true, if_false]; omega
          have hwd2 : IntKind.u64.wrap (d : Int) = (d : Int) := by simp only [IntKind.wrap, IntKind.bits, IntKind.signed, Bool.false_and, Bool.false_eq_true, if_false]; omega
          have hge : decide ((d : Int) ≥ 10) = false := by simp; omega
          have hge' : decide ((10 : Int) ≤ (d : Int)) = false := by simp; omega
          have hml : m < I.length + F.length := by simpa using hmn
          have hq2lt : q2 < Bw := Nat.lt_of_lt_of_le (by omega : q2 < 10 ^ 19) (Nat.le_of_lt (ten_lt (by decide)))
          have hple : a + (m + 1) + (if past = true then 1 else 0) ≤ S.size := by omega
          have HRD : Hid (∀ w1, Fr [b] w w1 → Rdr w1 b S (a + (m + 1) + (if past = true then 1 else 0)) → Calls Tryz.prog 64 #[.pointer (some ⟨b, 0, none⟩)] w1 fun e w' => ∃ c er, e = .returned (.tuple #[c, er]) ∧ Cur w' b S (a + (m + 1) + (if past = true then 1 else 0)) (.iface 418 (.pointer (some eb))) c er ∧ Fr [b] w1 w') :=
            Lib.hid fun w1 f r => readNext r hple hS (HE1.out w1 f) h0
          by_cases hi : i = 18
          · as_aux_lemma =>
              have hrd : True := trivial
              have hfull : Calls Tryz.prog 94 #[.slice za zl zc, .slice za zl zc, .int .u64 R, .int .u64 q2] wr fun e w' => ∃ v o, e = .returned v ∧ (∃ p q s, v = .slice p q s) ∧ Hid (ScanEnd w b S (a + (m + 1) + (if past = true then 1 else 0)) (z * 10 ^ 19 + q2) v o w') := by
                rw [HR.out]; exact hs.grow HT.out hlen HB.out (Fr.refl _ _) hr (ten_lt (by decide)) hq2lt
              subst hi
              have HN : Hid (∀ w1 w2' v o c' er', ScanEnd w b S (a + (m + 1) + (if past = true then 1 else 0)) (z * 10 ^ 19 + q2) v o w1 → Fr [b] w1 w2' → Cur w2' b S (a + (m + 1) + (if past = true then 1 else 0)) (.iface 418 (.pointer (some eb))) c' er' → Sn w w2' b a S I F dot past (.iface 418 (.pointer (some eb))) (m + 1) (z * 10 ^ 19 + q2) 0 0 v c' er' o) :=
                Lib.hid fun w1 w2' v o c' er' he hf hcur => by
                  have := hs.full hmn hpl HB.out (w1 := w1) (v := v) (o := o) (by rw [hd, ← hq2]; exact he) hf hcur
                  rwa [hd, ← hq2] at this
              subst h11 h15
              clear HOUT hs hr hp hmn hd hd10' hb48 hpl hq1 hq2 hw18 hc hdp hpe1 hq2lt hple ml
              go_wp2_with (first | (go_at_call 94; (with_reducible refine hfull.mono ?_); rintro e w1 ⟨v, o, rfl, ⟨p, q, s, rfl⟩, HF⟩; clear hfull; have hrd' := HRD.out w1 HF.out.fr HF.out.rdr) | (go_at_call 64; (with_reducible refine hrd'.mono ?_); rintro e w2' ⟨c', er', rfl, hcur, hf1⟩; have HC := Lib.hid (And.intro hcur hf1); clear hcur hf1 hrd'))
              go_roundw
              case rel => exact ⟨past, fr, m + 1, _, 0, 0, o, 48, dp, rfl, by go_num, rfl, by decide, rfl, rfl, rfl, rfl, HP, Lib.hid (HN.out _ _ _ _ _ _ HF.out HC.out.2 HC.out.1)⟩
              case measure => simp [intOf]; omega
          · as_aux_lemma =>
              have hi19 : ((i : Int) + 1 == 19) = false := by rw [beq_eq_false_iff_ne]; omega
              have hrd := HRD.out wr hs.fr hr
              have HN : Hid (∀ w1 c' er', Fr [b] wr w1 → Cur w1 b S (a + (m + 1) + (if past = true then 1 else 0)) (.iface 418 (.pointer (some eb))) c' er' → Sn w w1 b a S I F dot past (.iface 418 (.pointer (some eb))) (m + 1) z (i + 1) q2 (.slice za zl zc) c' er' zo) :=
                Lib.hid fun w1 c' er' hf hcur => by
                  have := hs.push hmn hd10' hpl (by omega) HB.out hf hcur
                  rwa [hd, ← hq2] at this
              subst h11 h15
              clear HOUT hs hr hp hmn hd hd10' hb48 hpl hq1 hq2 hw18 hc hdp hpe1 hq2lt hple ml HRD
              go_wp2_with (go_at_call 64; (with_reducible refine hrd.mono ?_); rintro e w1 ⟨c', er', rfl, hcur, hf1⟩; have HC := Lib.hid (And.intro hcur hf1); clear hcur hf1 hrd)
              go_roundw
              case rel => exact ⟨past, fr, m + 1, z, i + 1, q2, zo, 48, dp, rfl, by go_num, rfl, by decide, rfl, rfl, by go_num, rfl, HP, Lib.hid (HN.out _ _ _ HC.out.2 HC.out.1)⟩
              case measure => simp [intOf]; omega
        · as_aux_lemma =>
            subst hpa
            obtain ⟨hfr, hdp1⟩ := HP.out
            simp only [Bool.not_false] at hfr
            subst hfr
            simp only [Bool.false_eq_true, if_false, Nat.add_zero] at hp hb46 h15 hr
            rw [hb46] at h15
            have hrd := readNext hr (by omega) hS hEr h0
            have HN : Hid (∀ w1 c' er', Fr [b] wr w1 → Cur w1 b S (a + m + 1) (.iface 418 (.pointer (some eb))) c' er' → Sn w w1 b a S I F dot true (.iface 418 (.pointer (some eb))) m z i w2 (.slice za zl zc) c' er' zo) :=
              Lib.hid fun w1 c' er' hf hcur => hs.point hdo hmi HB.out hf hcur
            have h15' := h15.trans (show Value.int .u8 ((46 : Nat) : Int) = .int .u8 46 from rfl)
            have HMI := Lib.hid hmi
            have HDO := Lib.hid hdo
            subst h11 h15'
            clear HOUT hs hr hp hb46 hdp ml h15 hdp1 HP hmi hdo
            go_wp2_with (go_at_call 64; (with_reducible refine hrd.mono ?_); rintro e w1 ⟨c', er', rfl, hcur, hf1⟩; have HC := Lib.hid (And.intro hcur hf1); clear hcur hf1 hrd)
            go_roundw
            case rel => exact ⟨true, false, m, z, i, w2, zo, 46, m, rfl, rfl, rfl, by decide, rfl, rfl, rfl, rfl, Lib.hid ⟨rfl, by simp [HMI.out]⟩, Lib.hid (HN.out _ _ _ HC.out.2 HC.out.1)⟩
            case measure => simp [intOf, boolN]
        · obtain ⟨hm0, hdp⟩ := hdp hpd hm
          have hpp : a + m + (if past = true then 1 else 0) = pe := by
            have h1 := Hpe.out
            rw [hpd]
            cases dot with
            | true => simp at h1 ⊢; omega
            | false => have := HT.out.nf rfl; subst this; simp at h1 hm ⊢; omega
          rw [hpp] at hp hbe h15 hr
          have hun := unreadByte hr (by omega)
          have HO : Hid (∀ w1, Rdr w1 b S pe → Fr [b] wr w1 → w1.cell? ⟨0, 0, none⟩ = some (.iface 418 (.pointer (some eb))) ∧ (i = 0 → Hid (ScanEnd w b S pe (dval (I ++ F)) (.slice za zl zc) zo w1)) ∧ Calls Tryz.prog 94 #[.slice za zl zc, .slice za zl zc, .int .u64 (10 ^ i : Nat), .int .u64 w2] w1 fun e w' => ∃ v o, e = .returned v ∧ (∃ p q s, v = .slice p q s) ∧ Hid (ScanEnd w b S pe (dval (I ++ F)) v o w')) :=
            Lib.hid fun w1 r f => ⟨HE1.out w1 (hs.fr.trans f), HOUT.out hpd hm w1 f r⟩
          have hpw := fun w => pow_ten i il w
          have hge : decide ((I.length : Int) ≥ 0) = true := by simp
          clear hs hm hp hr hpd HP HT HS HOUT Hcnt hpp ml
          rcases hbe with hbe | hbe
          all_goals
            rw [hbe] at h15
            clear hbe
            subst h11 h15
          · as_aux_lemma =>
              by_cases hi : i = 0
              · subst hi
                rcases hdp with ⟨-, rfl, hc⟩ | ⟨-, rfl, hc⟩
                · go_wp2_with (go_at_call 292; (with_reducible refine hun.mono ?_); rintro e w1 ⟨rfl, r1, f1⟩; obtain ⟨hEr1, hfin, -⟩ := HO.out w1 r1 f1; have HF := hfin rfl; clear hfin r1 f1 hun)
                  refine bodyPost_ret (results_tmp4 rfl _ _ _) rfl ?_
                  exact ⟨_, _, rfl, HF.out⟩
                · go_wp2_with (go_at_call 292; (with_reducible refine hun.mono ?_); rintro e w1 ⟨rfl, r1, f1⟩; obtain ⟨hEr1, hfin, -⟩ := HO.out w1 r1 f1; have HF := hfin rfl; clear hfin r1 f1 hun)
                  refine bodyPost_ret (results_tmp4 rfl _ _ _) rfl ?_
                  exact ⟨_, _, by rw [← hc]; rfl, HF.out⟩
              · have hi0 : 0 < i := by omega
                generalize 10 ^ i = y at *
                rcases hdp with ⟨-, rfl, hc⟩ | ⟨-, rfl, hc⟩
                · go_wp2_with (first | (go_at_call 292; (with_reducible refine hun.mono ?_); rintro e w1 ⟨rfl, r1, f1⟩; obtain ⟨hEr1, -, hmul⟩ := HO.out w1 r1 f1; clear r1 f1 hun) | (go_at_call 108; (with_reducible refine (hpw _).mono ?_); rintro e w1 ⟨rfl, rfl⟩) | (go_at_call 94; (with_reducible refine hmul.mono ?_); rintro e w1 ⟨v, o, rfl, ⟨p, q, s, rfl⟩, HF⟩))
                  refine bodyPost_ret (results_tmp4 rfl _ _ _) rfl ?_
                  exact ⟨_, _, rfl, HF.out⟩
                · go_wp2_with (first | (go_at_call 292; (with_reducible refine hun.mono ?_); rintro e w1 ⟨rfl, r1, f1⟩; obtain ⟨hEr1, -, hmul⟩ := HO.out w1 r1 f1; clear r1 f1 hun) | (go_at_call 108; (with_reducible refine (hpw _).mono ?_); rintro e w1 ⟨rfl, rfl⟩) | (go_at_call 94; (with_reducible refine hmul.mono ?_); rintro e w1 ⟨v, o, rfl, ⟨p, q, s, rfl⟩, HF⟩))
                  refine bodyPost_ret (results_tmp4 rfl _ _ _) rfl ?_
                  exact ⟨_, _, by rw [← hc]; rfl, HF.out⟩
          · as_aux_lemma =>
              by_cases hi : i = 0
              · subst hi
                rcases hdp with ⟨-, rfl, hc⟩ | ⟨-, rfl, hc⟩
                · go_wp2_with (go_at_call 292; (with_reducible refine hun.mono ?_); rintro e w1 ⟨rfl, r1, f1⟩; obtain ⟨hEr1, hfin, -⟩ := HO.out w1 r1 f1; have HF := hfin rfl; clear hfin r1 f1 hun)
                  refine bodyPost_ret (results_tmp4 rfl _ _ _) rfl ?_
                  exact ⟨_, _, rfl, HF.out⟩
                · go_wp2_with (go_at_call 292; (with_reducible refine hun.mono ?_); rintro e w1 ⟨rfl, r1, f1⟩; obtain ⟨hEr1, hfin, -⟩ := HO.out w1 r1 f1; have HF := hfin rfl; clear hfin r1 f1 hun)
                  refine bodyPost_ret (results_tmp4 rfl _ _ _) rfl ?_
                  exact ⟨_, _, by rw [← hc]; rfl, HF.out⟩
              · have hi0 : 0 < i := by omega
                generalize 10 ^ i = y at *
                rcases hdp with ⟨-, rfl, hc⟩ | ⟨-, rfl, hc⟩
                · go_wp2_with (first | (go_at_call 292; (with_reducible refine hun.mono ?_); rintro e w1 ⟨rfl, r1, f1⟩; obtain ⟨hEr1, -, hmul⟩ := HO.out w1 r1 f1; clear r1 f1 hun) | (go_at_call 108; (with_reducible refine (hpw _).mono ?_); rintro e w1 ⟨rfl, rfl⟩) | (go_at_call 94; (with_reducible refine hmul.mono ?_); rintro e w1 ⟨v, o, rfl, ⟨p, q, s, rfl⟩, HF⟩))
                  refine bodyPost_ret (results_tmp4 rfl _ _ _) rfl ?_
                  exact ⟨_, _, rfl, HF.out⟩
                · go_wp2_with (first | (go_at_call 292; (with_reducible refine hun.mono ?_); rintro e w1 ⟨rfl, r1, f1⟩; obtain ⟨hEr1, -, hmul⟩ := HO.out w1 r1 f1; clear r1 f1 hun) | (go_at_call 108; (with_reducible refine (hpw _).mono ?_); rintro e w1 ⟨rfl, rfl⟩) | (go_at_call 94; (with_reducible refine hmul.mono ?_); rintro e w1 ⟨v, o, rfl, ⟨p, q, s, rfl⟩, HF⟩))
                  refine bodyPost_ret (results_tmp4 rfl _ _ _) rfl ?_
                  exact ⟨_, _, by rw [← hc]; rfl, HF.out⟩
      · as_aux_lemma =>
          obtain ⟨hpd, hm⟩ := HT.out.fin ml hs.np hs.pp hp
          obtain ⟨hm0, hdp⟩ := hdp hpd hm
          have hwr : Rdr wr b S pe := by
            have e : pe = S.size := by
              have h1 := Hpe.out
              rw [hpd] at hp
              cases dot with
              | true => simp at h1 hp; omega
              | false => have := HT.out.nf rfl; subst this; simp at h1 hp hm; omega
            rw [e]; exact hr
          obtain ⟨hfin, hmul⟩ := HOUT.out hpd hm wr (Fr.refl _ _) hwr
          have hpw := pow_ten i il wr
          have HI' : Hid (0 < I.length) := HI
          have hge : decide ((I.length : Int) ≥ 0) = true := by simp
          clear hs hm hp hr hpd HP HT HS hwr HOUT Hcnt
          by_cases hi : i = 0
          · have HF := hfin hi
            clear hfin hmul hpw
            subst hi
            rcases hdp with ⟨-, rfl, hc⟩ | ⟨-, rfl, hc⟩
            · go_wp2_with fail
              refine bodyPost_ret (results_tmp4 rfl _ _ _) rfl ?_
              exact ⟨_, _, rfl, HF.out⟩
            · go_wp2_with fail
              refine bodyPost_ret (results_tmp4 rfl _ _ _) rfl ?_
              exact ⟨_, _, by rw [← hc]; rfl, HF.out⟩
          · have hi0 : 0 < i := by omega
            clear hfin
            generalize 10 ^ i = y at *
            rcases hdp with ⟨-, rfl, hc⟩ | ⟨-, rfl, hc⟩
            · go_wp2_with (first | (go_at_call 108; (with_reducible refine hpw.mono ?_); rintro e w1 ⟨rfl, rfl⟩) | (go_at_call 94; (with_reducible refine hmul.mono ?_); rintro e w1 ⟨v, o, rfl, ⟨p, q, s, rfl⟩, HF⟩))
              refine bodyPost_ret (results_tmp4 rfl _ _ _) rfl ?_
              exact ⟨_, _, rfl, HF.out⟩
            · go_wp2_with (first | (go_at_call 108; (with_reducible refine hpw.mono ?_); rintro e w1 ⟨rfl, rfl⟩) | (go_at_call 94; (with_reducible refine hmul.mono ?_); rintro e w1 ⟨v, o, rfl, ⟨p, q, s, rfl⟩, HF⟩))
              refine bodyPost_ret (results_tmp4 rfl _ _ _) rfl ?_
              exact ⟨_, _, by rw [← hc]; rfl, HF.out⟩
end Go.Proofs.YtpmggjplfcjkkaaGreatDoor
