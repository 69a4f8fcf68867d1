/- scanExponent. -/
import Derived.Test.YtpmggjplfcjkkaaGreatDoorZ23
set_option linter.unusedVariables false
set_option linter.unusedSimpArgs false
namespace Go.Proofs.YtpmggjplfcjkkaaGreatDoor
open Go.RowKit Nq
attribute [local go_sem] run_eof run_nil_eof

set_option maxRecDepth 100000 in
set_option maxHeartbeats 8000000 in
theorem scanExp_none {b : Nat} {S : ByteArray} {eb : Addr} {w : World} (h : Rdr w b S S.size) (hE : w.cell? ⟨0, 0, none⟩ = some (.iface 418 (.pointer (some eb)))) (h0 : b ≠ 0) :
    Calls Tryz.prog 67 #[rdv b, .bool true, .bool true] w (ExpPost w b S 0) := by
  have h1 := readEnd h hE h0
  have HE1 : Hid (∀ w1, Fr [b] w w1 → w1.cell? ⟨0, 0, none⟩ = some (.iface 418 (.pointer (some eb)))) := Lib.hid fun w1 hf => (cell_fr hf (by have := h.lt; omega) (by simpa using fun e => h0 e.symm)).trans hE
  clear h hE
  go_enter Tryz.func67, Tryz.ntmps67
  go_wp2_with (go_at_call 64; (with_reducible refine h1.mono ?_); rintro e w1 ⟨rfl, r1, f1⟩; have hE1 := HE1.out w1 f1; have HP := Lib.hid (And.intro r1 f1); clear r1 f1 h1)
  go_ret3
  exact ⟨rfl, HP.out⟩

set_option maxRecDepth 100000 in
set_option maxHeartbeats 8000000 in
theorem scanExp {b p q : Nat} {S : ByteArray} {sg : Option Bool} {D : List Nat} {eb : Addr} {w : World} (h : Rdr w b S p) (X : ExpT S p q sg D) (hS : S.size ≤ 2147483647) (hE : w.cell? ⟨0, 0, none⟩ = some (.iface 418 (.pointer (some eb)))) (h0 : b ≠ 0) :
    Calls Tryz.prog 67 #[rdv b, .bool true, .bool true] w (ExpPost w b S (expV sg D)) := by
  have hfin := X.fin
  have hnd : 0 < D.length := pos_of_ne X.nd
  have hlt : p + 1 < S.size := by rcases X.s with ⟨_, h⟩ | ⟨_, h, _⟩ | ⟨_, h, _⟩ <;> omega
  have h1 : Calls Tryz.prog 64 #[.pointer (some ⟨b, 0, none⟩)] w fun e w' => e = .returned (.tuple #[.int .u8 (byteAt S p : Nat), .nilIface]) ∧ Rdr w' b S (p + 1) ∧ Fr [b] w w' := by
    have := readByte h (by omega) hS
    rwa [← byteAt_eq (by omega)] at this
  have h2 : ∀ w1, Rdr w1 b S (p + 1) → Calls Tryz.prog 64 #[.pointer (some ⟨b, 0, none⟩)] w1 fun e w' => e = .returned (.tuple #[.int .u8 (byteAt S (p + 1) : Nat), .nilIface]) ∧ Rdr w' b S (p + 1 + 1) ∧ Fr [b] w1 w' := by
    intro w1 h
    have := readByte h hlt hS
    rwa [← byteAt_eq hlt] at this
  have hpar := fun w => Tryz.strconv_ParseInt_10_at64_ok (strOfNums (expB sg D)) (by rw [strOfNums_size]; have := expB_len sg D; have := X.l; omega) (expV sg D) (parse_exp X.d10 X.nd X.l) w
  obtain ⟨v, Hv⟩ : ∃ v : Int, Hid (expV sg D = v) := ⟨_, Lib.hid rfl⟩
  rw [Hv.out] at hpar ⊢
  have HE1 : Hid (∀ w1, Fr [b] w w1 → w1.cell? ⟨0, 0, none⟩ = some (.iface 418 (.pointer (some eb)))) := Lib.hid fun w1 hf => (cell_fr hf (by have := h.lt; omega) (by simpa using fun e => h0 e.symm)).trans hE
  obtain ⟨c1, hc1⟩ : ∃ c1 : Nat, byteAt S (p + 1) = c1 := ⟨_, rfl⟩
  rw [hc1] at h2
  have HC1 := Lib.hid hc1
  have HX := Lib.hid X
  have HB := Lib.hid h.lt
  have HF := Lib.hid (And.intro hfin (And.intro hnd hlt))
  have H2 := Lib.hid h2
  have HPAR := Lib.hid hpar
  obtain ⟨c, hc⟩ : ∃ c : Nat, byteAt S p = c := ⟨_, rfl⟩
  have he := X.e
  rw [hc] at h1 he
  clear h X hE hfin hnd hlt h2 hpar hc hc1
  rcases he with rfl | rfl
  all_goals
    go_enter Tryz.func67, Tryz.ntmps67
    go_upto_region 18 with (first | (go_at_call 64; (with_reducible refine h1.mono ?_); rintro e w1 ⟨rfl, r1, f1⟩; have h2 := H2.out w1 r1; clear h1) | (go_at_call 64; (with_reducible refine h2.mono ?_); rintro e w2 ⟨rfl, r2, f2⟩))
    have HW := Lib.hid (And.intro r2 (f1.trans f2))
    clear r1 f1 h2 r2 f2
    obtain ⟨sb, hsb⟩ : ∃ sb : Bool, sb = sg.isSome := ⟨_, rfl⟩
    have HSB := Lib.hid hsb
    clear hsb
    go_cut [49] (fun v49 wc => v49 = .bool sb ∧ w2 = wc)
    case first =>
      have hcc := HC1.out
      have hssb := HSB.out
      rcases HX.out.s with ⟨hsg, hq⟩ | ⟨hsg, hq, hb⟩ | ⟨hsg, hq, hb⟩
      · have hd := HX.out.d 0 HF.out.2.1
        have hd1 := HX.out.d10 _ (List.getElem_mem HF.out.2.1)
        have hd' : c1 = 48 + D[0]'(HF.out.2.1) := hcc.symm.trans ((congrArg (byteAt S) (show p + 1 = q + 0 by omega)).trans hd)
        have e1 : ((c1 : Int) == 43) = false := by rw [beq_eq_false_iff_ne]; omega
        have e2 : ((c1 : Int) == 45) = false := by rw [beq_eq_false_iff_ne]; omega
        rw [hsg] at hssb
        simp only [Option.isSome_none] at hssb
        subst hssb
        clear hd hd1 hd' hcc hsg hq HSB
        go_wp2_with fail
        go_meet
        exact ⟨rfl, rfl⟩
      · obtain rfl : c1 = 45 := by omega
        rw [hsg] at hssb
        simp only [Option.isSome_some] at hssb
        subst hssb
        clear hcc hsg hq hb HSB
        go_wp2_with fail
        go_meet
        exact ⟨rfl, rfl⟩
      · obtain rfl : c1 = 43 := by omega
        rw [hsg] at hssb
        simp only [Option.isSome_some] at hssb
        subst hssb
        clear hcc hsg hq hb HSB
        go_wp2_with fail
        go_meet
        exact ⟨rfl, rfl⟩
    case rest =>
      obtain ⟨rfl, rfl⟩ := hcut
      go_upto_if 49 with fail
      go_cut [8, 9, 10] (fun v8 v9 v10 wc => ∃ n, Hid (Se w wc b q S sg D (.iface 418 (.pointer (some eb))) 0 n v10 v9 v8))
      case first =>
        have hrn : Hid (∀ w3, q = p + 2 → Rdr w3 b S (p + 2) → Fr [b] w w3 → Calls Tryz.prog 64 #[.pointer (some ⟨b, 0, none⟩)] w3 fun e w' => ∃ c er, e = .returned (.tuple #[c, er]) ∧ Cur w' b S q (.iface 418 (.pointer (some eb))) c er ∧ Fr [b] w3 w') :=
          Lib.hid fun w3 e h f => by rw [e]; exact readNext h (by have := HF.out.2.2; omega) hS (HE1.out w3 f) h0
        have hssb := HSB.out
        rcases HX.out.s with ⟨hsg, hq⟩ | ⟨hsg, hq, hb⟩ | ⟨hsg, hq, hb⟩
        · have hcc := HC1.out
          rw [hsg] at hssb
          simp only [Option.isSome_none] at hssb
          subst hssb
          have HS : Hid (Se w w2 b q S sg D (.iface 418 (.pointer (some eb))) 0 0 (.slice none 0 0) (.int .u8 c1) .nilIface) :=
            Lib.hid ⟨by rw [hsg]; exact World.ownsRow_nil _ _ _ _, by omega, HW.out.2, .inl ⟨by rw [hq]; exact HF.out.2.2, rfl, by rw [hq, Nat.add_zero, hcc], by rw [hq]; exact HW.out.1⟩⟩
          clear hcc hsg hq hrn HSB
          go_wp2_with fail
          go_meet
          exact ⟨0, HS⟩
        · have hcc := HC1.out
          rw [hsg] at hssb
          simp only [Option.isSome_some] at hssb
          subst hssb
          obtain rfl : c1 = 45 := by omega
          have hnil := World.ownsRow_nil w2 w.heap.size 5 1
          have hbs := HW.out.2.size
          have HG : Hid (∀ v' w', w'.ownsRow w.heap.size 5 1 v' (0 + 1) ([] ++ [.int .u8 45]) → (w2.alloc (.cells #[.int .u8 45] 5)).grownBy w' (Value.slice none 0 0).ownBlock → Rdr w' b S (p + 2) ∧ Fr [b] w w' ∧ ∀ w3 c er, Cur w3 b S q (.iface 418 (.pointer (some eb))) c er → Fr [b] w' w3 → Se w w3 b q S sg D (.iface 418 (.pointer (some eb))) 0 1 v' c er) := by
            refine Lib.hid fun v' w' ho hg => ?_
            have f : Fr [] w2 w' := ((Fr.refl [] w2).alloc _).of_grown hg (fun k hk => by simp [Value.ownBlock] at hk)
            have f1 : Fr [b] w w' := HW.out.2.trans (f.mono (by simp))
            refine ⟨HW.out.1.fr f (by simp), f1, fun w3 c er hc hf => ⟨?_, by omega, f1.trans hf, hc⟩⟩
            rw [hsg]
            have := own_fr ho hf (by intro x hx; simp at hx; have := HB.out; omega)
            simpa [expB, byteVals] using this
          have HRN := Lib.hid (fun w3 h f => hrn.out w3 hq h f)
          clear hcc hsg hq hb hrn HSB
          go_wp2_with (first | (at_builtin; refine wpList_push_byte rfl _ _ rfl w.heap.size _ _ _ rfl _ hnil _ _ rfl (by omega) (by omega) ?_; intro v' w3 ho hg; obtain ⟨g1, g2, g3⟩ := HG.out v' w3 ho hg; have hrd := HRN.out w3 g1 g2; have HG3 := Lib.hid g3; clear ho hg g1 g2 g3) | (go_at_call 64; (with_reducible refine hrd.mono ?_); rintro e w4 ⟨c', er', rfl, hcur, hf1⟩; have HC := Lib.hid (And.intro hcur hf1); clear hcur hf1 hrd))
          go_meet
          exact ⟨1, Lib.hid (HG3.out _ _ _ HC.out.1 HC.out.2)⟩
        · have hcc := HC1.out
          rw [hsg] at hssb
          simp only [Option.isSome_some] at hssb
          subst hssb
          have hrd := hrn.out w2 hq HW.out.1 HW.out.2
          obtain rfl : c1 = 43 := by omega
          have HS : Hid (∀ w3 c er, Cur w3 b S q (.iface 418 (.pointer (some eb))) c er → Fr [b] w2 w3 → Se w w3 b q S sg D (.iface 418 (.pointer (some eb))) 0 0 (.slice none 0 0) c er) :=
            Lib.hid fun w3 c er hc hf => ⟨by rw [hsg]; exact World.ownsRow_nil _ _ _ _, by omega, HW.out.2.trans hf, hc⟩
          clear hcc hsg hq hb hrn HSB
          go_wp2_with (go_at_call 64; (with_reducible refine hrd.mono ?_); rintro e w3 ⟨c', er', rfl, hcur, hf1⟩; have HC := Lib.hid (And.intro hcur hf1); clear hcur hf1 hrd)
          go_meet
          exact ⟨0, Lib.hid (HS.out _ _ _ HC.out.1 HC.out.2)⟩
      case rest =>
        obtain ⟨n0, HS⟩ := hcut
        clear HSB HC1 HW H2
        go_wp2_with fail
        go_loopw [8, 9, 10, 11, 12, 13] (fun v8 v9 v10 v11 v12 v13 wr => ∃ (k n : Nat) (pr : Int) (hd : Bool), k ≤ D.length ∧ v11 = .int .i32 pr ∧ (pr == 95) = false ∧ v12 = .bool false ∧ v13 = .bool hd ∧ Hid (hd = decide (0 < k) ∧ Se w wr b q S sg D (.iface 418 (.pointer (some eb))) k n v10 v9 v8)) (fun _ _ v10 _ _ _ _ => 4 - lenOf v10)
        case atStart => exact ⟨0, n0, 46, false, by omega, rfl, rfl, rfl, rfl, Lib.hid ⟨rfl, HS.out⟩⟩
        case round =>
          clear HS n0
          obtain ⟨k, n, pr, hd, hk, rfl, hpr, rfl, rfl, HS⟩ := hrel
          obtain ⟨hhd, hs⟩ := HS.out
          obtain ⟨da, dc, rfl⟩ := own_form hs.own
          by_cases hkl : k < D.length
          · rcases hs.cur with ⟨hp, rfl, rfl, hr⟩ | ⟨hp, _⟩
            · have hdk := HX.out.d k hkl
              have hd10 := HX.out.d10 _ (List.getElem_mem hkl)
              have hl := HX.out.l
              have hfin := HF.out.1
              obtain ⟨c, hc⟩ : ∃ c : Int, c = ((48 + D[k] : Nat) : Int) := ⟨_, rfl⟩
              rw [hdk, ← hc]
              have cl : 48 ≤ c := by omega
              have ch : c ≤ 57 := by omega
              have hown := hs.own
              have hbase := hs.fr.size
              have hn := hs.len
              have HG : Hid (∀ v' w', w'.ownsRow w.heap.size 5 1 v' (n + 1) (byteVals (expB sg (D.take k)) ++ [.int .u8 c]) → (wr.alloc (.cells #[.int .u8 c] 5)).grownBy w' (Value.slice da n dc).ownBlock → (∃ a' cp', v' = .slice a' (n + 1) cp') ∧ Calls Tryz.prog 64 #[.pointer (some ⟨b, 0, none⟩)] w' (fun e w2 => ∃ c er, e = .returned (.tuple #[c, er]) ∧ Cur w2 b S (q + (k + 1)) (.iface 418 (.pointer (some eb))) c er ∧ Fr [b] w' w2) ∧ Hid (∀ w2 c' er', Fr [b] w' w2 → Cur w2 b S (q + (k + 1)) (.iface 418 (.pointer (some eb))) c' er' → Se w w2 b q S sg D (.iface 418 (.pointer (some eb))) (k + 1) (n + 1) v' c' er')) := by
                refine Lib.hid fun v' w' ho hg => ?_
                obtain ⟨k1, k2, k3⟩ := hs.push hkl hc hl HB.out ho hg
                exact ⟨own_form ho, readNext (k2 _ _ hr) (by omega) hS (HE1.out w' k1) h0, Lib.hid k3⟩
              have HK := Lib.hid hkl
              clear hs HS hdk hd10 hl hfin hc hp hr hhd hpr hkl
              go_wp2_with (first | (at_builtin; refine wpList_push_byte rfl _ _ rfl w.heap.size _ _ _ rfl _ hown _ _ rfl (by omega) (by omega) ?_; intro v' w3 ho hg; obtain ⟨⟨a', cp', rfl⟩, hrd, HG3⟩ := HG.out v' w3 ho hg; clear ho hg HG) | (go_at_call 64; (with_reducible refine hrd.mono ?_); rintro e w4 ⟨c', er', rfl, hcur, hf1⟩; have HC := Lib.hid (And.intro hcur hf1); clear hcur hf1 hrd))
              go_roundw
              case rel => exact ⟨k + 1, n + 1, 48, true, HK.out, rfl, by decide, rfl, rfl, Lib.hid ⟨by simp, HG3.out _ _ _ HC.out.2 HC.out.1⟩⟩
              case measure => simp [lenOf]; omega
            · exfalso; have := HF.out.1; omega
          · obtain rfl : k = D.length := by omega
            rcases hs.cur with ⟨hp, _⟩ | ⟨hp, rfl, rfl, hr⟩
            · exfalso; have := HF.out.1; omega
            · have hown := hs.own
              rw [List.take_length] at hown
              have hcv := owned_string hown
              have hE1 := HE1.out wr hs.fr
              have hp := HPAR.out wr
              have h01 : decide (0 < D.length) = true := by simp; exact HF.out.2.1
              rw [h01] at hhd
              subst hhd
              have HP : Hid (∀ w', (w' = wr ∨ ∃ t, w' = Lib.bytesWorld wr 5 t) → ExpPost w b S v (.returned (.tuple #[.int .i64 v, .int .i64 10, .nilIface])) w') := by
                refine Lib.hid fun w' hw => ?_
                have f : Fr [] wr w' := by
                  rcases hw with rfl | ⟨t, rfl⟩
                  · exact Fr.refl _ _
                  · exact Fr.bytes _ _
                exact ⟨rfl, hr.fr f (by simp), hs.fr.trans (f.mono (by simp))⟩
              clear hs HS hown hr h01 hkl
              go_wp2_with (go_at_call 115; (with_reducible refine hp.mono ?_); rintro e w4 ⟨rfl, hw⟩; have HQ := Lib.hid (HP.out w4 hw); clear hw HP)
              go_ret3
              exact HQ.out
end Go.Proofs.YtpmggjplfcjkkaaGreatDoor
