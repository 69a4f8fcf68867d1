/- spec.jDecimalOf: the whole. -/
import Derived.Test.YtpmggjplfcjkkaaGreatDoorZ01
set_option linter.unusedVariables false
set_option linter.unusedSimpArgs false
namespace Go.Proofs.YtpmggjplfcjkkaaGreatDoor
open Go.RowKit Nq

set_option maxRecDepth 100000 in
set_option maxHeartbeats 4000000 in
theorem jDec_noPart (S : ByteArray) (h : S.size ≤ 40) (hp : plainB (S.extract (decAt S) (decWh S)) = true) (hq : byteAt S (decWh S) = 46) (hr0 : run S (decWh S + 1) = decWh S + 1) (w : World) : Calls Tryz.prog 15 #[.string S] w (DecPost w (decF S)) := by
  have HP : Hid (decF S = none) := Lib.hid (by
    unfold decF decPart
    rw [if_neg (by omega), if_neg (by rw [hp]; decide), if_pos ⟨hq, by rw [if_pos hq]; exact hr0⟩])
  have ha := decAt_le S
  have hr := run_spec S ha
  have hw1 : decAt S ≤ decWh S := hr.1
  have hw2 : decWh S ≤ S.size := hr.2.1
  have hw3 : decWh S < S.size := byteAt_in hq (by decide)
  have hd : decide ((S.size : Int) > 40) = false := decide_eq_false (by omega)
  have hd2 : decide ((decWh S : Int) < S.size) = true := decide_eq_true (by omega)
  have hes : (S.extract (decAt S) (decWh S)).size ≤ 2147483647 := by simp [ByteArray.size_extract]; omega
  have h27 := fun w1 => jPlain (S.extract (decAt S) (decWh S)) hes w1
  rw [hp] at h27
  have h26' : ∀ w1, Calls Tryz.prog 26 #[.string S, .int .i64 (decAt S)] w1 fun e w' => e = .returned (.int .i64 (decWh S)) ∧ w1 = w' := fun w1 => jRun S (decAt S) (by omega) ha w1
  have h26'' : ∀ w1, Calls Tryz.prog 26 #[.string S, .int .i64 ((decWh S : Int) + 1)] w1 fun e w' => e = .returned (.int .i64 ((decWh S : Int) + 1)) ∧ w1 = w' := fun w1 => by
    have := jRun S (decWh S + 1) (by omega) (by omega) w1
    rw [hr0] at this
    exact_mod_cast this
  have HA : Hid ((0 < S.size ∧ byteAt S 0 = 45 ∧ decAt S = 1) ∨ (byteAt S 0 ≠ 45 ∧ decAt S = 0)) := Lib.hid (by
    by_cases e : byteAt S 0 = 45
    · left; exact ⟨byteAt_pos e (by decide), e, by unfold decAt; rw [if_pos e]⟩
    · right; exact ⟨e, by unfold decAt; rw [if_neg e]⟩)
  obtain ⟨a, haa⟩ : ∃ a, decAt S = a := ⟨_, rfl⟩
  obtain ⟨b, hbb⟩ : ∃ b, decWh S = b := ⟨_, rfl⟩
  rw [haa] at hw1 h26' h27 HA
  rw [hbb] at hw1 hw2 hd2 h26' h26'' h27 hq
  have hw3 : b < S.size := by rw [← hbb]; exact hw3
  rw [byteAt_eq hw3] at hq
  have d1 : (((S[b]'hw3).toNat : Nat) : Int) = 46 := by omega
  clear hp ha hr hes haa hbb hr0 hq
  go_enter Tryz.func15, Tryz.ntmps15
  go_upto_region 4 with fail
  generalize hw0 : World.alloc w _ = w0 at *
  have HF : Hid (Fr [] w w0 ∧ w0 = w.alloc (.cells #[.bool false, .string ⟨#[]⟩, .int .i64 0] 38)) := Lib.hid ⟨by rw [← hw0]; exact (Fr.refl _ _).alloc _, hw0.symm⟩
  clear hw0
  obtain ⟨sb, hsb⟩ : ∃ sb : Bool, sb = (a == 1) := ⟨_, rfl⟩
  go_cut [20] (fun v20 wc => v20 = .bool sb ∧ w0 = wc)
  case first =>
    rcases HA.out with ⟨hp0, hb45, rfl⟩ | ⟨hn45, rfl⟩
    · have hE := notEmpty_of hp0
      have hE' := some_toList hp0
      rw [byteAt_eq hp0] at hb45
      have d1 : (((S[0]'hp0).toNat : Nat) : Int) = 45 := by omega
      obtain rfl : sb = true := hsb
      clear hb45 HA
      go_wp2_with fail
      go_meet
      exact ⟨rfl, rfl⟩
    · obtain rfl : sb = false := hsb
      by_cases h0 : S.size = 0
      · have hE := isEmpty_of h0
        have hE' := empty_toList h0
        clear HA hn45 h0
        go_wp2_with fail
        go_meet
        exact ⟨rfl, rfl⟩
      · have hp0 : 0 < S.size := by omega
        have hE := notEmpty_of hp0
        have hE' := some_toList hp0
        rw [byteAt_eq hp0] at hn45
        have d1 : ((((S[0]'hp0).toNat : Nat) : Int) == 45) = false := by rw [beq_eq_false_iff_ne]; omega
        clear hn45 HA h0
        go_wp2_with fail
        go_meet
        exact ⟨rfl, rfl⟩
  case rest =>
    obtain ⟨rfl, rfl⟩ := hcut
    go_upto_if 20 with fail
    go_cut [4] (fun v4 wc => v4 = .int .i64 a ∧ w0 = wc)
    case first =>
      rcases HA.out with ⟨hp0, hb45, rfl⟩ | ⟨hn45, rfl⟩
      · obtain rfl : sb = true := hsb
        go_wp2_with fail
        go_meet
        exact ⟨rfl, rfl⟩
      · obtain rfl : sb = false := hsb
        go_wp2_with fail
        go_meet
        exact ⟨rfl, rfl⟩
    case rest =>
      obtain ⟨rfl, rfl⟩ := hcut
      clear hsb HA
      obtain ⟨_, rfl⟩ := HF.out
      go_wp2_with (first | (go_at_call 26; first | ((with_reducible refine (h26' _).mono ?_); rintro e w2 ⟨rfl, rfl⟩) | ((with_reducible refine (h26'' _).mono ?_); rintro e w2 ⟨rfl, rfl⟩)) | (go_at_call 27; (with_reducible refine (h27 _).mono ?_); rintro e w2 ⟨rfl, rfl⟩))
      exact bodyPost_ret (v := .tuple #[.agg #[.bool false, .string ⟨#[]⟩, .int .i64 0], .bool false]) (by simp [results, Tryz.results15, go_sem]) rfl (by rw [HP.out]; exact ⟨rfl, ((Fr.refl _ _).alloc _)⟩)

set_option maxRecDepth 100000 in
set_option maxHeartbeats 4000000 in
theorem jDec_main (S : ByteArray) (h : S.size ≤ 40) (hp : plainB (S.extract (decAt S) (decWh S)) = true) (hq : ¬ (byteAt S (decWh S) = 46 ∧ decPart S = decWh S + 1)) (w : World) : Calls Tryz.prog 15 #[.string S] w (DecPost w (decF S)) := by
  have HP : Hid (decF S = (expF (S.extract (decPart S) S.size)).map fun ex =>
    if decWh S < decPart S then leanV (decAt S == 1) (S.extract (decAt S) (decWh S) ++ S.extract (decWh S + 1) (decPart S)) (ex - (decPart S - decWh S - 1 : Nat))
    else leanV (decAt S == 1) (S.extract (decAt S) (decWh S)) ex) := Lib.hid (by
    unfold decF
    rw [if_neg (by omega), if_neg (by rw [hp]; decide), if_neg hq])
  have ha := decAt_le S
  have hr := run_spec S ha
  have hw1 : decAt S ≤ decWh S := hr.1
  have hw2 : decWh S ≤ S.size := hr.2.1
  have HC := Lib.hid (decPart_cases S hw2)
  have hc1 : decWh S ≤ decPart S ∧ decPart S ≤ S.size := by
    rcases HC.out with ⟨h1, h2, h3⟩ | ⟨h1, h2⟩
    · have := run_spec S (i := decWh S + 1) (by omega); omega
    · omega
  have HQ := Lib.hid hq
  have hd : decide ((S.size : Int) > 40) = false := decide_eq_false (by omega)
  have hes : (S.extract (decAt S) (decWh S)).size ≤ 2147483647 := by simp [ByteArray.size_extract]; omega
  have h27 := fun w1 => jPlain (S.extract (decAt S) (decWh S)) hes w1
  rw [hp] at h27
  have h26' : ∀ w1, Calls Tryz.prog 26 #[.string S, .int .i64 (decAt S)] w1 fun e w' => e = .returned (.int .i64 (decWh S)) ∧ w1 = w' := fun w1 => jRun S (decAt S) (by omega) ha w1
  have h26'' : decWh S < S.size → ∀ w1, Calls Tryz.prog 26 #[.string S, .int .i64 ((decWh S : Int) + 1)] w1 fun e w' => e = .returned (.int .i64 (run S (decWh S + 1) : Nat)) ∧ w1 = w' := fun hh w1 => by
    have := jRun S (decWh S + 1) (by omega) (by omega) w1
    exact_mod_cast this
  have hes2 : (S.extract (decPart S) S.size).size ≤ 2147483647 := by simp [ByteArray.size_extract]; omega
  have h28 := fun w1 => jExponent (S.extract (decPart S) S.size) hes2 w1
  have HA : Hid ((0 < S.size ∧ byteAt S 0 = 45 ∧ decAt S = 1) ∨ (byteAt S 0 ≠ 45 ∧ decAt S = 0)) := Lib.hid (by
    by_cases e : byteAt S 0 = 45
    · left; exact ⟨byteAt_pos e (by decide), e, by unfold decAt; rw [if_pos e]⟩
    · right; exact ⟨e, by unfold decAt; rw [if_neg e]⟩)
  obtain ⟨a, haa⟩ : ∃ a, decAt S = a := ⟨_, rfl⟩
  obtain ⟨b, hbb⟩ : ∃ b, decWh S = b := ⟨_, rfl⟩
  obtain ⟨c, hcc⟩ : ∃ c, decPart S = c := ⟨_, rfl⟩
  rw [haa] at hw1 h26' h27 HA HP
  rw [hbb] at hw1 hw2 h26' h26'' h27 HP HC HQ hc1
  rw [hcc] at h28 HP HC HQ hc1
  clear hp ha hr hes haa hbb hq hcc hes2
  go_enter Tryz.func15, Tryz.ntmps15
  go_upto_region 4 with fail
  generalize hw0 : World.alloc w _ = w0 at *
  have HF : Hid (Fr [] w w0 ∧ w0 = w.alloc (.cells #[.bool false, .string ⟨#[]⟩, .int .i64 0] 38)) := Lib.hid ⟨by rw [← hw0]; exact (Fr.refl _ _).alloc _, hw0.symm⟩
  clear hw0
  obtain ⟨sb, hsb⟩ : ∃ sb : Bool, sb = (a == 1) := ⟨_, rfl⟩
  go_cut [20] (fun v20 wc => v20 = .bool sb ∧ w0 = wc)
  case first =>
    rcases HA.out with ⟨hp0, hb45, rfl⟩ | ⟨hn45, rfl⟩
    · have hE := notEmpty_of hp0
      have hE' := some_toList hp0
      rw [byteAt_eq hp0] at hb45
      have d1 : (((S[0]'hp0).toNat : Nat) : Int) = 45 := by omega
      obtain rfl : sb = true := hsb
      clear hb45 HA
      go_wp2_with fail
      go_meet
      exact ⟨rfl, rfl⟩
    · obtain rfl : sb = false := hsb
      by_cases h0 : S.size = 0
      · have hE := isEmpty_of h0
        have hE' := empty_toList h0
        clear HA hn45 h0
        go_wp2_with fail
        go_meet
        exact ⟨rfl, rfl⟩
      · have hp0 : 0 < S.size := by omega
        have hE := notEmpty_of hp0
        have hE' := some_toList hp0
        rw [byteAt_eq hp0] at hn45
        have d1 : ((((S[0]'hp0).toNat : Nat) : Int) == 45) = false := by rw [beq_eq_false_iff_ne]; omega
        clear hn45 HA h0
        go_wp2_with fail
        go_meet
        exact ⟨rfl, rfl⟩
  case rest =>
    obtain ⟨rfl, rfl⟩ := hcut
    go_upto_if 20 with fail
    go_cut [4] (fun v4 wc => v4 = .int .i64 a ∧ w0 = wc)
    case first =>
      rcases HA.out with ⟨hp0, hb45, rfl⟩ | ⟨hn45, rfl⟩
      · obtain rfl : sb = true := hsb
        go_wp2_with fail
        go_meet
        exact ⟨rfl, rfl⟩
      · obtain rfl : sb = false := hsb
        go_wp2_with fail
        go_meet
        exact ⟨rfl, rfl⟩
    case rest =>
      obtain ⟨rfl, rfl⟩ := hcut
      clear hsb HA
      go_upto_region 10 with (first | (go_at_call 26; ((with_reducible refine (h26' _).mono ?_); rintro e w2 ⟨rfl, rfl⟩)) | (go_at_call 27; (with_reducible refine (h27 _).mono ?_); rintro e w2 ⟨rfl, rfl⟩))
      obtain ⟨pt, hpt⟩ : ∃ pt : Bool, pt = decide (byteAt S b = 46) := ⟨_, rfl⟩
      go_cut [41] (fun v41 wc => v41 = .bool pt ∧ w0 = wc)
      case first =>
        rcases HC.out with ⟨hbS, hb46, _⟩ | ⟨hn46, _⟩
        · have d2 : decide ((b : Int) < S.size) = true := decide_eq_true (by omega)
          obtain rfl : pt = true := by rw [hpt]; exact decide_eq_true hb46
          rw [byteAt_eq hbS] at hb46
          have d1 : (((S[b]'hbS).toNat : Nat) : Int) = 46 := by omega
          clear hb46 HC hpt
          go_wp2_with fail
          go_meet
          exact ⟨rfl, rfl⟩
        · obtain rfl : pt = false := by rw [hpt]; exact decide_eq_false hn46
          by_cases hbS : b < S.size
          · have d2 : decide ((b : Int) < S.size) = true := decide_eq_true (by omega)
            rw [byteAt_eq hbS] at hn46
            have d1 : ((((S[b]'hbS).toNat : Nat) : Int) == 46) = false := by rw [beq_eq_false_iff_ne]; omega
            clear hn46 HC hpt
            go_wp2_with fail
            go_meet
            exact ⟨rfl, rfl⟩
          · have d2 : decide ((b : Int) < S.size) = false := decide_eq_false (by omega)
            clear hn46 HC hpt
            go_wp2_with fail
            go_meet
            exact ⟨rfl, rfl⟩
      case rest =>
        obtain ⟨rfl, rfl⟩ := hcut
        go_upto_if 41 with fail
        go_cut [6] (fun v6 wc => v6 = .int .i64 c ∧ w0 = wc)
        case first =>
          rcases HC.out with ⟨hbS, hb46, hcr⟩ | ⟨hn46, hcb⟩
          · obtain rfl : pt = true := by rw [hpt]; exact decide_eq_true hb46
            have h26b := h26'' hbS
            have hne : c ≠ b + 1 := fun e => HQ.out ⟨hb46, e⟩
            rw [← hcr] at h26b
            have d1 : ((c : Int) == (b : Int) + 1) = false := by rw [beq_eq_false_iff_ne]; omega
            clear hb46 hcr hpt HQ HC hne h26' h26''
            go_wp2_with (go_at_call 26; ((with_reducible refine (h26b _).mono ?_); rintro e w2 ⟨rfl, rfl⟩))
            go_meet
            exact ⟨rfl, rfl⟩
          · obtain rfl : pt = false := by rw [hpt]; exact decide_eq_false hn46
            clear hn46 hpt HQ HC h26' h26''
            go_wp2_with fail
            go_meet
            exact ⟨by rw [hcb], rfl⟩
        case rest =>
          obtain ⟨rfl, rfl⟩ := hcut
          clear hpt HQ HC h26' h26''
          obtain ⟨_, hw0⟩ := HF.out
          subst hw0
          obtain ⟨r, hr⟩ : ∃ r, expF (S.extract c S.size) = r := ⟨_, rfl⟩
          rw [hr] at h28 HP
          cases r with
          | none =>
            replace h28 : ∀ w1, Calls Tryz.prog 28 #[.string (S.extract c S.size)] w1 fun e w' => e = .returned (.tuple #[.int .i64 0, .bool false]) ∧ w1 = w' := h28
            have HP : Hid (decF S = none) := Lib.hid HP.out
            clear hr
            go_wp2_with (go_at_call 28; (with_reducible refine (h28 _).mono ?_); rintro e w2 ⟨rfl, rfl⟩)
            exact bodyPost_ret (v := .tuple #[.agg #[.bool false, .string ⟨#[]⟩, .int .i64 0], .bool false]) (by simp [results, Tryz.results15, go_sem]) rfl (by rw [HP.out]; exact ⟨rfl, ((Fr.refl _ _).alloc _)⟩)
          | some x =>
            have hxb := expF_bound hr
            replace h28 : ∀ w1, Calls Tryz.prog 28 #[.string (S.extract c S.size)] w1 fun e w' => e = .returned (.tuple #[.int .i64 x, .bool true]) ∧ w1 = w' := h28
            clear hr
            have e1 : ((a : Int) == 1) = (a == 1) := by
              by_cases e : a = 1
              · rw [e]; rfl
              · rw [beq_eq_false_iff_ne.mpr e, beq_eq_false_iff_ne.mpr (by omega)]
            by_cases hbc : b < c
            · have hs1 : (S.extract a b ++ S.extract (b + 1) c).size ≤ 1000 := by simp [ByteArray.size_append, ByteArray.size_extract]; omega
              have h29 := fun w1 => jLean (a == 1) (S.extract a b ++ S.extract (b + 1) c) (x - ((c : Int) - b - 1)) hs1 (by omega) w1
              have HP : Hid (decF S = some (leanV (a == 1) (S.extract a b ++ S.extract (b + 1) c) (x - ((c : Int) - b - 1)))) := Lib.hid (by
                rw [HP.out]
                show some (if b < c then _ else _) = _
                rw [if_pos hbc, show ((c - b - 1 : Nat) : Int) = (c : Int) - b - 1 by omega])
              have d3 : decide ((c : Int) > b) = true := decide_eq_true (by omega)
              obtain ⟨⟨m', D', x'⟩, hR⟩ : ∃ R, leanV (a == 1) (S.extract a b ++ S.extract (b + 1) c) (x - ((c : Int) - b - 1)) = R := ⟨_, rfl⟩
              rw [hR] at HP h29
              clear hR hs1 h27
              go_wp2_with (first | (go_at_call 28; (with_reducible refine (h28 _).mono ?_); rintro e w2 ⟨rfl, rfl⟩) | (go_at_call 29; (with_reducible refine (h29 _).mono ?_); rintro e w2 ⟨rfl, hf⟩; have hcs := (Cells.new w #[.bool false, .string ⟨#[]⟩, .int .i64 0] 38).fr hf (by simp); have c0 := hcs.cell 0 rfl; have c1 := hcs.cell 1 rfl; have c2 := hcs.cell 2 rfl; have f0 := hcs.frozen 0; have f1 := hcs.frozen 1; have f2 := hcs.frozen 2; have HF := Lib.hid hf; clear hf hcs))
              exact bodyPost_ret (v := .tuple #[.agg #[.bool m', .string D', .int .i64 x'], .bool true]) (by simp [results, Tryz.results15, go_sem, c0, c1, c2, f0, f1, f2]) rfl (by rw [HP.out]; exact ⟨rfl, ((((((Fr.refl [] w).alloc _).trans HF.out).set (.inr (Nat.le_refl _)) _ _).set (.inr (Nat.le_refl _)) _ _).set (.inr (Nat.le_refl _)) _ _)⟩)
            · have hs1 : (S.extract a b).size ≤ 1000 := by simp [ByteArray.size_extract]; omega
              have h29 := fun w1 => jLean (a == 1) (S.extract a b) (x) hs1 (by omega) w1
              have HP : Hid (decF S = some (leanV (a == 1) (S.extract a b) (x))) := Lib.hid (by
                rw [HP.out]
                show some (if b < c then _ else _) = _
                rw [if_neg hbc])
              have d3 : decide ((c : Int) > b) = false := decide_eq_false (by omega)
              obtain ⟨⟨m', D', x'⟩, hR⟩ : ∃ R, leanV (a == 1) (S.extract a b) (x) = R := ⟨_, rfl⟩
              rw [hR] at HP h29
              clear hR hs1 h27
              go_wp2_with (first | (go_at_call 28; (with_reducible refine (h28 _).mono ?_); rintro e w2 ⟨rfl, rfl⟩) | (go_at_call 29; (with_reducible refine (h29 _).mono ?_); rintro e w2 ⟨rfl, hf⟩; have hcs := (Cells.new w #[.bool false, .string ⟨#[]⟩, .int .i64 0] 38).fr hf (by simp); have c0 := hcs.cell 0 rfl; have c1 := hcs.cell 1 rfl; have c2 := hcs.cell 2 rfl; have f0 := hcs.frozen 0; have f1 := hcs.frozen 1; have f2 := hcs.frozen 2; have HF := Lib.hid hf; clear hf hcs))
              exact bodyPost_ret (v := .tuple #[.agg #[.bool m', .string D', .int .i64 x'], .bool true]) (by simp [results, Tryz.results15, go_sem, c0, c1, c2, f0, f1, f2]) rfl (by rw [HP.out]; exact ⟨rfl, ((((((Fr.refl [] w).alloc _).trans HF.out).set (.inr (Nat.le_refl _)) _ _).set (.inr (Nat.le_refl _)) _ _).set (.inr (Nat.le_refl _)) _ _)⟩)
/-- spec.jDecimalOf -/
theorem jDecimalOf (S : ByteArray) (hS : S.size ≤ 2147483647) (w : World) : Calls Tryz.prog 15 #[.string S] w (DecPost w (decF S)) := by
  by_cases h : 40 < S.size
  · exact jDec_long S hS h w
  · cases hp : plainB (S.extract (decAt S) (decWh S)) with
    | false => exact jDec_notPlain S (by omega) hp w
    | true =>
      by_cases hq : byteAt S (decWh S) = 46 ∧ decPart S = decWh S + 1
      · refine jDec_noPart S (by omega) hp hq.1 ?_ w
        have := hq.2
        unfold decPart at this
        rwa [if_pos hq.1] at this
      · exact jDec_main S (by omega) hp hq w
end Go.Proofs.YtpmggjplfcjkkaaGreatDoor
