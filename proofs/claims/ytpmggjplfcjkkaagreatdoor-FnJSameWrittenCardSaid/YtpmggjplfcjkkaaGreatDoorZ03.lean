/- Subtraction digit by digit, comparison of texts of digits, zeros behind: plain laws. -/
import Derived.Laws.BytesArg
import Derived.Test.YtpmggjplfcjkkaaGreatDoorZ01
import Derived.IntWalk
import Derived.Test.YtpmggjplfcjkkaaGreatDoorZ02
import Derived.Lib.ConvBytes
set_option linter.unusedVariables false
set_option linter.unusedSimpArgs false
namespace Go.Proofs.YtpmggjplfcjkkaaGreatDoor
open Go.RowKit Nq

/-- The number of the last i digits. -/
def lowv (L : List Nat) (i : Nat) : Nat := dval (L.drop (L.length - i))
theorem lowv_zero (L : List Nat) : lowv L 0 = 0 := by simp [lowv, dval]
theorem lowv_all {L : List Nat} {i : Nat} (h : L.length ≤ i) : lowv L i = dval L := by
  unfold lowv
  rw [show L.length - i = 0 by omega, List.drop_zero]
theorem lowv_succ {L : List Nat} {i : Nat} (h : i < L.length) : lowv L (i + 1) = L.getD (L.length - 1 - i) 0 * 10 ^ i + lowv L i := by
  unfold lowv
  have hl : L.length - (i + 1) < L.length := by omega
  have e : L.drop (L.length - (i + 1)) = L[L.length - (i + 1)] :: L.drop (L.length - i) := by
    rw [List.drop_eq_getElem_cons hl, show L.length - (i + 1) + 1 = L.length - i by omega]
  rw [e, dval_cons, List.length_drop, show L.length - (L.length - i) = i by omega, show L.length - 1 - i = L.length - (i + 1) by omega, List.getD_eq_getElem?_getD, List.getElem?_eq_getElem hl, Option.getD_some]
theorem lowv_step (L : List Nat) (i : Nat) : lowv L (i + 1) = (if i < L.length then L.getD (L.length - 1 - i) 0 else 0) * 10 ^ i + lowv L i := by
  split
  · exact lowv_succ (by assumption)
  · rw [lowv_all (by omega), lowv_all (by omega)]; simp
theorem lowv_set {L : List Nat} {i d : Nat} (h : i < L.length) : lowv (L.set (L.length - 1 - i) d) (i + 1) = d * 10 ^ i + lowv L i := by
  have hl : (L.set (L.length - 1 - i) d).length = L.length := List.length_set
  rw [lowv_succ (by rw [hl]; exact h), hl]
  congr 1
  · rw [List.getD_eq_getElem?_getD, List.getElem?_set_self (by omega), Option.getD_some]
  · unfold lowv
    rw [hl, List.drop_set_of_lt (by omega)]

/-- Between two rounds of the subtraction. -/
structure Sub1 (A B X : List Nat) (i owed : Nat) : Prop where
  len : X.length = A.length
  ten : ∀ d ∈ X, d < 10
  low : lowv X i + lowv B i = lowv A i + owed * 10 ^ i
  ow : owed ≤ 1
theorem Sub1.start {A B : List Nat} (h : ∀ d ∈ A, d < 10) : Sub1 A B A 0 0 := ⟨rfl, h, by simp [lowv_zero], by omega⟩
theorem Sub1.step {A B X : List Nat} {i owed d owed' : Nat} (h : Sub1 A B X i owed) (hi : i < A.length) (hd : d < 10) (ho : owed' ≤ 1) (he : d + owed + (if i < B.length then B.getD (B.length - 1 - i) 0 else 0) = A.getD (A.length - 1 - i) 0 + 10 * owed') : Sub1 A B (X.set (A.length - 1 - i) d) (i + 1) owed' := by
  have hl := h.len
  refine ⟨by rw [List.length_set]; exact hl, ?_, ?_, ho⟩
  · intro x hx
    rcases List.mem_or_eq_of_mem_set hx with h1 | h1
    · exact h.ten x h1
    · omega
  · rw [← hl, lowv_set (by omega), lowv_step B i, lowv_succ hi, Nat.pow_succ]
    have hlow := h.low
    generalize (if i < B.length then B.getD (B.length - 1 - i) 0 else 0) = bi at *
    generalize A.getD (A.length - 1 - i) 0 = ai at *
    generalize 10 ^ i = p at *
    have e1 : (d + owed + bi) * p = (ai + 10 * owed') * p := by rw [he]
    grind
theorem Sub1.fin {A B X : List Nat} {owed : Nat} (h : Sub1 A B X A.length owed) (hB : B.length ≤ A.length) (hle : dval B ≤ dval A) : dval X = dval A - dval B := by
  have h1 := h.low
  rw [lowv_all (by rw [h.len]; exact Nat.le_refl _), lowv_all hB, lowv_all (Nat.le_refl _)] at h1
  have h2 := dval_lt h.ten
  rw [h.len] at h2
  have h3 := h.ow
  by_cases h0 : owed = 0
  · subst h0; omega
  · obtain rfl : owed = 1 := by omega
    omega

/-- The text of digits. -/
def txtOf (X : List Nat) : ByteArray := strOfNums (X.map fun d => ((48 + d : Nat) : Int))
theorem txtOf_size (X : List Nat) : (txtOf X).size = X.length := by unfold txtOf; rw [strOfNums_size, List.length_map]
theorem txtOf_byte {X : List Nat} (h : ∀ d ∈ X, d < 10) {i : Nat} (hi : i < X.length) : byteAt (txtOf X) i = 48 + X[i] := by
  have hs : i < (txtOf X).size := by rw [txtOf_size]; exact hi
  have h1 := byteAt_list hs
  have e : (txtOf X).data.toList[i]? = some (UInt8.ofNat (48 + X[i])) := by
    unfold txtOf
    rw [strOfNums_data, List.getElem?_map, List.getElem?_map, List.getElem?_eq_getElem hi]
    simp only [Option.map_some, Int.toNat_natCast]
  rw [e] at h1
  have h3 := congrArg UInt8.toNat (Option.some.inj h1)
  have h4 := h _ (List.getElem_mem hi)
  have h5 := byteAt_lt hs
  rw [UInt8.toNat_ofNat', UInt8.toNat_ofNat'] at h3
  omega
theorem txtOf_dg {X : List Nat} (h : ∀ d ∈ X, d < 10) : Dg (txtOf X) := by
  intro i hi
  rw [txtOf_size] at hi
  rw [txtOf_byte h hi]
  have := h _ (List.getElem_mem hi)
  omega
theorem txtOf_digs {X : List Nat} (h : ∀ d ∈ X, d < 10) : digs (txtOf X) = X := by
  apply List.ext_getElem
  · rw [digs_len, txtOf_size]
  · intro i h1 h2
    rw [digs_get, txtOf_byte h h2]
    omega

/-- Zeros behind digits. -/
def zerN : Nat → ByteArray → ByteArray
  | 0, U => U
  | k + 1, U => zerN k (U ++ ⟨#[48]⟩)
def zer (U : ByteArray) (n : Int) : ByteArray := if U.size = 0 then U else zerN n.toNat U
theorem dg_zero : Dg ⟨#[48]⟩ := by
  intro i hi
  have : i = 0 := by simpa [ByteArray.size] using hi
  subst this
  decide
theorem zerN_spec : ∀ (k : Nat) (U : ByteArray), 0 < U.size → Bar U → Bar (zerN k U) ∧ dv (zerN k U) = dv U * 10 ^ k ∧ (zerN k U).size = U.size + k
  | 0, U, h0, h => ⟨h, by simp [zerN], rfl⟩
  | k + 1, U, h0, h => by
    have hs : (U ++ (⟨#[48]⟩ : ByteArray)).size = U.size + 1 := by rw [ByteArray.size_append]; rfl
    have hb : Bar (U ++ ⟨#[48]⟩) := ⟨h.dg.append dg_zero, by rw [byteAt_append, if_pos h0]; exact h.b0⟩
    obtain ⟨h1, h2, h3⟩ := zerN_spec k (U ++ ⟨#[48]⟩) (by omega) hb
    refine ⟨h1, ?_, by unfold zerN; omega⟩
    show dv (zerN k (U ++ ⟨#[48]⟩)) = _
    rw [h2, dv_append]
    have : dv (⟨#[48]⟩ : ByteArray) = 0 := by rfl
    rw [this, Nat.pow_succ]
    show (dv U * 10 ^ 1 + 0) * 10 ^ k = _
    grind
theorem zer_bar {U : ByteArray} (n : Int) (h : Bar U) : Bar (zer U n) := by
  unfold zer
  split
  · exact h
  · exact (zerN_spec _ U (by omega) h).1
theorem zer_dv {U : ByteArray} (n : Int) (h : Bar U) : dv (zer U n) = dv U * 10 ^ n.toNat := by
  unfold zer
  split
  · rw [dv_zero (by assumption)]; simp
  · exact (zerN_spec _ U (by omega) h).2.1
theorem zer_size {U : ByteArray} (n : Int) (h : Bar U) : (zer U n).size ≤ U.size + n.toNat := by
  unfold zer
  split
  · omega
  · exact Nat.le_of_eq (zerN_spec _ U (by omega) h).2.2
theorem zer_some {U : ByteArray} (n : Int) (h : Bar U) (h0 : U.size ≠ 0) : (zer U n).size ≠ 0 := by
  unfold zer
  rw [if_neg h0, (zerN_spec _ U (by omega) h).2.2]
  omega

/-- Texts of digits of one length are compared like their numbers. -/
theorem less_digs : ∀ (X Y : List UInt8), X.length = Y.length → (∀ c ∈ X, 48 ≤ c.toNat ∧ c.toNat ≤ 57) → (∀ c ∈ Y, 48 ≤ c.toNat ∧ c.toNat ≤ 57) → Op.bytesLess X Y = decide (dval (X.map fun c => c.toNat - 48) < dval (Y.map fun c => c.toNat - 48))
  | [], [], _, _, _ => by rfl
  | [], _ :: _, h, _, _ => by simp at h
  | _ :: _, [], h, _, _ => by simp at h
  | x :: X, y :: Y, h, hX, hY => by
    have hl : X.length = Y.length := by simpa using h
    have ih := less_digs X Y hl (fun c hc => hX c (by simp [hc])) (fun c hc => hY c (by simp [hc]))
    have hx := hX x (by simp)
    have hy := hY y (by simp)
    have lx : dval (X.map fun c => c.toNat - 48) < 10 ^ X.length := by
      have := dval_lt (D := X.map fun c => c.toNat - 48) (by intro d hd; simp at hd; obtain ⟨c, hc, rfl⟩ := hd; have := hX c (by simp [hc]); omega)
      simpa using this
    have ly : dval (Y.map fun c => c.toNat - 48) < 10 ^ X.length := by
      have := dval_lt (D := Y.map fun c => c.toNat - 48) (by intro d hd; simp at hd; obtain ⟨c, hc, rfl⟩ := hd; have := hY c (by simp [hc]); omega)
      simpa [hl] using this
    simp only [List.map_cons, dval_cons, List.length_map]
    rw [← hl]
    generalize dval (X.map fun c => c.toNat - 48) = a at *
    generalize dval (Y.map fun c => c.toNat - 48) = b at *
    generalize 10 ^ X.length = p at *
    unfold Op.bytesLess
    by_cases h1 : x.toNat < y.toNat
    · have h3 : (x.toNat - 48 + 1) * p ≤ (y.toNat - 48) * p := Nat.mul_le_mul_right _ (by omega)
      rw [Nat.add_mul] at h3
      have h2 : x < y := UInt8.lt_iff_toNat_lt.2 h1
      simp [h2]
      omega
    · by_cases h2 : y.toNat < x.toNat
      · have h3 : (y.toNat - 48 + 1) * p ≤ (x.toNat - 48) * p := Nat.mul_le_mul_right _ (by omega)
        rw [Nat.add_mul] at h3
        have h4 : ¬ x < y := fun hh => h1 (UInt8.lt_iff_toNat_lt.1 hh)
        have h5 : (x == y) = false := beq_eq_false_iff_ne.mpr (fun hh => by rw [hh] at h2; omega)
        rw [decide_eq_false h4, h5, Bool.false_and, Bool.false_or]
        exact (decide_eq_false (by omega)).symm
      · obtain rfl : x = y := UInt8.toNat_inj.1 (by omega)
        have h4 : ¬ x < x := fun hh => h1 (UInt8.lt_iff_toNat_lt.1 hh)
        simp [h4, ih]
end Go.Proofs.YtpmggjplfcjkkaaGreatDoor

/- spec: JIsDecimal, zeros, two decimals in one unit, comparison, sign. -/
set_option linter.unusedVariables false
set_option linter.unusedSimpArgs false
namespace Go.Proofs.YtpmggjplfcjkkaaGreatDoor
open Go.RowKit Nq

set_option maxRecDepth 100000 in
set_option maxHeartbeats 1000000 in
theorem jIsDecimal (S : ByteArray) (hS : S.size ≤ 2147483647) (w : World) : Calls Tryz.prog 14 #[.string S] w fun e w' => e = .returned (.bool (decF S).isSome) ∧ Fr [] w w' := by
  have h15 := jDecimalOf S hS w
  have HA : Hid (∀ (w1 : World) (o : Obj), Fr [] w w1 → Fr [] w (w1.alloc o)) := Lib.hid fun w1 o h => h.alloc o
  obtain ⟨r, hr⟩ : ∃ r, decF S = r := ⟨_, rfl⟩
  rw [hr] at h15 ⊢
  clear hr
  cases r with
  | none =>
    replace h15 : Calls Tryz.prog 15 #[.string S] w fun e w' => e = .returned (.tuple #[.agg #[.bool false, .string ⟨#[]⟩, .int .i64 0], .bool false]) ∧ Fr [] w w' := h15
    go_enter Tryz.func14, Tryz.ntmps14
    go_wp2_with (go_at_call 15; (with_reducible refine h15.mono ?_); rintro e w1 ⟨rfl, hf⟩; have HF := Lib.hid hf; clear hf h15)
    go_ret
    exact ⟨rfl, HA.out _ _ HF.out⟩
  | some r =>
    obtain ⟨m, D, x⟩ := r
    replace h15 : Calls Tryz.prog 15 #[.string S] w fun e w' => e = .returned (.tuple #[.agg #[.bool m, .string D, .int .i64 x], .bool true]) ∧ Fr [] w w' := h15
    go_enter Tryz.func14, Tryz.ntmps14
    go_wp2_with (go_at_call 15; (with_reducible refine h15.mono ?_); rintro e w1 ⟨rfl, hf⟩; have HF := Lib.hid hf; clear hf h15)
    go_ret
    exact ⟨rfl, HA.out _ _ HF.out⟩

theorem zer_stop {U : ByteArray} {n : Int} (h : U.size = 0 ∨ n ≤ 0) : zer U n = U := by
  unfold zer
  split
  · rfl
  · rw [show n.toNat = 0 by omega]; rfl
theorem zer_step {U : ByteArray} {n : Int} (h : U.size ≠ 0) (hn : 0 < n) : zer U n = zer (U ++ ⟨#[48]⟩) (n - 1) := by
  have hs : (U ++ (⟨#[48]⟩ : ByteArray)).size = U.size + 1 := by rw [ByteArray.size_append]; rfl
  unfold zer
  rw [if_neg h, if_neg (by omega), show n.toNat = (n - 1).toNat + 1 by omega]
  rfl

set_option maxRecDepth 100000 in
set_option maxHeartbeats 1000000 in
theorem jZeros (U : ByteArray) (n : Int) (hU : U.size ≤ 1000) (hn : -2000 ≤ n ∧ n ≤ 2000) (w : World) : Calls Tryz.prog 49 #[.string U, .int .i64 n] w fun e w' => e = .returned (.string (zer U n)) ∧ w = w' := by
  obtain ⟨r, hr⟩ : ∃ r, zer U n = r := ⟨_, rfl⟩
  have HR := Lib.hid hr
  rw [hr]
  clear hr
  have hn1 := hn.1
  have hn2 := hn.2
  clear hn
  go_enter Tryz.func49, Tryz.ntmps49
  go_wp2
  go_loop [0, 1] (fun v0 v1 => ∃ (V : ByteArray) (m : Int), V.size + m.toNat ≤ 3000 ∧ -2000 ≤ m ∧ m ≤ 2000 ∧ v0 = .string V ∧ v1 = .int .i64 m ∧ Hid (zer V m = r)) (fun _ v1 => (intOf v1).toNat)
  case atStart => exact ⟨U, n, by omega, hn1, hn2, rfl, rfl, HR⟩
  case round =>
    clear HR
    obtain ⟨V, m, hV, hm1, hm2, rfl, rfl, H⟩ := hrel
    by_cases hm : 0 < m
    · have d1 : decide (m > 0) = true := decide_eq_true hm
      by_cases h0 : V.size = 0
      · have hE := isEmpty_of h0
        have hE' := empty_toList h0
        have HB : Hid (V = r) := Lib.hid (by rw [← H.out, zer_stop (.inl h0)])
        clear h0 H
        go_wp2_with fail
        go_ret
        exact ⟨by rw [← HB.out]; rfl, rfl⟩
      · have hE := notEmpty_of (show 0 < V.size by omega)
        have hE' := some_toList (show 0 < V.size by omega)
        have hs : (V ++ (⟨#[48]⟩ : ByteArray)).size = V.size + 1 := by rw [ByteArray.size_append]; rfl
        have HB : Hid (zer (V ++ ⟨#[48]⟩) (m - 1) = r ∧ (V ++ (⟨#[48]⟩ : ByteArray)).size + (m - 1).toNat ≤ 3000) := Lib.hid ⟨by rw [← zer_step h0 hm]; exact H.out, by omega⟩
        clear h0 H hs
        go_wp2_with fail
        go_round
        case rel => exact ⟨V ++ ⟨#[48]⟩, m - 1, HB.out.2, by omega, by omega, rfl, rfl, HB.out.1 |> Lib.hid⟩
        case measure => simp [intOf]; omega
    · have d1 : decide (m > 0) = false := decide_eq_false hm
      have HB : Hid (V = r) := Lib.hid (by rw [← H.out, zer_stop (.inr (by omega))])
      clear H
      go_wp2_with fail
      go_ret
      exact ⟨by rw [← HB.out]; rfl, rfl⟩

set_option maxRecDepth 100000 in
set_option maxHeartbeats 1000000 in
theorem jAlike (m1 m2 : Bool) (D1 D2 : ByteArray) (x1 x2 : Int) (h1 : D1.size ≤ 1000) (h2 : D2.size ≤ 1000) (b1 : -200 ≤ x1 ∧ x1 ≤ 200) (b2 : -200 ≤ x2 ∧ x2 ≤ 200) (w : World) :
    Calls Tryz.prog 30 #[.agg #[.bool m1, .string D1, .int .i64 x1], .agg #[.bool m2, .string D2, .int .i64 x2]] w fun e w' => e = .returned (.tuple #[.string (zer D1 (x1 - x2)), .string (zer D2 (x2 - x1))]) ∧ Fr [] w w' := by
  have z1 := fun w1 => (jZeros D1 (x1 - x2) h1 (by omega) w1).mono fun e w' (h : _ ∧ w1 = w') => And.intro h.1 h.2.symm
  have z2 := fun w1 => (jZeros D2 (x2 - x1) h2 (by omega) w1).mono fun e w' (h : _ ∧ w1 = w') => And.intro h.1 h.2.symm
  have s1 : IntKind.i64.wrap (x1 - x2) = x1 - x2 := IntWalk.i64_in _ (by omega)
  have s2 : IntKind.i64.wrap (x2 - x1) = x2 - x1 := IntWalk.i64_in _ (by omega)
  have HF : Hid (∀ C1 C2 k, Fr [] w (((w.alloc (.cells C1 38)).alloc (.cells C2 38)).drewN k)) := Lib.hid fun C1 C2 k => (((Fr.refl _ _).alloc _).alloc _).drewN k
  generalize zer D1 (x1 - x2) = Z1 at *
  generalize zer D2 (x2 - x1) = Z2 at *
  clear h1 h2 b1 b2
  go_enter Tryz.func30, Tryz.ntmps30
  go_wp2_with fail
  go_quiet ((go_at_call 49; first | (with_reducible exact Calls.quiet_of_same (z1 _)) | (with_reducible exact Calls.quiet_of_same (z2 _))))
  go_wp2_with fail
  go_ret2
  exact ⟨rfl, HF.out _ _ _⟩

/-! comparison -/
theorem less_asym : ∀ (X Y : List UInt8), X.length = Y.length → Op.bytesLess X Y = false → Op.bytesLess Y X = false → X = Y
  | [], [], _, _, _ => rfl
  | [], _ :: _, h, _, _ => by simp at h
  | _ :: _, [], h, _, _ => by simp at h
  | x :: X, y :: Y, h, h1, h2 => by
    unfold Op.bytesLess at h1 h2
    simp only [Bool.or_eq_false_iff, decide_eq_false_iff_not] at h1 h2
    have e : x = y := by
      have a : ¬ x.toNat < y.toNat := fun hh => h1.1 (UInt8.lt_iff_toNat_lt.2 hh)
      have b : ¬ y.toNat < x.toNat := fun hh => h2.1 (UInt8.lt_iff_toNat_lt.2 hh)
      exact UInt8.toNat_inj.1 (by omega)
    subst e
    have h3 := h1.2
    have h4 := h2.2
    simp at h3 h4
    rw [less_asym X Y (by simpa using h) h3 h4]
theorem toList_dig {A : ByteArray} (h : Dg A) : ∀ c ∈ A.toList, 48 ≤ c.toNat ∧ c.toNat ≤ 57 := by
  intro c hc
  rw [Lib.toList_data] at hc
  obtain ⟨i, hi, rfl⟩ := List.mem_iff_getElem.1 hc
  have hs : i < A.size := by simpa using hi
  have h1 := h i hs
  rw [byteAt_eq hs] at h1
  simpa [ByteArray.getElem_eq_getElem_data] using h1
theorem dv_toList (A : ByteArray) : dval (A.toList.map fun c => c.toNat - 48) = dv A := by
  unfold dv
  rw [digs_eq, Lib.toList_data]
theorem toList_len (A : ByteArray) : A.toList.length = A.size := by rw [Lib.toList_data]; simp
theorem less_bytes {A B : ByteArray} (hA : Dg A) (hB : Dg B) (hs : A.size = B.size) : Op.bytesLess A.toList B.toList = decide (dv A < dv B) := by
  rw [less_digs _ _ (by rw [toList_len, toList_len, hs]) (toList_dig hA) (toList_dig hB), dv_toList, dv_toList]
theorem same_bytes {A B : ByteArray} (hA : Dg A) (hB : Dg B) (hs : A.size = B.size) : (A.toList == B.toList) = decide (dv A = dv B) := by
  by_cases h : dv A = dv B
  · rw [decide_eq_true h]
    refine beq_iff_eq.2 (less_asym _ _ (by rw [toList_len, toList_len, hs]) ?_ ?_)
    · rw [less_bytes hA hB hs]; exact decide_eq_false (by omega)
    · rw [less_bytes hB hA hs.symm]; exact decide_eq_false (by omega)
  · rw [decide_eq_false h]
    refine beq_eq_false_iff_ne.2 fun e => h ?_
    rw [← dv_toList, ← dv_toList, e]

/-- -1, 0, 1. -/
def cmpN (a b : Nat) : Int := if a < b then -1 else if b < a then 1 else 0
set_option maxRecDepth 100000 in
set_option maxHeartbeats 1000000 in
theorem jCompareDigits (A B : ByteArray) (hA : Bar A) (hB : Bar B) (sA : A.size ≤ 2147483647) (sB : B.size ≤ 2147483647) (w : World) : Calls Tryz.prog 31 #[.string A, .string B] w fun e w' => e = .returned (.int .i64 (cmpN (dv A) (dv B))) ∧ w = w' := by
  obtain ⟨r, hr⟩ : ∃ r, cmpN (dv A) (dv B) = r := ⟨_, rfl⟩
  by_cases h1 : A.size < B.size
  · have hlt := hB.lt_of_size hA.dg h1
    obtain rfl : -1 = r := by rw [← hr]; unfold cmpN; rw [if_pos hlt]
    rw [hr]
    have d1 : decide (A.size < B.size) = true := decide_eq_true h1
    clear hr hlt hA hB
    go_enter Tryz.func31, Tryz.ntmps31
    go_wp2_with fail
    go_ret
    exact ⟨rfl, rfl⟩
  · by_cases h2 : B.size < A.size
    · have hlt := hA.lt_of_size hB.dg h2
      obtain rfl : 1 = r := by rw [← hr]; unfold cmpN; rw [if_neg (by omega), if_pos hlt]
      rw [hr]
      have d1 : decide (A.size < B.size) = false := decide_eq_false h1
      have d2 : decide (B.size < A.size) = true := decide_eq_true h2
      clear hr hlt hA hB
      go_enter Tryz.func31, Tryz.ntmps31
      go_wp2_with fail
      go_ret
      exact ⟨rfl, rfl⟩
    · have hs : A.size = B.size := by omega
      have l1 := less_bytes hA.dg hB.dg hs
      have l2 := same_bytes hA.dg hB.dg hs
      have d1 : decide (A.size < B.size) = false := decide_eq_false h1
      have d2 : decide (B.size < A.size) = false := decide_eq_false h2
      rw [hr]
      unfold cmpN at hr
      clear hA hB hs
      by_cases h3 : dv A < dv B
      · rw [if_pos h3] at hr
        rw [decide_eq_true h3] at l1
        rw [decide_eq_false (by omega)] at l2
        subst hr
        clear h3
        go_enter Tryz.func31, Tryz.ntmps31
        go_wp2_with fail
        go_ret
        exact ⟨rfl, rfl⟩
      · rw [decide_eq_false h3] at l1
        rw [if_neg h3] at hr
        by_cases h4 : dv B < dv A
        · rw [if_pos h4] at hr
          rw [decide_eq_false (by omega)] at l2
          subst hr
          clear h3 h4
          go_enter Tryz.func31, Tryz.ntmps31
          go_wp2_with fail
          go_ret
          exact ⟨rfl, rfl⟩
        · rw [if_neg h4] at hr
          rw [decide_eq_true (by omega)] at l2
          subst hr
          clear h3 h4
          go_enter Tryz.func31, Tryz.ntmps31
          go_wp2_with fail
          go_ret
          exact ⟨rfl, rfl⟩
end Go.Proofs.YtpmggjplfcjkkaaGreatDoor

/- spec.jLess: digits less digits. -/
set_option linter.unusedVariables false
set_option linter.unusedSimpArgs false
namespace Go.Proofs.YtpmggjplfcjkkaaGreatDoor
open Go.RowKit Nq

def u8s (X : List Nat) : Array Value := (X.map fun n : Nat => Value.int .u8 (n : Int)).toArray
/-- Block b holds bytes (made from a text: its mark stands behind them). -/
def Byt (w : World) (b : Nat) (X : List Nat) : Prop := w.heap[b]? = some (.cells (u8s X) 5 (X.length, X.length + 1))
theorem Byt.lt {w : World} {b : Nat} {X : List Nat} (h : Byt w b X) : b < w.heap.size := (Array.getElem?_eq_some_iff.1 h).1
theorem Byt.cell {w : World} {b : Nat} {X : List Nat} (h : Byt w b X) {j : Nat} (hj : j < X.length) : w.cell? ⟨b, j, none⟩ = some (.int .u8 ((X.getD j 0 : Nat) : Int)) := by
  simp [World.cell?, show w.heap[b]? = _ from h, u8s, hj]
theorem Byt.frozen {w : World} {b : Nat} {X : List Nat} (h : Byt w b X) {j : Nat} (hj : j < X.length) : w.frozen? ⟨b, j, none⟩ = false := by
  simp [World.frozen?, show w.heap[b]? = _ from h]
  omega
theorem Byt.set {w : World} {b : Nat} {X : List Nat} (h : Byt w b X) (j n : Nat) : Byt (w.setCell ⟨b, j, none⟩ (.int .u8 (n : Int))) b (X.set j n) := by
  simp only [Byt, World.setCell, Array.getElem?_modify, if_pos]
  rw [show w.heap[b]? = _ from h]
  simp [u8s, List.map_set]
/-- Digits as bytes, then k zeros. -/
def padX (X : List Nat) (k : Nat) : List Nat := X.map (48 + ·) ++ List.replicate k 0
theorem padX_len (X : List Nat) (k : Nat) : (padX X k).length = X.length + k := by simp [padX]
theorem padX_set {X : List Nat} {k j d : Nat} (h : j < X.length) : (padX X k).set j (48 + d) = padX (X.set j d) k := by
  unfold padX
  rw [List.set_append_left _ _ (by simpa using h), List.map_set]
theorem padX_get {X : List Nat} {k j : Nat} (h : j < X.length) : (padX X k).getD j 0 = 48 + X.getD j 0 := by
  unfold padX
  rw [List.getD_eq_getElem?_getD, List.getElem?_append_left (by simpa using h), List.getElem?_map, List.getElem?_eq_getElem h, List.getD_eq_getElem?_getD, List.getElem?_eq_getElem h]
  rfl
theorem byt_new (w : World) {A : ByteArray} (h : Dg A) : ∃ k, Byt (Lib.bytesWorld w 5 A) w.heap.size (padX (digs A) k) := by
  refine ⟨grownCap w A.size 0 5 - A.size, ?_⟩
  have hc : Lib.bytesCells w 5 A = u8s (padX (digs A) (grownCap w A.size 0 5 - A.size)) := by
    unfold Lib.bytesCells u8s padX
    apply Array.ext'
    simp only [Array.toList_append, Array.toList_map, Array.toList_replicate, List.map_append, List.map_map, List.map_replicate]
    congr 1
    rw [digs_eq, List.map_map]
    apply List.map_congr_left
    intro c hc
    have := toList_dig h c (by rw [Lib.toList_data]; exact hc)
    simp only [Function.comp_apply]
    congr 1
    omega
  unfold Byt
  rw [Lib.bytesWorld_at_new, hc]
  simp [u8s]
theorem fr_bytes (w : World) (t : ByteArray) : Fr [] w (Lib.bytesWorld w 5 t) := ⟨rfl, rfl, rfl, by rw [Lib.bytesWorld_size]; omega, fun k hk _ => Lib.bytesWorld_at_old w 5 t k hk⟩
theorem byt_text {w : World} {b n k cp : Nat} {X : List Nat} (h : Byt w b (padX X k)) (hn : X.length = n) : (convert 135 9 (.slice (some ⟨b, 0, none⟩) n cp)).run Tryz.prog w = .ok (.string (txtOf X)) w := by
  refine run_convert_bytes_arg w 135 5 (by kernel_rfl) (by kernel_rfl) b 0 n cp (X.map fun d => ((48 + d : Nat) : Int)) (by simpa using hn) (fun i hi => ?_) 9 (by kernel_rfl)
  have hl : i < X.length := by omega
  have hc := h.cell (j := i) (by rw [padX_len]; omega)
  rw [padX_get hl] at hc
  rw [Nat.zero_add, hc]
  simp [List.getD_eq_getElem?_getD, hl]

set_option maxRecDepth 100000 in
set_option maxHeartbeats 4000000 in
theorem jLess (A B : ByteArray) (hA : Dg A) (hB : Dg B) (hs : B.size ≤ A.size) (hle : dv B ≤ dv A) (sA : A.size ≤ 1000) (w : World) :
    Calls Tryz.prog 36 #[.string A, .string B] w fun e w' => ∃ U, e = .returned (.string U) ∧ Hid (Bar U ∧ dv U = dv A - dv B) ∧ Fr [] w w' := by
  have hcv := Lib.run_convert_string_bytes (P := Tryz.prog) (u := .string) w 9 135 5 A (by kernel_rfl) (by kernel_rfl) (by kernel_rfl)
  obtain ⟨pad, hby⟩ := byt_new w hA
  have f0 := fr_bytes w A
  obtain ⟨cp, hcp⟩ : ∃ cp, grownCap w A.size 0 5 = cp := ⟨_, rfl⟩
  obtain ⟨ob, hob⟩ : ∃ ob, w.heap.size = ob := ⟨_, rfl⟩
  rw [hcp] at hcv
  rw [hob] at hby
  obtain ⟨w1, hw1⟩ : ∃ w1, Lib.bytesWorld w 5 A = w1 := ⟨_, rfl⟩
  rw [hw1] at hby f0 hcv
  have HB := Lib.hid (And.intro hby f0)
  have HO : Hid (w.heap.size = ob) := Lib.hid hob
  have HA := Lib.hid hA
  have HB' := Lib.hid hB
  have HL := Lib.hid hle
  rw [hob] at hcv
  clear hby f0 hcp hw1 hA hB hle hob
  go_enter Tryz.func36, Tryz.ntmps36
  go_wp2_with fail
  go_loopw [6, 7] (fun v6 v7 wr => ∃ (k owed : Nat) (X : List Nat), k ≤ A.size ∧ owed ≤ 1 ∧ v6 = .int .i64 owed ∧ v7 = .int .i64 ((k : Int) + 1) ∧ Hid (Byt wr ob (padX X pad) ∧ Fr [] w wr ∧ Sub1 (digs A) (digs B) X k owed)) (fun _ v7 _ => A.size + 1 - (intOf v7).toNat)
  case atStart => exact ⟨0, 0, digs A, by omega, by omega, rfl, rfl, Lib.hid ⟨HB.out.1, HB.out.2, Sub1.start HA.out.ten⟩⟩
  case round =>
    obtain ⟨k, owed, X, hk, ho, rfl, rfl, H⟩ := hrel
    by_cases hlt : k < A.size
    · have hXl : X.length = A.size := by rw [H.out.2.2.len, digs_len]
      obtain ⟨j, hj⟩ : ∃ j, j = A.size - 1 - k := ⟨_, rfl⟩
      have hjl : j < A.size := by omega
      have hj1 : (A.size : Int) - ((k : Int) + 1) = (j : Int) := by omega
      have ha := HA.out j hjl
      have hda : (digs A).getD ((digs A).length - 1 - k) 0 = byteAt A j - 48 := by
        rw [digs_len, ← hj, List.getD_eq_getElem?_getD, List.getElem?_eq_getElem (by rw [digs_len]; exact hjl), Option.getD_some, digs_get]
      rw [byteAt_eq hjl] at ha hda
      obtain ⟨da, hdd⟩ : ∃ d : Nat, (A[j]'hjl).toNat - 48 = d := ⟨_, rfl⟩
      rw [hdd] at hda
      have hcd : (((A[j]'hjl).toNat : Int) - 48) = (da : Int) := by omega
      have hd9 : da ≤ 9 := by omega
      have hwd : IntKind.u8.wrap (da : Int) = (da : Int) := IntWalk.u8_in _ (by omega)
      have hc0 := H.out.1.cell (j := j) (by rw [padX_len]; omega)
      have hf0 := H.out.1.frozen (j := j) (by rw [padX_len]; omega)
      have hle1 : decide ((k : Int) + 1 ≤ (A.size : Int)) = true := decide_eq_true (by omega)
      have hS : Hid (∀ (db d owed' : Nat), (if k < (digs B).length then (digs B).getD ((digs B).length - 1 - k) 0 else 0) = db → d < 10 → owed' ≤ 1 → d + owed + db = da + 10 * owed' → ∀ v : Value, v = .int .u8 ((48 + d : Nat) : Int) → Byt (wr.setCell ⟨ob, j, none⟩ v) ob (padX (X.set j d) pad) ∧ Fr [] w (wr.setCell ⟨ob, j, none⟩ v) ∧ Sub1 (digs A) (digs B) (X.set j d) (k + 1) owed') := Lib.hid fun db d owed' h1 h2 h3 h4 v hv => by
        subst hv
        refine ⟨?_, H.out.2.1.set (.inr (by rw [HO.out]; exact Nat.le_refl _)) _ _, ?_⟩
        · rw [← padX_set (by omega)]
          exact H.out.1.set _ _
        · have := H.out.2.2.step (i := k) (d := d) (owed' := owed') (by rw [digs_len]; exact hlt) h2 h3 (by rw [h1, hda]; exact h4)
          rw [digs_len, ← hj] at this
          exact this
      clear ha hdd hda hXl hj
      by_cases hm : k < B.size
      · obtain ⟨jb, hjb⟩ : ∃ j, j = B.size - 1 - k := ⟨_, rfl⟩
        have hjbl : jb < B.size := by omega
        have hjb1 : (B.size : Int) - ((k : Int) + 1) = (jb : Int) := by omega
        have hb := HB'.out jb hjbl
        have hdb : (if k < (digs B).length then (digs B).getD ((digs B).length - 1 - k) 0 else 0) = byteAt B jb - 48 := by
          rw [if_pos (by rw [digs_len]; exact hm), digs_len, ← hjb, List.getD_eq_getElem?_getD, List.getElem?_eq_getElem (by rw [digs_len]; exact hjbl), Option.getD_some, digs_get]
        rw [byteAt_eq hjbl] at hb hdb
        obtain ⟨db, hdbb⟩ : ∃ d : Nat, (B[jb]'hjbl).toNat - 48 = d := ⟨_, rfl⟩
        rw [hdbb] at hdb
        have hcb : (((B[jb]'hjbl).toNat : Int) - 48) = (db : Int) := by omega
        have hdb9 : db ≤ 9 := by omega
        have hwb : IntKind.u8.wrap (db : Int) = (db : Int) := IntWalk.u8_in _ (by omega)
        have hle2 : decide ((k : Int) + 1 ≤ (B.size : Int)) = true := decide_eq_true (by omega)
        have HDB := Lib.hid hdb
        clear hb hdb hdbb hjb
        by_cases hneg : (da : Int) - (owed : Int) - (db : Int) < 0
        · have hd1 : decide ((da : Int) - (owed : Int) - (db : Int) < 0) = true := decide_eq_true hneg
          obtain ⟨d, hd⟩ : ∃ d : Nat, (da : Int) - (owed : Int) - (db : Int) + 10 = (d : Int) := ⟨((da : Int) - (owed : Int) - (db : Int) + 10).toNat, by omega⟩
          have hd2 : d ≤ 9 := by omega
          have hST : Hid (∀ v : Value, v = .int .u8 ((48 + d : Nat) : Int) → Byt (wr.setCell ⟨ob, j, none⟩ v) ob (padX (X.set j d) pad) ∧ Fr [] w (wr.setCell ⟨ob, j, none⟩ v) ∧ Sub1 (digs A) (digs B) (X.set j d) (k + 1) 1) := Lib.hid (hS.out db d 1 HDB.out (by omega) (by omega) (by omega))
          have hw8 : IntKind.u8.wrap (48 + (d : Int)) = 48 + (d : Int) := IntWalk.u8_in _ (by omega)
          clear hS HDB
          go_wp2_with fail
          go_roundw
          case rel => exact ⟨k + 1, 1, X.set j d, hlt, by omega, rfl, by go_num, Lib.hid (hST.out _ (by go_num))⟩
          case measure => simp [intOf]; omega
        · have hd1 : decide ((da : Int) - (owed : Int) - (db : Int) < 0) = false := decide_eq_false hneg
          obtain ⟨d, hd⟩ : ∃ d : Nat, (da : Int) - (owed : Int) - (db : Int) = (d : Int) := ⟨((da : Int) - (owed : Int) - (db : Int)).toNat, by omega⟩
          have hd2 : d ≤ 9 := by omega
          have hST : Hid (∀ v : Value, v = .int .u8 ((48 + d : Nat) : Int) → Byt (wr.setCell ⟨ob, j, none⟩ v) ob (padX (X.set j d) pad) ∧ Fr [] w (wr.setCell ⟨ob, j, none⟩ v) ∧ Sub1 (digs A) (digs B) (X.set j d) (k + 1) 0) := Lib.hid (hS.out db d 0 HDB.out (by omega) (by omega) (by omega))
          have hw8 : IntKind.u8.wrap (48 + (d : Int)) = 48 + (d : Int) := IntWalk.u8_in _ (by omega)
          clear hS HDB
          go_wp2_with fail
          go_roundw
          case rel => exact ⟨k + 1, 0, X.set j d, hlt, by omega, rfl, by go_num, Lib.hid (hST.out _ (by go_num))⟩
          case measure => simp [intOf]; omega
      · have hdb : (if k < (digs B).length then (digs B).getD ((digs B).length - 1 - k) 0 else 0) = 0 := if_neg (by rw [digs_len]; exact hm)
        have hle2 : decide ((k : Int) + 1 ≤ (B.size : Int)) = false := decide_eq_false (by omega)
        have HDB := Lib.hid hdb
        clear hdb
        by_cases hneg : (da : Int) - (owed : Int) < 0
        · have hd1 : decide ((da : Int) - (owed : Int) < 0) = true := decide_eq_true hneg
          obtain ⟨d, hd⟩ : ∃ d : Nat, (da : Int) - (owed : Int) + 10 = (d : Int) := ⟨((da : Int) - (owed : Int) + 10).toNat, by omega⟩
          have hd2 : d ≤ 9 := by omega
          have hST : Hid (∀ v : Value, v = .int .u8 ((48 + d : Nat) : Int) → Byt (wr.setCell ⟨ob, j, none⟩ v) ob (padX (X.set j d) pad) ∧ Fr [] w (wr.setCell ⟨ob, j, none⟩ v) ∧ Sub1 (digs A) (digs B) (X.set j d) (k + 1) 1) := Lib.hid (hS.out 0 d 1 HDB.out (by omega) (by omega) (by omega))
          have hw8 : IntKind.u8.wrap (48 + (d : Int)) = 48 + (d : Int) := IntWalk.u8_in _ (by omega)
          clear hS HDB
          go_wp2_with fail
          go_roundw
          case rel => exact ⟨k + 1, 1, X.set j d, hlt, by omega, rfl, by go_num, Lib.hid (hST.out _ (by go_num))⟩
          case measure => simp [intOf]; omega
        · have hd1 : decide ((da : Int) - (owed : Int) < 0) = false := decide_eq_false hneg
          obtain ⟨d, hd⟩ : ∃ d : Nat, (da : Int) - (owed : Int) = (d : Int) := ⟨((da : Int) - (owed : Int)).toNat, by omega⟩
          have hd2 : d ≤ 9 := by omega
          have hST : Hid (∀ v : Value, v = .int .u8 ((48 + d : Nat) : Int) → Byt (wr.setCell ⟨ob, j, none⟩ v) ob (padX (X.set j d) pad) ∧ Fr [] w (wr.setCell ⟨ob, j, none⟩ v) ∧ Sub1 (digs A) (digs B) (X.set j d) (k + 1) 0) := Lib.hid (hS.out 0 d 0 HDB.out (by omega) (by omega) (by omega))
          have hw8 : IntKind.u8.wrap (48 + (d : Int)) = 48 + (d : Int) := IntWalk.u8_in _ (by omega)
          clear hS HDB
          go_wp2_with fail
          go_roundw
          case rel => exact ⟨k + 1, 0, X.set j d, hlt, by omega, rfl, by go_num, Lib.hid (hST.out _ (by go_num))⟩
          case measure => simp [intOf]; omega
    · have hke : k = A.size := by omega
      have hle1 : decide ((k : Int) + 1 ≤ (A.size : Int)) = false := decide_eq_false (by omega)
      have hXl : X.length = A.size := by rw [H.out.2.2.len, digs_len]
      have hcx := byt_text (cp := cp) H.out.1 hXl
      have h35 := fun w1 => jBare (txtOf X) (by rw [txtOf_size]; omega) w1
      have HU : Hid (Bar (bare (txtOf X)) ∧ dv (bare (txtOf X)) = dv A - dv B) := Lib.hid (by
        have hS := H.out.2.2
        rw [hke, ← digs_len] at hS
        refine ⟨bare_bar (txtOf_dg hS.ten), ?_⟩
        rw [bare_dv (txtOf_dg hS.ten)]
        unfold dv
        rw [txtOf_digs hS.ten]
        exact hS.fin (by rw [digs_len, digs_len]; exact hs) HL.out)
      have HF : Hid (Fr [] w wr) := Lib.hid H.out.2.1
      clear hke hXl H
      generalize txtOf X = T at *
      generalize bare T = U at *
      go_wp2_with (go_at_call 35; (with_reducible refine (h35 _).mono ?_); rintro e w2 ⟨rfl, rfl⟩)
      go_ret
      exact ⟨U, rfl, HU, HF.out⟩
end Go.Proofs.YtpmggjplfcjkkaaGreatDoor

/- spec: JSign; the law's jDecimals. -/
set_option linter.unusedVariables false
set_option linter.unusedSimpArgs false
namespace Go.Proofs.YtpmggjplfcjkkaaGreatDoor
open Go.RowKit Nq

theorem bar_empty : Bar ⟨#[]⟩ := ⟨fun i hi => absurd hi (by simp [ByteArray.size]), by decide⟩
/-- The sign of a decimal. -/
def sgnOf (m : Bool) (D : ByteArray) : Int := if D.size = 0 then 0 else if m then -1 else 1
set_option maxRecDepth 100000 in
set_option maxHeartbeats 1000000 in
theorem jCompare0 (m : Bool) (D : ByteArray) (x : Int) (hD : Bar D) (hs : D.size ≤ 40) (hx : -200 ≤ x ∧ x ≤ 200) (hm : m = true → D.size ≠ 0) (w : World) :
    Calls Tryz.prog 16 #[.agg #[.bool m, .string D, .int .i64 x], .agg #[.bool false, .string ⟨#[]⟩, .int .i64 0]] w fun e w' => e = .returned (.int .i64 (sgnOf m D)) ∧ Fr [] w w' := by
  cases m with
  | true =>
    have HR : Hid (sgnOf true D = -1) := Lib.hid (by unfold sgnOf; rw [if_neg (hm rfl)]; rfl)
    have HF : Hid (∀ C1 C2, Fr [] w (((w.alloc (.cells C1 38)).alloc (.cells C2 38)))) := Lib.hid fun C1 C2 => (((Fr.refl _ _).alloc _).alloc _)
    clear hD hs hx hm
    go_enter Tryz.func16, Tryz.ntmps16
    go_wp2_with fail
    go_ret
    exact ⟨by rw [HR.out]; rfl, HF.out _ _⟩
  | false =>
    have h30 := fun w1 => jAlike false false D ⟨#[]⟩ x 0 (by omega) (by decide) hx (by decide) w1
    have hz : zer ⟨#[]⟩ (0 - x) = ⟨#[]⟩ := zer_stop (.inl rfl)
    rw [hz] at h30
    have h31 := fun w1 => jCompareDigits (zer D (x - 0)) ⟨#[]⟩ (zer_bar _ hD) bar_empty (by have := zer_size (x - 0) hD; omega) (by decide) w1
    have hc : cmpN (dv (zer D (x - 0))) (dv ⟨#[]⟩) = sgnOf false D := by
      rw [zer_dv _ hD, dv_zero (U := ⟨#[]⟩) rfl]
      unfold sgnOf cmpN
      by_cases h0 : D.size = 0
      · rw [if_pos h0, dv_zero h0, Nat.zero_mul]; rfl
      · have := hD.ge (by omega)
        have h2 : 0 < dv D * 10 ^ (x - 0).toNat := Nat.mul_pos (by have := Nat.pow_pos (n := D.size - 1) (show 0 < 10 by decide); omega) (Nat.pow_pos (by decide))
        rw [if_neg h0, if_neg (by omega), if_pos h2]
        rfl
    rw [hc] at h31
    have HF : Hid (∀ (C1 C2 : Array Value) w2, Fr [] ((w.alloc (.cells C1 38)).alloc (.cells C2 38)) w2 → Fr [] w w2) := Lib.hid fun C1 C2 w2 h => (((Fr.refl _ _).alloc _).alloc _).trans h
    have HC : Hid (∀ (v : Value) (C2 : Array Value) w2, Fr [] ((w.alloc (.cells #[.bool false, v, .int .i64 x] 38)).alloc (.cells C2 38)) w2 → w2.cell? ⟨w.heap.size, 0, none⟩ = some (.bool false)) := Lib.hid fun v C2 w2 h => (((Cells.new w #[.bool false, v, .int .i64 x] 38).fr ((Fr.refl [] _).alloc _) (by simp)).fr h (by simp)).cell 0 rfl
    generalize sgnOf false D = r at *
    generalize zer D (x - 0) = Z at *
    clear hD hs hx hm hz hc
    go_enter Tryz.func16, Tryz.ntmps16
    go_wp2_with (first | (go_at_call 30; (with_reducible refine (h30 _).mono ?_); rintro e w2 ⟨rfl, hf⟩; have c0 := HC.out _ _ _ hf; have HG := Lib.hid (HF.out _ _ _ hf); clear hf) | (go_at_call 31; (with_reducible refine (h31 _).mono ?_); rintro e w3 ⟨rfl, rfl⟩))
    go_ret
    exact ⟨rfl, HG.out⟩

set_option maxRecDepth 100000 in
set_option maxHeartbeats 1000000 in
theorem jSign {S : ByteArray} {m : Bool} {D : ByteArray} {x : Int} (hS : S.size ≤ 2147483647) (hd : decF S = some (m, D, x)) (hD : Bar D) (hs : D.size ≤ 40) (hx : -200 ≤ x ∧ x ≤ 200) (hm : m = true → D.size ≠ 0) (w : World) :
    Calls Tryz.prog 6 #[.string S] w fun e w' => e = .returned (.int .i64 (sgnOf m D)) ∧ Fr [] w w' := by
  have h15 := jDecimalOf S hS w
  rw [hd] at h15
  replace h15 : Calls Tryz.prog 15 #[.string S] w fun e w' => e = .returned (.tuple #[.agg #[.bool m, .string D, .int .i64 x], .bool true]) ∧ Fr [] w w' := h15
  have h16 := fun w1 => jCompare0 m D x hD hs hx hm w1
  have HF : Hid (∀ (w1 w2 : World) (C1 : Array Value), Fr [] w w1 → Fr [] (w1.alloc (.cells C1 38)) w2 → Fr [] w w2) := Lib.hid fun w1 w2 C1 h1 h2 => (h1.alloc _).trans h2
  generalize sgnOf m D = r at *
  clear hd hD hs hx hm
  go_enter Tryz.func6, Tryz.ntmps6
  go_wp2_with (first | (go_at_call 15; (with_reducible refine h15.mono ?_); rintro e w1 ⟨rfl, hf⟩; have HG := Lib.hid hf; clear hf h15) | (go_at_call 16; (with_reducible refine (h16 _).mono ?_); rintro e w2 ⟨rfl, hf⟩; have HH := Lib.hid (HF.out _ _ _ HG.out hf); clear hf))
  go_ret
  exact ⟨rfl, HH.out⟩

/-- These texts can be read from block b on. -/
def Strs (w : World) (b : Nat) (L : List ByteArray) : Prop := b < w.heap.size ∧ ∀ i (h : i < L.length), w.cell? ⟨b, i, none⟩ = some (.string L[i])
theorem Strs.fr {w w' : World} {b : Nat} {L : List ByteArray} (h : Strs w b L) (hf : Fr [] w w') : Strs w' b L :=
  ⟨Nat.lt_of_lt_of_le h.1 hf.size, fun i hi => (cell_fr hf h.1 (by simp)).trans (h.2 i hi)⟩
def isDec (S : ByteArray) : Bool := (decF S).isSome
set_option maxRecDepth 100000 in
set_option maxHeartbeats 1000000 in
theorem jDecimals (b c : Nat) (L : List ByteArray) (hL : L.length ≤ 10) (hS : ∀ S ∈ L, S.size ≤ 2147483647) (w : World) (hb : Strs w b L) :
    Calls Tryz.prog 5 #[.slice (some ⟨b, 0, none⟩) L.length c] w fun e w' => e = .returned (.bool (L.all isDec)) ∧ Fr [] w w' := by
  have HS := Lib.hid hS
  have HB := Lib.hid hb
  obtain ⟨n, hn⟩ : ∃ n, L.length = n := ⟨_, rfl⟩
  have HN := Lib.hid hn
  have HT : Hid ((∀ i (h : i < L.length), isDec L[i] = true) → L.all isDec = true) := Lib.hid fun h => by
    rw [List.all_eq_true]
    intro S hS
    obtain ⟨i, hi, rfl⟩ := List.mem_iff_getElem.1 hS
    exact h i hi
  have HX : Hid (∀ i (h : i < L.length), isDec L[i] = false → L.all isDec = false) := Lib.hid fun i hi h => by
    rw [List.all_eq_false]
    exact ⟨_, List.getElem_mem hi, by rw [h]; decide⟩
  rw [hn] at hL ⊢
  clear hS hb hn
  go_enter Tryz.func5, Tryz.ntmps5
  go_wp2
  go_loopw [3] (fun v3 wr => ∃ i : Nat, i ≤ n ∧ v3 = .int .i64 i ∧ Hid (Fr [] w wr ∧ ∀ j (h : j < L.length), j < i → isDec L[j] = true)) (fun v3 _ => n - (intOf v3).toNat)
  case atStart => exact ⟨0, by omega, rfl, Lib.hid ⟨Fr.refl _ _, fun j _ h => by omega⟩⟩
  case round =>
    obtain ⟨i, hi, rfl, H⟩ := hrel
    by_cases hlt : i < n
    · have hl : i < L.length := by rw [HN.out]; exact hlt
      have hc := (HB.out.fr H.out.1).2 i hl
      have h14 := jIsDecimal L[i] (HS.out _ (List.getElem_mem hl)) wr
      obtain ⟨T, hT⟩ : ∃ T, L[i] = T := ⟨_, rfl⟩
      obtain ⟨v, hv⟩ : ∃ v, isDec L[i] = v := ⟨_, rfl⟩
      rw [show (decF L[i]).isSome = v from hv] at h14
      rw [hT] at hc h14
      have HV := Lib.hid hv
      clear hv hT
      cases v with
      | true =>
        have HP : Hid (∀ j (h : j < L.length), j < i + 1 → isDec L[j] = true) := Lib.hid fun j h hj => by
          by_cases e : j = i
          · subst e; exact HV.out
          · exact H.out.2 j h (by omega)
        go_wp2_with (go_at_call 14; (with_reducible refine h14.mono ?_); rintro e w1 ⟨rfl, hf⟩; have HG := Lib.hid hf; clear hf)
        go_roundw
        case rel => exact ⟨i + 1, hlt, by go_num, Lib.hid ⟨H.out.1.trans HG.out, HP.out⟩⟩
        case measure => simp [intOf]; omega
      | false =>
        have HP : Hid (L.all isDec = false) := Lib.hid (HX.out i hl HV.out)
        go_wp2_with (go_at_call 14; (with_reducible refine h14.mono ?_); rintro e w1 ⟨rfl, hf⟩; have HG := Lib.hid hf; clear hf)
        go_ret
        exact ⟨by rw [HP.out]; rfl, H.out.1.trans HG.out⟩
    · have HP : Hid (L.all isDec = true) := Lib.hid (HT.out fun j h => H.out.2 j h (by have := HN.out; omega))
      go_wp2_with fail
      go_ret
      exact ⟨by rw [HP.out]; rfl, H.out.1⟩
end Go.Proofs.YtpmggjplfcjkkaaGreatDoor

/- spec.jMultiple, spec.JMultiple: division digit by digit. -/
set_option linter.unusedVariables false
set_option linter.unusedSimpArgs false
namespace Go.Proofs.YtpmggjplfcjkkaaGreatDoor
open Go.RowKit Nq

def dvOf : Value → Nat
  | .string V => dv V
  | _ => 0
theorem dv_digit {X : ByteArray} {i : Nat} (h : i < X.size) : dv (X.extract 0 (i + 1)) = dv (X.extract 0 i) * 10 + dv (X.extract i (i + 1)) := by
  have hl : i < (digs X).length := by rw [digs_len]; exact h
  unfold dv
  rw [digs_extract, digs_extract, digs_extract]
  simp only [List.drop_zero, Nat.sub_zero, Nat.add_sub_cancel_left]
  have e : (List.drop i (digs X)).take 1 = [(digs X)[i]] := by rw [List.drop_eq_getElem_cons hl]; rfl
  rw [dval_take hl, e]
  simp [dval]
theorem mod_step {p y u d v : Nat} (h : p % y = u) (hv : v = u * 10 + d) : v % y = (p * 10 + d) % y := by
  rw [hv, ← h]
  simp [Nat.add_mod, Nat.mul_mod]
/-- What stands between two rounds of the division. -/
structure Dig1 (w wr : World) (X Y U : ByteArray) (i : Nat) : Prop where
  fr : Fr [] w wr
  bar : Bar U
  lt : dv U < dv Y
  mod : dv (X.extract 0 i) % dv Y = dv U
structure Dig2 (w wr : World) (X Y V : ByteArray) (i : Nat) : Prop where
  fr : Fr [] w wr
  bar : Bar V
  mod : dv V % dv Y = dv (X.extract 0 (i + 1)) % dv Y
theorem Dig1.next {w wr : World} {X Y U : ByteArray} {i : Nat} (h : Dig1 w wr X Y U i) (hX : Dg X) (hi : i < X.size) : Dig2 w wr X Y (bare (U ++ X.extract i (i + 1))) i := by
  have hd := h.bar.dg.append (hX.extract i (i + 1) (by omega))
  refine ⟨h.fr, bare_bar hd, ?_⟩
  rw [bare_dv hd, dv_digit hi]
  refine mod_step h.mod ?_
  rw [dv_append, show (X.extract i (i + 1)).size = 1 by simp [ByteArray.size_extract]; omega]
theorem Dig2.fin {w wr : World} {X Y V : ByteArray} {i : Nat} (h : Dig2 w wr X Y V i) (hl : dv V < dv Y) : Dig1 w wr X Y V (i + 1) :=
  ⟨h.fr, h.bar, hl, by rw [← h.mod, Nat.mod_eq_of_lt hl]⟩
theorem Dig2.less {w wr wr' : World} {X Y V U : ByteArray} {i : Nat} (h : Dig2 w wr X Y V i) (hl : ¬ dv V < dv Y) (hU : Bar U ∧ dv U = dv V - dv Y) (hf : Fr [] wr wr') : Dig2 w wr' X Y U i := by
  refine ⟨h.fr.trans hf, hU.1, ?_⟩
  rw [hU.2, ← h.mod]
  exact (Nat.mod_eq_sub_mod (by omega)).symm

set_option maxRecDepth 100000 in
set_option maxHeartbeats 4000000 in
theorem jDivide (m1 m2 : Bool) (D1 D2 : ByteArray) (x1 x2 : Int) (X Y : ByteArray) (hX : Bar X) (hY : Bar Y) (sX : X.size ≤ 1000) (sY : Y.size ≤ 900) (h0 : Y.size ≠ 0) (w : World)
    (h30 : ∀ w1, Calls Tryz.prog 30 #[.agg #[.bool m1, .string D1, .int .i64 x1], .agg #[.bool m2, .string D2, .int .i64 x2]] w1 fun e w' => e = .returned (.tuple #[.string X, .string Y]) ∧ Fr [] w1 w') :
    Calls Tryz.prog 20 #[.agg #[.bool m1, .string D1, .int .i64 x1], .agg #[.bool m2, .string D2, .int .i64 x2]] w fun e w' => e = .returned (.bool (decide (dv Y ∣ dv X))) ∧ Fr [] w w' := by
  have HX := Lib.hid hX
  have HY := Lib.hid hY
  have hY0 : 0 < Y.size := by omega
  have hE := notEmpty_of hY0
  have hE' := some_toList hY0
  have HP : Hid (0 < dv Y) := Lib.hid (by have := hY.ge hY0; have := Nat.pow_pos (n := Y.size - 1) (show 0 < 10 by decide); omega)
  have HF : Hid (∀ (C1 C2 : Array Value) w2, Fr [] ((w.alloc (.cells C1 38)).alloc (.cells C2 38)) w2 → Fr [] w w2) := Lib.hid fun C1 C2 w2 h => (((Fr.refl _ _).alloc _).alloc _).trans h
  obtain ⟨r, hr⟩ : ∃ r, decide (dv Y ∣ dv X) = r := ⟨_, rfl⟩
  have HR := Lib.hid hr
  rw [hr]
  clear hX hY h0 hr
  go_enter Tryz.func20, Tryz.ntmps20
  go_upto_region 4 with (go_at_call 30; (with_reducible refine (h30 _).mono ?_); rintro e w2 ⟨rfl, hf⟩; have HG := Lib.hid (HF.out _ _ _ hf); clear hf)
  clear h30 HF hE hE'
  go_wp2_with fail
  go_loopw [7, 8] (fun v7 v8 wr => ∃ (U : ByteArray) (i : Nat), i ≤ X.size ∧ U.size ≤ 900 ∧ v7 = .string U ∧ v8 = .int .i64 i ∧ Hid (Dig1 w wr X Y U i)) (fun _ v8 _ => X.size - (intOf v8).toNat)
  case atStart => exact ⟨⟨#[]⟩, 0, by omega, by decide, rfl, rfl, Lib.hid ⟨HG.out, bar_empty, by rw [dv_zero (U := ⟨#[]⟩) rfl]; exact HP.out, by rw [dv_zero (U := ⟨#[]⟩) rfl, dv_zero (U := X.extract 0 0) (by simp [ByteArray.size_extract])]; simp⟩⟩
  case round =>
    obtain ⟨U, i, hi, hU, rfl, rfl, H⟩ := hrel
    obtain ⟨wo, rfl⟩ : ∃ wo : World, wo = wr := ⟨_, rfl⟩
    by_cases hlt : i < X.size
    · have hUs : (U ++ X.extract i (i + 1)).size ≤ 2147483647 := by simp [ByteArray.size_append, ByteArray.size_extract]; omega
      have h35 := fun w1 => jBare (U ++ X.extract i (i + 1)) hUs w1
      have HN : Hid (Dig2 w wo X Y (bare (U ++ X.extract i (i + 1))) i ∧ (bare (U ++ X.extract i (i + 1))).size ≤ 901) := Lib.hid ⟨H.out.next HX.out.dg hlt, by
        have := bare_size (U ++ X.extract i (i + 1))
        simp [ByteArray.size_append, ByteArray.size_extract] at this
        omega⟩
      clear hUs H
      go_wp2_with (go_at_call 35; (with_reducible refine (h35 _).mono ?_); rintro e w3 ⟨rfl, rfl⟩)
      generalize bare (U ++ X.extract i (i + 1)) = V0 at *
      go_loopw [7] (fun v7 wr => ∃ V : ByteArray, V.size ≤ 901 ∧ v7 = .string V ∧ Hid (Dig2 w wr X Y V i)) (fun v7 _ => dvOf v7)
      case atStart => exact ⟨V0, HN.out.2, rfl, Lib.hid HN.out.1⟩
      case round =>
        clear HN
        obtain ⟨V, hV, rfl, H⟩ := hrel
        have h31 := fun w1 => jCompareDigits V Y H.out.bar HY.out (by omega) (by omega) w1
        by_cases hc : dv V < dv Y
        · rw [show cmpN (dv V) (dv Y) = -1 by unfold cmpN; rw [if_pos hc]] at h31
          have HZ : Hid (Dig1 w wr X Y V (i + 1) ∧ V.size ≤ 900) := Lib.hid ⟨H.out.fin hc, by have := H.out.bar.size_le HY.out.dg (by omega); omega⟩
          clear hc H
          go_wp2_with (go_at_call 31; (with_reducible refine (h31 _).mono ?_); rintro e w3 ⟨rfl, rfl⟩)
          go_roundw
          case rel => exact ⟨V, i + 1, hlt, HZ.out.2, rfl, by go_num, Lib.hid HZ.out.1⟩
          case measure => simp [intOf]; omega
        · obtain ⟨c, hcc⟩ : ∃ c, cmpN (dv V) (dv Y) = c := ⟨_, rfl⟩
          have hc0 : decide (c ≥ 0) = true := decide_eq_true (by rw [← hcc]; unfold cmpN; rw [if_neg hc]; split <;> omega)
          rw [hcc] at h31
          have h36 := fun w1 => jLess V Y H.out.bar.dg HY.out.dg (HY.out.size_le H.out.bar.dg (by omega)) (by omega) (by omega) w1
          have HZ : Hid (∀ w3 U, Bar U ∧ dv U = dv V - dv Y → Fr [] wr w3 → Dig2 w w3 X Y U i ∧ U.size ≤ 901 ∧ dvOf (.string U) < dvOf (.string V)) := Lib.hid fun w3 U hU hf => ⟨H.out.less hc hU hf, by have := hU.1.size_le H.out.bar.dg (by omega); omega, by show dv U < dv V; have := HP.out; omega⟩
          clear hc H hcc
          go_wp2_with (first | (go_at_call 31; (with_reducible refine (h31 _).mono ?_); rintro e w3 ⟨rfl, rfl⟩) | (go_at_call 36; (with_reducible refine (h36 _).mono ?_); rintro e w3 ⟨U2, rfl, HU, hf⟩; have HW := Lib.hid (HZ.out _ _ HU.out hf); clear hf))
          go_roundw
          case rel => exact ⟨U2, HW.out.2.1, rfl, Lib.hid HW.out.1⟩
          case measure => exact HW.out.2.2
    · have hie : i = X.size := by omega
      have HE : Hid (decide (U.size = 0) = r) := Lib.hid (by
        rw [← HR.out, decide_eq_decide, ← H.out.bar.zero_iff, ← H.out.mod, hie]
        rw [show X.extract 0 X.size = X by simp]
        exact (Nat.dvd_iff_mod_eq_zero ..).symm)
      have HFF : Hid (Fr [] w wo) := Lib.hid H.out.fr
      clear H hie
      by_cases h0 : U.size = 0
      · have hE := isEmpty_of h0
        have hE' := empty_toList h0
        rw [decide_eq_true h0] at HE
        clear h0
        go_wp2_with fail
        go_ret
        exact ⟨by rw [← HE.out]; rfl, HFF.out⟩
      · have hE := notEmpty_of (show 0 < U.size by omega)
        have hE' := some_toList (show 0 < U.size by omega)
        rw [decide_eq_false h0] at HE
        clear h0
        go_wp2_with fail
        go_ret
        exact ⟨by rw [← HE.out]; rfl, HFF.out⟩
/-- Whether the one decimal is a whole number times the other. -/
def multB (D1 : ByteArray) (x1 : Int) (D2 : ByteArray) (x2 : Int) : Bool := decide (dv D2 * 10 ^ (x2 - x1).toNat ∣ dv D1 * 10 ^ (x1 - x2).toNat)
theorem jMultipleD (m1 m2 : Bool) (D1 D2 : ByteArray) (x1 x2 : Int) (h1 : Bar D1) (h2 : Bar D2) (s1 : D1.size ≤ 40) (s2 : D2.size ≤ 40) (b1 : -200 ≤ x1 ∧ x1 ≤ 200) (b2 : -200 ≤ x2 ∧ x2 ≤ 200) (h0 : D2.size ≠ 0) (w : World) :
    Calls Tryz.prog 20 #[.agg #[.bool m1, .string D1, .int .i64 x1], .agg #[.bool m2, .string D2, .int .i64 x2]] w fun e w' => e = .returned (.bool (multB D1 x1 D2 x2)) ∧ Fr [] w w' := by
  have := jDivide m1 m2 D1 D2 x1 x2 (zer D1 (x1 - x2)) (zer D2 (x2 - x1)) (zer_bar _ h1) (zer_bar _ h2) (by have := zer_size (x1 - x2) h1; omega) (by have := zer_size (x2 - x1) h2; omega) (zer_some _ h2 h0) w (fun w1 => jAlike m1 m2 D1 D2 x1 x2 (by omega) (by omega) b1 b2 w1)
  rw [zer_dv _ h1, zer_dv _ h2] at this
  exact this
set_option maxRecDepth 100000 in
set_option maxHeartbeats 1000000 in
/-- spec.JMultiple -/
theorem specMultiple {A B : ByteArray} {m1 m2 : Bool} {D1 D2 : ByteArray} {x1 x2 : Int} (hA : A.size ≤ 2147483647) (hB : B.size ≤ 2147483647) (ha : decF A = some (m1, D1, x1)) (hb : decF B = some (m2, D2, x2)) (h1 : Bar D1) (h2 : Bar D2) (s1 : D1.size ≤ 40) (s2 : D2.size ≤ 40) (b1 : -200 ≤ x1 ∧ x1 ≤ 200) (b2 : -200 ≤ x2 ∧ x2 ≤ 200) (h0 : D2.size ≠ 0) (w : World) :
    Calls Tryz.prog 8 #[.string A, .string B] w fun e w' => e = .returned (.bool (multB D1 x1 D2 x2)) ∧ Fr [] w w' := by
  have k1 := jDecimalOf A hA w
  have k2 := fun w1 => jDecimalOf B hB w1
  rw [ha] at k1
  rw [hb] at k2
  replace k1 : Calls Tryz.prog 15 #[.string A] w fun e w' => e = .returned (.tuple #[.agg #[.bool m1, .string D1, .int .i64 x1], .bool true]) ∧ Fr [] w w' := k1
  replace k2 : ∀ w1, Calls Tryz.prog 15 #[.string B] w1 fun e w' => e = .returned (.tuple #[.agg #[.bool m2, .string D2, .int .i64 x2], .bool true]) ∧ Fr [] w1 w' := k2
  have k3 := fun w1 => jMultipleD m1 m2 D1 D2 x1 x2 h1 h2 s1 s2 b1 b2 h0 w1
  have HF : Hid (∀ (w1 w2 w3 : World) (C1 C2 : Array Value), Fr [] w w1 → Fr [] (w1.alloc (.cells C1 38)) w2 → Fr [] (w2.alloc (.cells C2 38)) w3 → Fr [] w w3) := Lib.hid fun w1 w2 w3 C1 C2 h1 h2 h3 => (((h1.alloc _).trans h2).alloc _).trans h3
  have HC : Hid (∀ (w1 w2 : World) v1 v2 v3, Fr [] (w1.alloc (.cells #[v1, v2, v3] 38)) w2 → w1.heap.size < w2.heap.size ∧ w2.cell? ⟨w1.heap.size, 0, none⟩ = some v1 ∧ w2.cell? ⟨w1.heap.size, 1, none⟩ = some v2 ∧ w2.cell? ⟨w1.heap.size, 2, none⟩ = some v3) := Lib.hid fun w1 w2 v1 v2 v3 h => by
    have hc := (Cells.new w1 #[v1, v2, v3] 38).fr h (by simp)
    exact ⟨hc.lt, hc.cell 0 rfl, hc.cell 1 rfl, hc.cell 2 rfl⟩
  generalize multB D1 x1 D2 x2 = r at *
  clear hA hB ha hb h1 h2 s1 s2 b1 b2 h0
  go_enter Tryz.func8, Tryz.ntmps8
  go_wp2_with (go_at_call 15; (with_reducible refine k1.mono ?_); rintro e w1 ⟨rfl, hf⟩; have HG := Lib.hid hf; clear hf k1)
  refine (k2 _).mono ?_
  rintro e w2 ⟨rfl, hf⟩
  obtain ⟨hz, c0, c1, c2⟩ := HC.out _ _ _ _ _ hf
  have HG2 := Lib.hid (fun w3 C2 h => HF.out _ _ w3 _ C2 HG.out hf h)
  clear hf HF HC k2 HG
  go_wp2_with (go_at_call 20; (with_reducible refine (k3 _).mono ?_); rintro e w3 ⟨rfl, hf⟩; have HH := Lib.hid (HG2.out _ _ hf); clear hf)
  go_ret
  exact ⟨rfl, HH.out⟩
end Go.Proofs.YtpmggjplfcjkkaaGreatDoor

/- The walk of laws.FnJMultiple, its callees' contracts given. -/
set_option linter.unusedVariables false
set_option linter.unusedSimpArgs false
namespace Go.Proofs.YtpmggjplfcjkkaaGreatDoor
open Go.RowKit Nq

/-- What is known of a decimal. -/
structure Dok (m : Bool) (D : ByteArray) (x : Int) : Prop where
  bar : Bar D
  sz : D.size ≤ 40
  x : -200 ≤ x ∧ x ≤ 200
  m : m = true → D.size ≠ 0
def LawPost (w : World) (e : Ending) (w' : World) : Prop := e = .returned (.bool true) ∧ Fr [] w w'

theorem strs_new (w : World) (T : TypeId) (L : List ByteArray) : Strs (w.alloc (.cells (L.map Value.string).toArray T)) w.heap.size L := by
  have h := Cells.new w (L.map Value.string).toArray T
  refine ⟨h.lt, fun i hi => h.cell i ?_⟩
  simp [hi]

set_option maxRecDepth 100000 in
set_option maxHeartbeats 1000000 in
theorem law3_long {A B : ByteArray} {w : World} (h : 2147483647 < A.size ∨ 2147483647 < B.size) (sA : A.size ≤ 9223372036854775807) (sB : B.size ≤ 9223372036854775807) : Calls Tryz.prog 3 #[.string A, .string B] w (LawPost w) := by
  by_cases h1 : 2147483647 < A.size
  · have d1 : decide ((A.size : Int) > 2147483647) = true := decide_eq_true (by omega)
    clear h h1
    go_enter Tryz.func3, Tryz.ntmps3
    go_wp2_with fail
    go_ret
    exact ⟨rfl, Fr.refl _ _⟩
  · have d1 : decide ((A.size : Int) > 2147483647) = false := decide_eq_false (by omega)
    have d2 : decide ((B.size : Int) > 2147483647) = true := decide_eq_true (by omega)
    clear h h1
    go_enter Tryz.func3, Tryz.ntmps3
    go_wp2_with fail
    go_ret
    exact ⟨rfl, Fr.refl _ _⟩

set_option maxRecDepth 100000 in
set_option maxHeartbeats 2000000 in
theorem law3_short {A B : ByteArray} {w : World} (sA : A.size ≤ 2147483647) (sB : B.size ≤ 2147483647) (hdok : ∀ S m D x, decF S = some (m, D, x) → Dok m D x)
    (h7 : ∀ m1 D1 x1 m2 D2 x2, decF A = some (m1, D1, x1) → decF B = some (m2, D2, x2) → D2.size ≠ 0 → ∀ w1, Fr [] w w1 → Calls Tryz.prog 7 #[.string A, .string B] w1 fun e w' => e = .returned (.tuple #[.bool (multB D1 x1 D2 x2), .bool true]) ∧ Fr [] w1 w') :
    Calls Tryz.prog 3 #[.string A, .string B] w (LawPost w) := by
  have d1 : decide ((A.size : Int) > 2147483647) = false := decide_eq_false (by omega)
  have d2 : decide ((B.size : Int) > 2147483647) = false := decide_eq_false (by omega)
  have f1 : Fr [] w (w.alloc (.cells #[.string A, .string B] 9)) := (Fr.refl _ _).alloc _
  have h5 := jDecimals w.heap.size 2 [A, B] (by simp) (by intro S hS; simp at hS; rcases hS with rfl | rfl <;> assumption) (w.alloc (.cells #[.string A, .string B] 9)) (strs_new w 9 [A, B])
  replace h5 : Calls Tryz.prog 5 #[.slice (some ⟨w.heap.size, 0, none⟩) 2 2] (w.alloc (.cells #[.string A, .string B] 9)) fun e w' => e = .returned (.bool (isDec A && (isDec B && true))) ∧ Hid (Fr [] w w') := h5.mono fun e w' h => ⟨h.1, Lib.hid (f1.trans h.2)⟩
  cases ha : decF A with
  | none =>
    rw [show isDec A = false by unfold isDec; rw [ha]; rfl, Bool.false_and] at h5
    clear h7 hdok f1 ha
    go_enter Tryz.func3, Tryz.ntmps3
    go_wp2_with (go_at_call 5; (with_reducible refine h5.mono ?_); rintro e w1 ⟨rfl, HF⟩)
    go_ret
    exact ⟨rfl, HF.out⟩
  | some ra =>
    cases hb : decF B with
    | none =>
      rw [show isDec B = false by unfold isDec; rw [hb]; rfl, Bool.false_and, Bool.and_false] at h5
      clear h7 hdok f1 ha hb
      go_enter Tryz.func3, Tryz.ntmps3
      go_wp2_with (go_at_call 5; (with_reducible refine h5.mono ?_); rintro e w1 ⟨rfl, HF⟩)
      go_ret
      exact ⟨rfl, HF.out⟩
    | some rb =>
      obtain ⟨m1, D1, x1⟩ := ra
      obtain ⟨m2, D2, x2⟩ := rb
      have ka := hdok _ _ _ _ ha
      have kb := hdok _ _ _ _ hb
      rw [show isDec A = true by unfold isDec; rw [ha]; rfl, show isDec B = true by unfold isDec; rw [hb]; rfl] at h5
      replace h5 : Calls Tryz.prog 5 #[.slice (some ⟨w.heap.size, 0, none⟩) 2 2] (w.alloc (.cells #[.string A, .string B] 9)) fun e w' => e = .returned (.bool true) ∧ Hid (Fr [] w w') := h5
      have h6 := fun w1 => jSign sB hb kb.bar kb.sz kb.x kb.m w1
      by_cases h0 : D2.size = 0
      · rw [show sgnOf m2 D2 = 0 by unfold sgnOf; rw [if_pos h0]] at h6
        clear h7 hdok f1 ha hb ka kb h0
        go_enter Tryz.func3, Tryz.ntmps3
        go_wp2_with (first | (go_at_call 5; (with_reducible refine h5.mono ?_); rintro e w1 ⟨rfl, HF⟩) | (go_at_call 6; (with_reducible refine (h6 _).mono ?_); rintro e w2 ⟨rfl, hf⟩; have HG := Lib.hid (HF.out.trans hf); clear hf))
        go_ret
        exact ⟨rfl, HG.out⟩
      · obtain ⟨sg, hsg⟩ : ∃ s, sgnOf m2 D2 = s := ⟨_, rfl⟩
        have hs0 : (sg == 0) = false := by
          rw [← hsg]; unfold sgnOf; rw [if_neg h0]; cases m2 <;> rfl
        rw [hsg] at h6
        have H7 := Lib.hid (h7 _ _ _ _ _ _ ha hb h0)
        have h8 := fun w1 => specMultiple sA sB ha hb ka.bar kb.bar ka.sz kb.sz ka.x kb.x h0 w1
        generalize multB D1 x1 D2 x2 = v at *
        clear h7 hdok f1 ha hb ka kb h0 hsg
        cases v <;>
        · go_enter Tryz.func3, Tryz.ntmps3
          go_wp2_with (first | (go_at_call 5; (with_reducible refine h5.mono ?_); rintro e w1 ⟨rfl, HF⟩) | (go_at_call 6; (with_reducible refine (h6 _).mono ?_); rintro e w2 ⟨rfl, hf⟩; have HG := Lib.hid (HF.out.trans hf); clear hf; have k7 := H7.out _ HG.out) | (go_at_call 7; (with_reducible refine k7.mono ?_); rintro e w3 ⟨rfl, hf⟩; have HH := Lib.hid (HG.out.trans hf); clear hf) | (go_at_call 8; (with_reducible refine (h8 _).mono ?_); rintro e w4 ⟨rfl, hf⟩; have HI := Lib.hid (HH.out.trans hf); clear hf))
          go_ret
          exact ⟨rfl, HI.out⟩
end Go.Proofs.YtpmggjplfcjkkaaGreatDoor
