/- Decimals as fractions: the plain law of multiples. -/
import Derived.Test.YtpmggjplfcjkkaaGreatDoorZ00
namespace Nq

def numOf (M : Nat) (E : Int) : Nat := M * 10 ^ E.toNat
def denOf (E : Int) : Nat := 10 ^ (-E).toNat
def rn (M : Nat) (E : Int) : Nat := numOf M E / Nat.gcd (numOf M E) (denOf E)
def rd (M : Nat) (E : Int) : Nat := denOf E / Nat.gcd (numOf M E) (denOf E)
theorem denOf_pos (E : Int) : 0 < denOf E := Nat.pow_pos (by decide)
/-- The two write one number. -/
def SameNum (M : Nat) (E : Int) (m : Nat) (e : Int) : Prop := numOf M E * denOf e = numOf m e * denOf E

theorem low_eq {a b c d : Nat} (hb : 0 < b) (hd : 0 < d) (h : a * d = c * b) : a / Nat.gcd a b = c / Nat.gcd c d ∧ b / Nat.gcd a b = d / Nat.gcd c d := by
  have hg : 0 < Nat.gcd a b := Nat.gcd_pos_of_pos_right _ hb
  have hh : 0 < Nat.gcd c d := Nat.gcd_pos_of_pos_right _ hd
  have ca : Nat.Coprime (a / Nat.gcd a b) (b / Nat.gcd a b) := Nat.coprime_div_gcd_div_gcd hg
  have cc : Nat.Coprime (c / Nat.gcd c d) (d / Nat.gcd c d) := Nat.coprime_div_gcd_div_gcd hh
  have ea : a = Nat.gcd a b * (a / Nat.gcd a b) := (Nat.mul_div_cancel' (Nat.gcd_dvd_left a b)).symm
  have eb : b = Nat.gcd a b * (b / Nat.gcd a b) := (Nat.mul_div_cancel' (Nat.gcd_dvd_right a b)).symm
  have ec : c = Nat.gcd c d * (c / Nat.gcd c d) := (Nat.mul_div_cancel' (Nat.gcd_dvd_left c d)).symm
  have ed : d = Nat.gcd c d * (d / Nat.gcd c d) := (Nat.mul_div_cancel' (Nat.gcd_dvd_right c d)).symm
  generalize Nat.gcd a b = g at *
  generalize Nat.gcd c d = k at *
  generalize a / g = a' at *
  generalize b / g = b' at *
  generalize c / k = c' at *
  generalize d / k = d' at *
  subst ea eb ec ed
  have h1 : a' * d' = c' * b' := by
    have : (g * k) * (a' * d') = (g * k) * (c' * b') := by grind
    exact Nat.eq_of_mul_eq_mul_left (Nat.mul_pos hg hh) this
  have hb' : 0 < b' := Nat.pos_of_mul_pos_left hb
  have d1 : b' ∣ d' := by
    have : b' ∣ a' * d' := ⟨c', by rw [h1, Nat.mul_comm]⟩
    exact (Nat.Coprime.symm ca).dvd_of_dvd_mul_left this
  have d2 : d' ∣ b' := by
    have : d' ∣ c' * b' := ⟨a', by rw [← h1, Nat.mul_comm]⟩
    exact (Nat.Coprime.symm cc).dvd_of_dvd_mul_left this
  have e : b' = d' := Nat.dvd_antisymm d1 d2
  subst e
  exact ⟨Nat.eq_of_mul_eq_mul_right hb' h1, rfl⟩

theorem SameNum.low {M : Nat} {E : Int} {m : Nat} {e : Int} (h : SameNum M E m e) : rn M E = rn m e ∧ rd M E = rd m e := low_eq (denOf_pos E) (denOf_pos e) h
theorem rd_pos (M : Nat) (E : Int) : 0 < rd M E := Nat.div_pos (Nat.le_of_dvd (denOf_pos E) (Nat.gcd_dvd_right _ _)) (Nat.gcd_pos_of_pos_right _ (denOf_pos E))
theorem rn_mul (M : Nat) (E : Int) : rn M E * denOf E = numOf M E * rd M E := by
  unfold rn rd
  have e1 := Nat.mul_div_cancel' (Nat.gcd_dvd_left (numOf M E) (denOf E))
  have e2 := Nat.mul_div_cancel' (Nat.gcd_dvd_right (numOf M E) (denOf E))
  generalize Nat.gcd (numOf M E) (denOf E) = g at *
  generalize numOf M E / g = p at *
  generalize denOf E / g = q at *
  rw [← e1, ← e2]
  grind
theorem rn_pos {M : Nat} {E : Int} (h : 0 < M) : 0 < rn M E := by
  have h1 : 0 < numOf M E := Nat.mul_pos h (Nat.pow_pos (by decide))
  exact Nat.div_pos (Nat.le_of_dvd h1 (Nat.gcd_dvd_left _ _)) (Nat.gcd_pos_of_pos_left _ h1)
theorem rn_zero (E : Int) : rn 0 E = 0 := by simp [rn, numOf]
theorem rd_zero (E : Int) : rd 0 E = 1 := by simp [rd, numOf, Nat.div_self (denOf_pos E)]

theorem dvd_iff_low {a b c d xn xd yn yd : Nat} (hb : 0 < b) (hd : 0 < d) (hx : 0 < xd) (hy : 0 < yd) (h1 : xn * b = a * xd) (h2 : yn * d = c * yd) : yn * xd ∣ xn * yd ↔ c * b ∣ a * d := by
  constructor
  · rintro ⟨k, hk⟩
    refine ⟨k, ?_⟩
    have : (xd * yd) * (a * d) = (xd * yd) * (c * b * k) := by
      have e1 : (xd * yd) * (a * d) = (xn * b) * (yd * d) := by rw [h1]; grind
      have e2 : (xn * b) * (yd * d) = (xn * yd) * (b * d) := by grind
      have e3 : (yn * xd * k) * (b * d) = (yn * d) * (xd * k * b) := by grind
      rw [e1, e2, hk, e3, h2]; grind
    exact Nat.eq_of_mul_eq_mul_left (Nat.mul_pos hx hy) this
  · rintro ⟨k, hk⟩
    refine ⟨k, ?_⟩
    have : (b * d) * (xn * yd) = (b * d) * (yn * xd * k) := by
      have e1 : (b * d) * (xn * yd) = (xn * b) * (d * yd) := by grind
      have e2 : (a * xd) * (d * yd) = (a * d) * (xd * yd) := by grind
      have e3 : (c * b * k) * (xd * yd) = (c * yd) * (b * k * xd) := by grind
      rw [e1, h1, e2, hk, e3, ← h2]; grind
    exact Nat.eq_of_mul_eq_mul_left (Nat.mul_pos hb hd) this

/-- Multiples: of the fractions, of the whole numbers in one unit. -/
theorem mult_iff (m1 : Nat) (e1 : Int) (m2 : Nat) (e2 : Int) : rn m2 e2 * rd m1 e1 ∣ rn m1 e1 * rd m2 e2 ↔ m2 * 10 ^ (e2 - e1).toNat ∣ m1 * 10 ^ (e1 - e2).toNat := by
  rw [dvd_iff_low (denOf_pos e1) (denOf_pos e2) (rd_pos m1 e1) (rd_pos m2 e2) (rn_mul m1 e1) (rn_mul m2 e2)]
  unfold numOf denOf
  obtain ⟨T, hT⟩ : ∃ T : Nat, e1.toNat + (-e2).toNat = (e1 - e2).toNat + T := ⟨e1.toNat + (-e2).toNat - (e1 - e2).toNat, by omega⟩
  have hT2 : e2.toNat + (-e1).toNat = (e2 - e1).toNat + T := by omega
  have e3 : m1 * 10 ^ e1.toNat * 10 ^ (-e2).toNat = (m1 * 10 ^ (e1 - e2).toNat) * 10 ^ T := by
    rw [Nat.mul_assoc, ← Nat.pow_add, hT, Nat.pow_add, Nat.mul_assoc]
  have e4 : m2 * 10 ^ e2.toNat * 10 ^ (-e1).toNat = (m2 * 10 ^ (e2 - e1).toNat) * 10 ^ T := by
    rw [Nat.mul_assoc, ← Nat.pow_add, hT2, Nat.pow_add, Nat.mul_assoc]
  rw [e3, e4]
  exact Nat.mul_dvd_mul_iff_right (Nat.pow_pos (by decide))

/-- A quotient in lowest terms is whole exactly if it divides. -/
theorem whole_iff {N D : Nat} (hD : 0 < D) : D / Nat.gcd N D = 1 ↔ D ∣ N := by
  have hg : 0 < Nat.gcd N D := Nat.gcd_pos_of_pos_right _ hD
  constructor
  · intro h
    have := Nat.mul_div_cancel' (Nat.gcd_dvd_right N D)
    rw [h, Nat.mul_one] at this
    rw [← this]; exact Nat.gcd_dvd_left N D
  · intro h
    rw [Nat.gcd_eq_right h, Nat.div_self hD]

/-- Zeros at the end go into the exponent. -/
theorem SameNum.shift (m : Nat) (e : Int) (t : Nat) : SameNum (m * 10 ^ t) e m (e + t) := by
  unfold SameNum numOf denOf
  rw [Nat.mul_assoc, ← Nat.pow_add, Nat.mul_assoc, ← Nat.pow_add, Nat.mul_assoc, ← Nat.pow_add]
  congr 2
  omega
theorem SameNum.zero (e e' : Int) : SameNum 0 e 0 e' := by simp [SameNum, numOf]
theorem SameNum.symm {M : Nat} {E : Int} {m : Nat} {e : Int} (h : SameNum M E m e) : SameNum m e M E := Eq.symm h

theorem rn_le (M : Nat) (E : Int) : rn M E ≤ M * 10 ^ E.toNat := Nat.div_le_self _ _
theorem rd_le (M : Nat) (E : Int) : rd M E ≤ 10 ^ (-E).toNat := Nat.div_le_self _ _
end Nq

/- The values of texts of digits: joined, cut, without zeros at their ends. -/
set_option linter.unusedVariables false
set_option linter.unusedSimpArgs false
namespace Go.Proofs.YtpmggjplfcjkkaaGreatDoor
open Go.RowKit Nq

theorem byteAt_in {S : ByteArray} {i n : Nat} (h : byteAt S i = n) (hn : n < 256) : i < S.size := by
  by_cases hi : i < S.size
  · exact hi
  · unfold byteAt at h; rw [dif_neg hi] at h; omega
theorem expU_bound {neg : Bool} {V : ByteArray} {x : Int} (h : expU neg V = some x) : -99 ≤ x ∧ x ≤ 99 := by
  unfold expU at h
  split at h
  · rename_i hh
    have h1 := dval_lt (digs_ten hh.1)
    rw [digs_len] at h1
    have h2 : 10 ^ V.size ≤ 10 ^ 2 := Nat.pow_le_pow_right (by decide) hh.2
    have h3 : dval (digs V) ≤ 99 := by omega
    have := Option.some.inj h
    split at this <;> omega
  · exact absurd h (by simp)
theorem expF_bound {T : ByteArray} {x : Int} (h : expF T = some x) : -99 ≤ x ∧ x ≤ 99 := by
  unfold expF at h
  split at h
  · have := Option.some.inj h; omega
  · split at h
    · split at h
      · exact expU_bound h
      · split at h <;> exact expU_bound h
    · exact absurd h (by simp)
/-- The rest of the walk's data: the point. -/
theorem decPart_cases (S : ByteArray) (hS : decWh S ≤ S.size) : (decWh S < S.size ∧ byteAt S (decWh S) = 46 ∧ decPart S = run S (decWh S + 1)) ∨ (byteAt S (decWh S) ≠ 46 ∧ decPart S = decWh S) := by
  unfold decPart
  by_cases e : byteAt S (decWh S) = 46
  · left; rw [if_pos e]; exact ⟨byteAt_in e (by decide), e, rfl⟩
  · right; rw [if_neg e]; exact ⟨e, rfl⟩

/-- All bytes are digits. -/
def Dg (U : ByteArray) : Prop := ∀ i, i < U.size → 48 ≤ byteAt U i ∧ byteAt U i ≤ 57
/-- The number of a text of digits. -/
def dv (U : ByteArray) : Nat := dval (digs U)

theorem digs_eq (S : ByteArray) : digs S = S.data.toList.map fun c => c.toNat - 48 := by
  apply List.ext_getElem
  · rw [digs_len]; simp
  · intro i h1 h2
    have hi : i < S.size := by rw [digs_len] at h1; exact h1
    rw [digs_get, byteAt_eq hi]
    simp [ByteArray.getElem_eq_getElem_data]
theorem digs_extract (S : ByteArray) (a b : Nat) : digs (S.extract a b) = ((digs S).drop a).take (b - a) := by
  rw [digs_eq, digs_eq, Lib.extract_data, List.map_take, List.map_drop]
theorem digs_append (A B : ByteArray) : digs (A ++ B) = digs A ++ digs B := by
  rw [digs_eq, digs_eq, digs_eq, ByteArray.data_append, Array.toList_append, List.map_append]
theorem foldl_dval (L : List Nat) (n : Nat) : L.foldl (fun n d => n * 10 + d) n = n * 10 ^ L.length + dval L := by
  induction L generalizing n with
  | nil => simp [dval]
  | cons a t ih =>
    unfold dval
    simp only [List.foldl_cons, List.length_cons]
    rw [ih, ih (0 * 10 + a), Nat.pow_succ]
    grind
theorem dval_append (A B : List Nat) : dval (A ++ B) = dval A * 10 ^ B.length + dval B := by
  rw [show dval (A ++ B) = (A ++ B).foldl (fun n d => n * 10 + d) 0 from rfl, List.foldl_append, foldl_dval]
  rfl
theorem dval_cons (d : Nat) (L : List Nat) : dval (d :: L) = d * 10 ^ L.length + dval L := by
  have := dval_append [d] L
  simpa [dval] using this
theorem dv_append (A B : ByteArray) : dv (A ++ B) = dv A * 10 ^ B.size + dv B := by
  unfold dv
  rw [digs_append, dval_append, digs_len]
theorem Dg.ten {U : ByteArray} (h : Dg U) : ∀ d ∈ digs U, d < 10 := by
  intro d hd
  unfold digs at hd
  simp at hd
  obtain ⟨i, hi, rfl⟩ := hd
  have := h i hi
  omega
theorem Dg.lt {U : ByteArray} (h : Dg U) : dv U < 10 ^ U.size := by
  have := dval_lt h.ten
  rwa [digs_len] at this
theorem Dg.extract {U : ByteArray} (h : Dg U) (a b : Nat) (hb : b ≤ U.size) : Dg (U.extract a b) := by
  intro i hi
  simp [ByteArray.size_extract] at hi
  rw [byteAt_extract hb (by omega)]
  exact h _ (by omega)
theorem Dg.of_all {U : ByteArray} (h : allDig U = true) : Dg U := fun i hi => allDig_at h hi
theorem Dg.all {U : ByteArray} (h : Dg U) (h0 : 0 < U.size) : allDig U = true := by
  obtain ⟨h1, h2, h3, h4⟩ := run_spec U (i := 0) (by omega)
  have e : run U 0 = U.size := by
    by_cases hlt : run U 0 < U.size
    · have := h _ hlt
      unfold digAt at h4
      simp at h4
      omega
    · omega
  unfold allDig
  exact decide_eq_true ⟨e, h0⟩
theorem byteAt_append {A B : ByteArray} {i : Nat} : byteAt (A ++ B) i = if i < A.size then byteAt A i else byteAt B (i - A.size) := by
  by_cases h : i < A.size
  · have h' : i < (A ++ B).size := by simp; omega
    rw [if_pos h, byteAt_eq h, byteAt_eq h']
    simp [ByteArray.getElem_append_left h]
  · rw [if_neg h]
    by_cases h2 : i - A.size < B.size
    · have h' : i < (A ++ B).size := by simp; omega
      rw [byteAt_eq h2, byteAt_eq h']
      simp [ByteArray.getElem_append_right (by omega : A.size ≤ i)]
    · unfold byteAt
      rw [dif_neg h2, dif_neg (by simp; omega)]
theorem Dg.append {A B : ByteArray} (h : Dg A) (k : Dg B) : Dg (A ++ B) := by
  intro i hi
  simp at hi
  rw [byteAt_append]
  split
  · exact h i (by assumption)
  · exact k _ (by omega)

theorem dv_zero {U : ByteArray} (h : U.size = 0) : dv U = 0 := by
  have : (digs U) = [] := List.eq_nil_of_length_eq_zero (by rw [digs_len]; exact h)
  unfold dv
  rw [this]
  rfl
theorem digs_split {T : ByteArray} (h : 0 < T.size) : digs T = (byteAt T 0 - 48) :: digs (T.extract 1 T.size) := by
  have hl : 0 < (digs T).length := by rw [digs_len]; exact h
  rw [digs_extract, List.take_of_length_le (by simp [digs_len])]
  rw [← digs_get hl]
  have e := List.drop_eq_getElem_cons hl
  rw [List.drop_zero] at e
  exact e
theorem dv_head {T : ByteArray} (h : 0 < T.size) : dv T = (byteAt T 0 - 48) * 10 ^ (T.size - 1) + dv (T.extract 1 T.size) := by
  unfold dv
  rw [digs_split h, dval_cons, digs_len]
  simp [ByteArray.size_extract]
theorem dv_last {T : ByteArray} (h : 0 < T.size) : dv T = dv (T.extract 0 (T.size - 1)) * 10 + (byteAt T (T.size - 1) - 48) := by
  have hl : T.size - 1 < (digs T).length := by rw [digs_len]; omega
  unfold dv
  rw [digs_extract, ← digs_get hl]
  have := dval_take hl
  rw [show T.size - 1 + 1 = (digs T).length by rw [digs_len]; omega, List.take_length] at this
  simpa using this

/-- No zero ahead. -/
structure Bar (U : ByteArray) : Prop where
  dg : Dg U
  b0 : byteAt U 0 ≠ 48
theorem Bar.ge {U : ByteArray} (h : Bar U) (h0 : 0 < U.size) : 10 ^ (U.size - 1) ≤ dv U := by
  have h1 := h.dg 0 h0
  have h2 := h.b0
  rw [dv_head h0]
  have h3 : 1 * 10 ^ (U.size - 1) ≤ (byteAt U 0 - 48) * 10 ^ (U.size - 1) := Nat.mul_le_mul_right _ (by omega)
  omega
theorem Bar.zero_iff {U : ByteArray} (h : Bar U) : dv U = 0 ↔ U.size = 0 := by
  constructor
  · intro e
    by_cases h0 : 0 < U.size
    · have := h.ge h0
      have := Nat.pow_pos (n := U.size - 1) (show 0 < 10 by decide)
      omega
    · omega
  · exact dv_zero
theorem Bar.size_le {A B : ByteArray} (h : Bar A) (k : Dg B) (hl : dv A ≤ dv B) : A.size ≤ B.size := by
  by_cases h0 : 0 < A.size
  · have h1 := h.ge h0
    have h2 := k.lt
    have h3 : 10 ^ (A.size - 1) < 10 ^ B.size := by omega
    have := (Nat.pow_lt_pow_iff_right (by decide : 1 < 10)).1 h3
    omega
  · omega
theorem Bar.lt_of_size {A B : ByteArray} (h : Bar B) (k : Dg A) (hl : A.size < B.size) : dv A < dv B := by
  by_cases hh : dv A < dv B
  · exact hh
  · have := h.size_le k (by omega)
    omega

theorem bare_spec : ∀ (n : Nat) (T : ByteArray), T.size ≤ n → Dg T → Bar (bare T) ∧ dv (bare T) = dv T
  | n, T, hn, h => by
    by_cases h0 : byteAt T 0 = 48
    · have hp := byteAt_pos h0 (by decide)
      obtain ⟨m, rfl⟩ : ∃ m, n = m + 1 := ⟨n - 1, by omega⟩
      rw [bare_step h0]
      obtain ⟨h1, h2⟩ := bare_spec m (T.extract 1 T.size) (by simp [ByteArray.size_extract]; omega) (h.extract _ _ (Nat.le_refl _))
      refine ⟨h1, ?_⟩
      rw [h2, dv_head hp, h0]
      simp
    · rw [bare_stop h0]
      exact ⟨⟨h, h0⟩, rfl⟩
theorem bare_bar {T : ByteArray} (h : Dg T) : Bar (bare T) := (bare_spec _ T (Nat.le_refl _) h).1
theorem bare_dv {T : ByteArray} (h : Dg T) : dv (bare T) = dv T := (bare_spec _ T (Nat.le_refl _) h).2

theorem trimN_spec : ∀ (k : Nat) (U : ByteArray) (x : Int), U.size ≤ k → Bar U → Bar (trimN k U x).1 ∧ (trimN k U x).1.size ≤ U.size ∧ (trimN k U x).2 = x + (U.size - (trimN k U x).1.size : Nat) ∧ dv U = dv (trimN k U x).1 * 10 ^ (U.size - (trimN k U x).1.size)
  | k, U, x, hk, h => by
    by_cases h0 : 0 < U.size ∧ byteAt U (U.size - 1) = 48
    · obtain ⟨m, rfl⟩ : ∃ m, k = m + 1 := ⟨k - 1, by omega⟩
      rw [trimN_step h0]
      have hs : (U.extract 0 (U.size - 1)).size = U.size - 1 := by simp [ByteArray.size_extract]
      have hb : Bar (U.extract 0 (U.size - 1)) := by
        refine ⟨h.dg.extract _ _ (by omega), ?_⟩
        by_cases h1 : 0 < U.size - 1
        · rw [byteAt_extract (by omega) (by omega)]; exact h.b0
        · unfold byteAt; rw [dif_neg (by omega)]; decide
      obtain ⟨h1, h2, h3, h4⟩ := trimN_spec m (U.extract 0 (U.size - 1)) (x + 1) (by omega) hb
      rw [hs] at h2 h3 h4
      generalize trimN m (U.extract 0 (U.size - 1)) (x + 1) = t at *
      refine ⟨h1, by omega, by omega, ?_⟩
      rw [dv_last h0.1, h0.2, h4, show U.size - t.1.size = (U.size - 1 - t.1.size) + 1 by omega, Nat.pow_succ, ← Nat.mul_assoc]
      rfl
    · rw [trimN_stop h0]
      simp [h]

/-- A decimal: sign, digits without zeros ahead, exponent; its value that of M times ten to the E. -/
structure DecOk (neg : Bool) (M : Nat) (E : Int) (r : Bool × ByteArray × Int) : Prop where
  bar : Bar r.2.1
  sz : r.2.1.size ≤ 40
  x : -200 ≤ r.2.2 ∧ r.2.2 ≤ 200
  same : SameNum M E (dv r.2.1) r.2.2
  sg : r.1 = (neg && M != 0)
  z : M = 0 ↔ r.2.1.size = 0

theorem leanV_ok {neg : Bool} {D : ByteArray} {x : Int} (h : Dg D) (hs : D.size ≤ 40) (hx : -150 ≤ x ∧ x ≤ 150) : DecOk neg (dv D) x (leanV neg D x) := by
  have hb := bare_bar h
  have hd := bare_dv h
  have hl := bare_size D
  obtain ⟨h1, h2, h3, h4⟩ := trimN_spec D.size (bare D) x hl hb
  unfold leanV
  generalize trimN D.size (bare D) x = t at *
  rw [hd] at h4
  by_cases h0 : t.1.size = 0
  · have hz : dv D = 0 := by rw [h4, dv_zero h0]; simp
    simp only [h0, if_true]
    refine ⟨⟨fun i hi => absurd hi (by simp [ByteArray.size]), by decide⟩, by decide, by decide, ?_, by rw [hz]; simp, by rw [hz]; decide⟩
    rw [hz, dv_zero (by rfl)]
    exact SameNum.zero _ _
  · simp only [h0, if_false]
    have hz : dv t.1 ≠ 0 := fun e => h0 (h1.zero_iff.1 e)
    have hz2 : dv D ≠ 0 := by
      rw [h4]
      exact Nat.mul_ne_zero hz (Nat.pos_iff_ne_zero.1 (Nat.pow_pos (by decide)))
    refine ⟨h1, by simpa using (by omega : t.1.size ≤ 40), by simp only; omega, ?_, by simp [hz2], ⟨fun e => absurd e hz2, fun e => absurd e h0⟩⟩
    rw [h4, h3]
    exact SameNum.shift _ _ _
end Go.Proofs.YtpmggjplfcjkkaaGreatDoor
