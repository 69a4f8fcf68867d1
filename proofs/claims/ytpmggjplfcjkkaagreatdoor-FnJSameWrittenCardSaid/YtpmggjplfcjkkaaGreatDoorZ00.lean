/- Plain numbers, without the program: lists of 64 bit words as natural numbers; two words divided by one; a step of the long division; the steps of Lehmer's way to a greatest common divisor. -/
import Derived.WalkKit
import Derived.WalkSpells
import Derived.WalkLawsBesides
import Derived.Lib.Hide
import Derived.Test.YtpmggjplfcjkkaaGreatDoorProg
import Derived.Deep.LoopGhost
import Derived.Deep.DeepCutAuto
import Derived.Deep.CutBlock
import Derived.Deep.RegionWith
import Derived.Handy
import Derived.BigQuiet
import Derived.BigCall
import Derived.BigGuard
import Derived.Lib.Strings
set_option linter.unusedVariables false
set_option linter.unusedSimpArgs false
/- Plain numbers: lists of 64 bit words as natural numbers, least word first. -/
namespace Nq

theorem Bw_ex : ∃ b : Nat, b = 18446744073709551616 := ⟨_, rfl⟩
/-- 2^64, behind a choice: neither the walk nor the kernel looks into it. -/
noncomputable def Bw : Nat := Classical.choose Bw_ex
theorem Bw_eq : Bw = 18446744073709551616 := Classical.choose_spec Bw_ex
theorem Bw_pos : 0 < Bw := by rw [Bw_eq]; omega

/-- The number that a list of words is. -/
noncomputable def vl : List Nat → Nat
  | [] => 0
  | x :: xs => x + Bw * vl xs

/-- All are words. -/
def Wd (l : List Nat) : Prop := ∀ x ∈ l, x < Bw

theorem Wd.nil : Wd [] := by intro x h; cases h
theorem Wd.cons {x : Nat} {l : List Nat} (hx : x < Bw) (h : Wd l) : Wd (x :: l) := by
  intro y hy; rcases List.mem_cons.1 hy with rfl | hy
  · exact hx
  · exact h _ hy
theorem Wd.head {x : Nat} {l : List Nat} (h : Wd (x :: l)) : x < Bw := h _ (by simp)
theorem Wd.tail {x : Nat} {l : List Nat} (h : Wd (x :: l)) : Wd l := fun y hy => h y (by simp [hy])
theorem Wd.append {a b : List Nat} (ha : Wd a) (hb : Wd b) : Wd (a ++ b) := by
  intro y hy; rcases List.mem_append.1 hy with h | h
  · exact ha _ h
  · exact hb _ h
theorem Wd.left {a b : List Nat} (h : Wd (a ++ b)) : Wd a := fun y hy => h y (by simp [hy])
theorem Wd.right {a b : List Nat} (h : Wd (a ++ b)) : Wd b := fun y hy => h y (by simp [hy])
theorem Wd.take {l : List Nat} (h : Wd l) (n : Nat) : Wd (l.take n) := fun y hy => h y (List.mem_of_mem_take hy)
theorem Wd.drop {l : List Nat} (h : Wd l) (n : Nat) : Wd (l.drop n) := fun y hy => h y (List.mem_of_mem_drop hy)
theorem Wd.get {l : List Nat} (h : Wd l) (i : Nat) (hi : i < l.length) : l[i] < Bw := h _ (List.getElem_mem hi)
theorem Wd.getD {l : List Nat} (h : Wd l) (i : Nat) : l.getD i 0 < Bw := by
  by_cases hi : i < l.length
  · rw [List.getD_eq_getElem?_getD, List.getElem?_eq_getElem hi]; exact h.get i hi
  · rw [List.getD_eq_getElem?_getD, List.getElem?_eq_none (by omega)]; exact Bw_pos
theorem Wd.set {l : List Nat} (h : Wd l) (i : Nat) {x : Nat} (hx : x < Bw) : Wd (l.set i x) := by
  intro y hy
  rcases List.mem_or_eq_of_mem_set hy with h1 | h1
  · exact h _ h1
  · omega
theorem Wd.replicate (n : Nat) : Wd (List.replicate n 0) := by
  intro y hy; rw [List.eq_of_mem_replicate hy]; exact Bw_pos

@[simp] theorem vl_nil : vl [] = 0 := rfl
theorem vl_cons (x : Nat) (xs : List Nat) : vl (x :: xs) = x + Bw * vl xs := rfl

theorem vl_append (a b : List Nat) : vl (a ++ b) = vl a + Bw ^ a.length * vl b := by
  induction a with
  | nil => simp
  | cons x xs ih =>
    simp only [List.cons_append, vl_cons, ih, List.length_cons, Nat.pow_succ]
    generalize Bw ^ xs.length = p
    generalize Bw = B
    grind

theorem vl_snoc (a : List Nat) (x : Nat) : vl (a ++ [x]) = vl a + Bw ^ a.length * x := by
  rw [vl_append]; simp [vl_cons]

theorem vl_replicate (n : Nat) : vl (List.replicate n 0) = 0 := by
  induction n with
  | zero => rfl
  | succ n ih => simp [List.replicate_succ, vl_cons, ih]

theorem vl_lt {l : List Nat} (h : Wd l) : vl l < Bw ^ l.length := by
  induction l with
  | nil => simp
  | cons x xs ih =>
    have h1 := ih h.tail
    have h2 := h.head
    rw [vl_cons, List.length_cons, Nat.pow_succ]
    have h3 : Bw * (vl xs + 1) ≤ Bw * Bw ^ xs.length := Nat.mul_le_mul_left _ h1
    rw [Nat.mul_comm (Bw ^ xs.length), Nat.mul_add] at *
    omega

theorem take_succ_eq {l : List Nat} {i : Nat} (h : i < l.length) : l.take (i + 1) = l.take i ++ [l.getD i 0] := by
  rw [List.take_succ_eq_append_getElem h, List.getD_eq_getElem?_getD, List.getElem?_eq_getElem h]; rfl

theorem vl_take_succ {l : List Nat} {i : Nat} (h : i < l.length) : vl (l.take (i + 1)) = vl (l.take i) + Bw ^ i * l.getD i 0 := by
  rw [take_succ_eq h, vl_snoc, List.length_take, Nat.min_eq_left (by omega)]

theorem vl_split (l : List Nat) (i : Nat) (h : i ≤ l.length) : vl l = vl (l.take i) + Bw ^ i * vl (l.drop i) := by
  conv => lhs; rw [← List.take_append_drop i l]
  rw [vl_append, List.length_take, Nat.min_eq_left h]

theorem drop_eq_cons {l : List Nat} {i : Nat} (h : i < l.length) : l.drop i = l.getD i 0 :: l.drop (i + 1) := by
  rw [List.drop_eq_getElem_cons h, List.getD_eq_getElem?_getD, List.getElem?_eq_getElem h]; rfl

/-- Its last word is not 0. -/
def Nz (l : List Nat) : Prop := ∀ h : l ≠ [], l.getLast h ≠ 0

theorem Nz.nil : Nz [] := fun h => absurd rfl h
theorem Nz_snoc (a : List Nat) (x : Nat) : Nz (a ++ [x]) ↔ x ≠ 0 := by
  unfold Nz
  constructor
  · intro h; simpa using h (by simp)
  · intro h _; simpa using h

theorem pow_pos' (n : Nat) : 0 < Bw ^ n := Nat.pow_pos Bw_pos

/-- A number without a 0 at its end is at least as great as its length says. -/
theorem vl_ge {l : List Nat} (h : Nz l) (hl : l ≠ []) : Bw ^ (l.length - 1) ≤ vl l := by
  obtain ⟨a, x, rfl⟩ : ∃ a x, l = a ++ [x] := ⟨l.dropLast, l.getLast hl, (List.dropLast_concat_getLast hl).symm⟩
  have hx := (Nz_snoc a x).1 h
  rw [vl_snoc]
  simp only [List.length_append, List.length_cons, List.length_nil, Nat.zero_add, Nat.add_sub_cancel]
  have : Bw ^ a.length * 1 ≤ Bw ^ a.length * x := Nat.mul_le_mul_left _ (by omega)
  omega

theorem vl_pos {l : List Nat} (h : Nz l) (hl : l ≠ []) : 0 < vl l := Nat.lt_of_lt_of_le (pow_pos' _) (vl_ge h hl)

theorem vl_eq_zero {l : List Nat} (h : Nz l) : vl l = 0 ↔ l = [] := by
  constructor
  · intro h0
    by_cases hl : l = []
    · exact hl
    · have := vl_pos h hl; omega
  · rintro rfl; rfl

theorem pow_mono {m n : Nat} (h : m ≤ n) : Bw ^ m ≤ Bw ^ n := Nat.pow_le_pow_right Bw_pos h

/-- Lengths tell what is smaller. -/
theorem vl_lt_of_length {a b : List Nat} (wa : Wd a) (hb : Nz b) (h : a.length < b.length) : vl a < vl b := by
  have h1 := vl_lt wa
  have hbne : b ≠ [] := by rintro rfl; simp at h
  have h2 := vl_ge hb hbne
  have h3 : Bw ^ a.length ≤ Bw ^ (b.length - 1) := pow_mono (by omega)
  omega

theorem length_le_of_vl {a b : List Nat} (hb : Nz b) (wa : Wd a) (h : vl b ≤ vl a) : b.length ≤ a.length := by
  apply Nat.le_of_not_lt; intro hlt
  have := vl_lt_of_length wa hb hlt
  omega

theorem length_le_of_lt_pow {l : List Nat} (h : Nz l) {n : Nat} (hl : vl l < Bw ^ n) : l.length ≤ n := by
  apply Nat.le_of_not_lt; intro hlt
  have hne : l ≠ [] := by rintro rfl; simp at hlt
  have h2 := vl_ge h hne
  have h3 : Bw ^ n ≤ Bw ^ (l.length - 1) := pow_mono (by omega)
  omega

/-- A number's words are just one list. -/
theorem vl_inj_len {a b : List Nat} (wa : Wd a) (wb : Wd b) (hl : a.length = b.length) (h : vl a = vl b) : a = b := by
  induction a generalizing b with
  | nil => cases b with
    | nil => rfl
    | cons => simp at hl
  | cons x xs ih =>
    cases b with
    | nil => simp at hl
    | cons y ys =>
      simp only [vl_cons] at h
      have hx := wa.head
      have hy := wb.head
      have e1 : x = y := by
        have a1 : (x + Bw * vl xs) % Bw = x := by rw [Nat.add_mul_mod_self_left, Nat.mod_eq_of_lt hx]
        have a2 : (y + Bw * vl ys) % Bw = y := by rw [Nat.add_mul_mod_self_left, Nat.mod_eq_of_lt hy]
        rw [← a1, ← a2, h]
      subst e1
      have e2 : vl xs = vl ys := Nat.eq_of_mul_eq_mul_left Bw_pos (by omega)
      rw [ih wa.tail wb.tail (by simpa using hl) e2]

/-- The words without the 0 at the end. -/
def nrm (l : List Nat) : List Nat := (l.reverse.dropWhile (· == 0)).reverse

theorem nrm_nil : nrm [] = [] := rfl
theorem nrm_snoc_zero (a : List Nat) : nrm (a ++ [0]) = nrm a := by simp [nrm]
theorem nrm_snoc (a : List Nat) {x : Nat} (h : x ≠ 0) : nrm (a ++ [x]) = a ++ [x] := by simp [nrm, h]

theorem snoc_induction {motive : List Nat → Prop} (nil : motive []) (snoc : ∀ a x, motive a → motive (a ++ [x])) (l : List Nat) : motive l := by
  have : ∀ n (l : List Nat), l.length = n → motive l := by
    intro n
    induction n with
    | zero => intro l h; rw [List.length_eq_zero_iff.1 h]; exact nil
    | succ n ih =>
      intro l h
      have hne : l ≠ [] := by rintro rfl; simp at h
      rw [← List.dropLast_concat_getLast hne]
      exact snoc _ _ (ih _ (by simp [h]))
  exact this _ l rfl

theorem nrm_spec (l : List Nat) : Nz (nrm l) ∧ vl (nrm l) = vl l ∧ nrm l = l.take (nrm l).length ∧ (nrm l).length ≤ l.length := by
  induction l using snoc_induction with
  | nil => exact ⟨Nz.nil, rfl, rfl, Nat.le_refl _⟩
  | snoc a x ih =>
    by_cases hx : x = 0
    · subst hx
      rw [nrm_snoc_zero]
      refine ⟨ih.1, by rw [ih.2.1, vl_snoc]; simp, ?_, by simp; omega⟩
      rw [List.take_append_of_le_length ih.2.2.2]; exact ih.2.2.1
    · rw [nrm_snoc a hx]
      exact ⟨(Nz_snoc a x).2 hx, rfl, (List.take_length).symm, Nat.le_refl _⟩

theorem nrm_Wd {l : List Nat} (h : Wd l) : Wd (nrm l) := by rw [(nrm_spec l).2.2.1]; exact h.take _

end Nq

/- Plain numbers: two words by one word: the division by halves (Div64), and the one by a reciprocal (divWW). -/
namespace Nq

/-- One half step of a division by halves: how the guess is mended. T: 2^32; y = y1 * T + y0, y1 ≥ T/2; the number n = u * T + u1 is divided. -/
theorem half_guess {T u u1 y y1 y0 q r : Nat} (hy : y = y1 * T + y0) (hy0 : y0 < T) (hu1 : u1 < T) (hinv : q * y1 + r = u) (h : r < T → q * y0 ≤ T * r + u1) (hq : q ≤ T) : q * y ≤ u * T + u1 := by
  subst hy hinv
  by_cases hr : r < T
  · have := h hr; grind
  · have h1 : T * T ≤ T * r := Nat.mul_le_mul_left _ (by omega)
    have h2 : q * y0 ≤ T * y0 := Nat.mul_le_mul_right _ hq
    have h3 : T * y0 ≤ T * T := Nat.mul_le_mul_left _ (by omega)
    grind

theorem half_down {T u u1 y y1 y0 q r : Nat} (hy : y = y1 * T + y0) (hinv : q * y1 + r = u) (h : T * r + u1 < q * y0) : u * T + u1 < q * y := by
  subst hy hinv
  grind

/-- A quotient is known by its bounds. -/
theorem quo_of {n y q r : Nat} (h : n = q * y + r) (hr : r < y) : n / y = q ∧ n % y = r := by
  subst h
  refine ⟨?_, ?_⟩
  · rw [Nat.mul_comm, Nat.mul_add_div (by omega), Nat.div_eq_of_lt hr]; rfl
  · rw [Nat.mul_comm, Nat.mul_add_mod, Nat.mod_eq_of_lt hr]

theorem quo_le {n y q : Nat} (hy : 0 < y) (h : n < (q + 1) * y) : n / y ≤ q := by
  have := (Nat.div_lt_iff_lt_mul hy).2 h
  omega

theorem le_quo {n y q : Nat} (hy : 0 < y) (h : q * y ≤ n) : q ≤ n / y := (Nat.le_div_iff_mul_le hy).2 h

/-- The first guess is not too small. -/
theorem guess_ge {T u u1 y y1 y0 : Nat} (hy : y = y1 * T + y0) (hy1 : 0 < y1) (hu1 : u1 < T) : (u * T + u1) / y ≤ u / y1 := by
  have hT : 0 < T := by omega
  have hypos : 0 < y := by subst hy; have := Nat.mul_pos hy1 hT; omega
  apply quo_le hypos
  have h1 := Nat.div_add_mod u y1
  have h2 := Nat.mod_lt u hy1
  generalize u / y1 = q at *
  generalize u % y1 = r at *
  have h3 : u + 1 ≤ (q + 1) * y1 := by grind
  have h4 : (u + 1) * T ≤ ((q + 1) * y1) * T := Nat.mul_le_mul_right _ h3
  subst hy
  grind

/-! ### The reciprocal -/

/-- What the reciprocal of a normalized word is. -/
theorem rec_bounds {B d m : Nat} (hd : 0 < d) (hm : m + B = (B * B - 1) / d) : (m + B) * d ≤ B * B - 1 ∧ B * B - 1 < (m + B + 1) * d := by
  have h1 := Nat.div_add_mod (B * B - 1) d
  have h2 := Nat.mod_lt (B * B - 1) hd
  rw [← hm] at h1
  refine ⟨by grind, by grind⟩

/-- The guess t of divWW, whether it fits, and what is left. -/
theorem recip_guess {B d m x1 x0 t : Nat} (hB : 0 < B) (hd : d < B) (hx1 : x1 < d) (hx0 : x0 < B) (hm1 : (m + B) * d ≤ B * B - 1) (hm2 : B * B - 1 < (m + B + 1) * d)
    (ht1 : t * B ≤ x1 * (m + B) + x0) (ht2 : x1 * (m + B) + x0 < (t + 1) * B) : d * t ≤ x1 * B + x0 ∧ x1 * B + x0 < d * t + B + d := by
  have hBB : 1 ≤ B * B := Nat.mul_pos hB hB
  refine ⟨?_, ?_⟩
  · -- B*d*t ≤ d*x1*(m+B) + d*x0 ≤ x1*(B*B-1) + d*x0 ≤ B*(x1*B+x0)
    refine Nat.le_of_mul_le_mul_left (c := B) ?_ hB
    have a1 : d * (t * B) ≤ d * (x1 * (m + B) + x0) := Nat.mul_le_mul_left _ ht1
    have a2 : x1 * ((m + B) * d) ≤ x1 * (B * B - 1) := Nat.mul_le_mul_left _ hm1
    have a3 : x1 * (B * B - 1) ≤ x1 * (B * B) := Nat.mul_le_mul_left _ (by omega)
    have a4 : d * x0 ≤ B * x0 := Nat.mul_le_mul_right _ (by omega)
    have e1 : B * (d * t) = d * (t * B) := by grind
    have e2 : d * (x1 * (m + B) + x0) = x1 * ((m + B) * d) + d * x0 := by grind
    have e3 : B * (x1 * B + x0) = x1 * (B * B) + B * x0 := by grind
    omega
  · apply Nat.lt_of_mul_lt_mul_left (a := B)
    have a1 : d * (x1 * (m + B) + x0 + 1) ≤ d * ((t + 1) * B) := Nat.mul_le_mul_left _ ht2
    have a2 : x1 * (B * B) ≤ x1 * ((m + B + 1) * d) := Nat.mul_le_mul_left _ (by omega)
    have a3 : x1 * d ≤ (d - 1) * d := Nat.mul_le_mul_right _ (by omega)
    have a4 : (B - d) * x0 ≤ (B - d) * (B - 1) := Nat.mul_le_mul_left _ (by omega)
    obtain ⟨k, rfl⟩ : ∃ k, B = d + k := ⟨B - d, by omega⟩
    obtain ⟨d', rfl⟩ : ∃ d', d = d' + 1 := ⟨d - 1, by omega⟩
    rw [show d' + 1 + k - (d' + 1) = k from by omega, show d' + 1 + k - 1 = d' + k from by omega] at a4
    rw [show d' + 1 - 1 = d' from by omega] at a3
    grind

/-- divWW: behind the two mendings the quotient and the rest are right. -/
theorem recip_mend {B d n t : Nat} (hd : B ≤ 2 * d) (hdB : d < B) (h1 : d * t ≤ n) (h2 : n < d * t + B + d) :
    ∀ q r, (q, r) = (if n - d * t < d then (t, n - d * t) else if n - d * t < 2 * d then (t + 1, n - d * t - d) else (t + 2, n - d * t - 2 * d)) → n / d = q ∧ n % d = r := by
  intro q r h
  have e : n = d * t + (n - d * t) := by omega
  generalize n - d * t = s at *
  split at h
  · simp only [Prod.mk.injEq] at h; obtain ⟨rfl, rfl⟩ := h
    exact quo_of (by rw [e]; grind) (by omega)
  · split at h
    · simp only [Prod.mk.injEq] at h; obtain ⟨rfl, rfl⟩ := h
      exact quo_of (by rw [e]; grind) (by omega)
    · simp only [Prod.mk.injEq] at h; obtain ⟨rfl, rfl⟩ := h
      exact quo_of (by rw [e]; grind) (by omega)

end Nq

/- Plain numbers: one step of the long division: the guess of a word of the quotient. -/
namespace Nq

/-- The guess is too great where the test of two words says so. -/
theorem kn_down {P U3 V2 U1 V1 q : Nat} (hU : U1 < P) (h : U3 < q * V2) : U3 * P + U1 < q * (V2 * P + V1) := by
  have h1 : (U3 + 1) * P ≤ (q * V2) * P := Nat.mul_le_mul_right _ h
  have h2 : 0 ≤ q * V1 := Nat.zero_le _
  grind

/-- A guess that the test of two words lets by is too great by one at most. -/
theorem kn_ok {B P U3 V2 U1 V1 q : Nat} (hV : V1 < P) (hq : q ≤ B) (hB : B ≤ V2) (h : q * V2 ≤ U3) : q * (V2 * P + V1) ≤ (U3 * P + U1) + (V2 * P + V1) := by
  have h1 : (q * V2) * P ≤ U3 * P := Nat.mul_le_mul_right _ h
  have h2 : q * V1 ≤ q * P := Nat.mul_le_mul_left _ (by omega)
  have h3 : q * P ≤ B * P := Nat.mul_le_mul_right _ hq
  have h4 : B * P ≤ V2 * P := Nat.mul_le_mul_right _ hB
  grind

/-- The first guess is not too small. -/
theorem kn_first {B P u v1 v2 u2 U1 V1 : Nat} (hv1 : 0 < v1) (hu2 : u2 < B) (hU : U1 < P) : (u * B + u2) * P + U1 < (u / v1 + 1) * ((v1 * B + v2) * P + V1) := by
  have h1 := Nat.div_add_mod u v1
  have h2 := Nat.mod_lt u hv1
  generalize u / v1 = q at *
  generalize u % v1 = r at *
  have h3 : u + 1 ≤ (q + 1) * v1 := by grind
  have h4 : (u + 1) * (B * P) ≤ ((q + 1) * v1) * (B * P) := Nat.mul_le_mul_right _ h3
  have h5 : (u2 + 1) * P ≤ B * P := Nat.mul_le_mul_right _ hu2
  have h6 : 0 ≤ (q + 1) * (v2 * P + V1) := Nat.zero_le _
  grind

/-- The test, as the program has it. -/
theorem kn_test {B u v1 v2 u2 q r : Nat} (hinv : q * v1 + r = u) : u * B + u2 < q * (v1 * B + v2) ↔ r * B + u2 < q * v2 := by
  subst hinv
  have e1 : (q * v1 + r) * B = q * v1 * B + r * B := by grind
  have e2 : q * (v1 * B + v2) = q * v1 * B + q * v2 := by grind
  rw [e1, e2]
  omega

/-- Where the rest is a word or more the guess stands. -/
theorem kn_break {B u v1 v2 u2 q r : Nat} (hinv : q * v1 + r = u) (hq : q ≤ B) (hv2 : v2 < B) (hr : B ≤ r) : q * (v1 * B + v2) ≤ u * B + u2 := by
  apply Nat.le_of_not_lt
  rw [kn_test hinv]
  have h1 : q * v2 ≤ B * v2 := Nat.mul_le_mul_right _ hq
  have h2 : B * v2 ≤ B * B := Nat.mul_le_mul_left _ (by omega)
  have h3 : B * B ≤ r * B := Nat.mul_le_mul_right _ hr
  omega

/-- The greatest guess, where the first words are the same. -/
theorem kn_eq {B P u1 u2 v1 v2 U1 V1 : Nat} (hv2 : v2 < B) (hV : V1 < P) (hv1 : B ≤ 2 * v1) :
    (B - 1) * ((v1 * B + v2) * P + V1) ≤ (((v1 * B + u1) * B + u2) * P + U1) + ((v1 * B + v2) * P + V1) := by
  obtain ⟨b, hb⟩ : ∃ b, B = b + 1 := ⟨B - 1, by omega⟩
  have h1 : V1 + 1 ≤ P := hV
  have h2 : (v2 + 1) * P ≤ B * P := Nat.mul_le_mul_right _ hv2
  have h3 : (v1 * B + v2) * P + V1 + 1 ≤ (v1 + 1) * (B * P) := by grind
  have h4 : B * ((v1 * B + v2) * P + V1) ≤ B * ((v1 + 1) * (B * P)) := Nat.mul_le_mul_left _ (by omega)
  have h5 : B * (B * P) ≤ 2 * v1 * (B * P) := Nat.mul_le_mul_right _ hv1
  have e : (B - 1) * ((v1 * B + v2) * P + V1) + ((v1 * B + v2) * P + V1) = B * ((v1 * B + v2) * P + V1) := by
    rw [hb]; simp only [Nat.add_sub_cancel]; grind
  have h6 : 0 ≤ (u1 * B + u2) * P := Nat.zero_le _
  grind

/-- A guess between the quotient and one more: what is left behind the taking away, and the giving back. -/
theorem kn_done {U V q : Nat} (h1 : U < (q + 1) * V) (h2 : q * V ≤ U + V) : (q * V ≤ U → U / V = q ∧ U % V = U - q * V) ∧ (U < q * V → U / V = q - 1 ∧ U % V = U + V - q * V) := by
  have hV : 0 < V := by
    rcases Nat.eq_zero_or_pos V with h | h
    · subst h; omega
    · exact h
  refine ⟨fun h => ?_, fun h => ?_⟩
  · exact quo_of (by omega) (by grind)
  · have hq : 0 < q := by
      rcases Nat.eq_zero_or_pos q with h' | h'
      · subst h'; omega
      · exact h'
    obtain ⟨p, rfl⟩ : ∃ p, q = p + 1 := ⟨q - 1, by omega⟩
    refine quo_of (q := p + 1 - 1) ?_ (by omega)
    simp only [Nat.add_sub_cancel]
    grind
end Nq

/- Plain numbers: the steps of Lehmer's way to a greatest common divisor. -/
namespace Nq

/-- What the simulation of steps knows: a, b the leading words; the last pair (u1, v1, a1), the next one (u2, v2, a2); even: the sign. -/
structure Sim (a b a1 a2 u1 u2 v1 v2 : Nat) (even : Bool) : Prop where
  le : a2 ≤ a1
  i1 : v2 * a1 + v1 * a2 = a
  i2 : u2 * a1 + u1 * a2 = b
  uv : u2 ≤ v2
  uuvv : u1 + u2 ≤ v1 + v2
  one : 1 ≤ v2
  odd1 : even = false → a1 + v1 * b = u1 * a
  odd2 : even = false → a2 + u2 * a = v2 * b
  oddd : even = false → u1 * v2 = u2 * v1 + 1
  ev1 : even = true → a1 + u1 * a = v1 * b
  ev2 : even = true → a2 + v2 * b = u2 * a
  evd : even = true → u2 * v1 = u1 * v2 + 1

theorem Sim.start {a b : Nat} (h : b ≤ a) : Sim a b a b 1 0 0 1 false :=
  ⟨h, by omega, by omega, by omega, by omega, by omega, by intro _; omega, by intro _; omega, by intro _; omega, by simp, by simp, by simp⟩

/-- The test, and that its sum is a word. -/
theorem Sim.words {a b a1 a2 u1 u2 v1 v2 : Nat} {even : Bool} (h : Sim a b a1 a2 u1 u2 v1 v2 even) (h2 : v2 ≤ a2) : v1 + v2 ≤ a ∧ v2 ≤ a ∧ a2 ≤ a ∧ a1 ≤ a := by
  have h1 := h.one
  have hle := h.le
  have hi := h.i1
  have e1 : v2 * 1 ≤ v2 * a1 := Nat.mul_le_mul_left _ (by omega)
  have e2 : v1 * 1 ≤ v1 * a2 := Nat.mul_le_mul_left _ (by omega)
  have e3 : 1 * a1 ≤ v2 * a1 := Nat.mul_le_mul_right _ h1
  omega

theorem Sim.step {a b a1 a2 u1 u2 v1 v2 : Nat} {even : Bool} (h : Sim a b a1 a2 u1 u2 v1 v2 even) (h2 : v2 ≤ a2) :
    Sim a b a2 (a1 % a2) u2 (u1 + a1 / a2 * u2) v2 (v1 + a1 / a2 * v2) (!even) ∧ v1 + a1 / a2 * v2 ≤ a ∧ u1 + a1 / a2 * u2 ≤ b := by
  obtain ⟨le, i1, i2, uv, uuvv, one, odd1, odd2, oddd, ev1, ev2, evd⟩ := h
  have ha2 : 0 < a2 := by omega
  have hd := Nat.div_add_mod a1 a2
  have hm := Nat.mod_lt a1 ha2
  have hq : 1 ≤ a1 / a2 := le_quo ha2 (by omega)
  generalize a1 / a2 = q at *
  generalize a1 % a2 = r at *
  have hqu : q * u2 ≤ q * v2 := Nat.mul_le_mul_left _ uv
  have hqv : 1 * v2 ≤ q * v2 := Nat.mul_le_mul_right _ hq
  subst hd
  have j1 : (v1 + q * v2) * a2 + v2 * r = a := by grind
  have j2 : (u1 + q * u2) * a2 + u2 * r = b := by grind
  have m1 : (v1 + q * v2) * 1 ≤ (v1 + q * v2) * a2 := Nat.mul_le_mul_left _ ha2
  have m2 : (u1 + q * u2) * 1 ≤ (u1 + q * u2) * a2 := Nat.mul_le_mul_left _ ha2
  have hsum : u1 + q * u2 ≤ v1 + q * v2 := by
    obtain ⟨q', rfl⟩ : ∃ q', q = q' + 1 := ⟨q - 1, by omega⟩
    have : q' * u2 ≤ q' * v2 := Nat.mul_le_mul_left _ uv
    grind
  refine ⟨⟨by omega, j1, j2, hsum, by omega, by omega, ?_, ?_, ?_, ?_, ?_, ?_⟩, by omega, by omega⟩
  · intro he
    have he' : even = true := by cases even <;> simp_all
    have := ev2 he'; have := ev1 he'
    grind
  · intro he
    have he' : even = true := by cases even <;> simp_all
    have := ev2 he'; have := ev1 he'
    grind
  · intro he
    have he' : even = true := by cases even <;> simp_all
    have := evd he'
    grind
  · intro he
    have he' : even = false := by cases even <;> simp_all
    have := odd2 he'
    grind
  · intro he
    have he' : even = false := by cases even <;> simp_all
    have := odd2 he'; have := odd1 he'
    grind
  · intro he
    have he' : even = false := by cases even <;> simp_all
    have := oddd he'
    grind

/-- What the four factors do with the two numbers. -/
structure Fac (A B u0 u1 v0 v1 : Nat) (even : Bool) : Prop where
  ev0 : even = true → v0 * B ≤ u0 * A
  ev1 : even = true → u1 * A ≤ v1 * B
  evl : even = true → v1 * B - u1 * A ≤ u0 * A - v0 * B
  evd : even = true → u0 * v1 = u1 * v0 + 1
  od0 : even = false → u0 * A ≤ v0 * B
  od1 : even = false → v1 * B ≤ u1 * A
  odl : even = false → u1 * A - v1 * B ≤ v0 * B - u0 * A
  odd : even = false → u1 * v0 = u0 * v1 + 1

/-- Where the test lets a step be taken, the factors that come next are right for the whole numbers. -/
theorem Sim.fac {a b a1 a2 u1 u2 v1 v2 : Nat} {even : Bool} (h : Sim a b a1 a2 u1 u2 v1 v2 even) (h2 : v2 ≤ a2) (h3 : v1 + v2 ≤ a1 - a2)
    {S x y A B : Nat} (hA : A = a * S + x) (hB : B = b * S + y) (hx : x < S) (hy : y < S) : Fac A B u1 u2 v1 v2 (!even) := by
  obtain ⟨le, i1, i2, uv, uuvv, one, odd1, odd2, oddd, ev1, ev2, evd⟩ := h
  have k1 : u2 * x ≤ v2 * S := Nat.le_trans (Nat.mul_le_mul_left _ (Nat.le_of_lt hx)) (Nat.mul_le_mul_right _ uv)
  have k2 : v2 * y ≤ v2 * S := Nat.mul_le_mul_left _ (Nat.le_of_lt hy)
  have k3 : v2 * S ≤ a2 * S := Nat.mul_le_mul_right _ h2
  have k4 : (v1 + v2) * S ≤ (a1 - a2) * S := Nat.mul_le_mul_right _ h3
  have k5 : (v1 + v2) * y ≤ (v1 + v2) * S := Nat.mul_le_mul_left _ (Nat.le_of_lt hy)
  have k6 : (u1 + u2) * x ≤ (v1 + v2) * S := Nat.le_trans (Nat.mul_le_mul_left _ (Nat.le_of_lt hx)) (Nat.mul_le_mul_right _ uuvv)
  obtain ⟨t, ht⟩ : ∃ t, a1 = a2 + t := ⟨a1 - a2, by omega⟩
  rw [ht, Nat.add_sub_cancel_left] at k4
  cases even with
  | false =>
    have e1 := odd1 rfl
    have e2 := odd2 rfl
    have e3 := oddd rfl
    have x2 : u2 * A + a2 * S + v2 * y = v2 * B + u2 * x := by subst hA hB; grind
    have x1 : v1 * B + a1 * S + u1 * x = u1 * A + v1 * y := by subst hA hB; grind
    have p1 : u2 * A ≤ v2 * B := by omega
    have p2 : v1 * B + (v2 * B - u2 * A) ≤ u1 * A := by
      have : v1 * B + v2 * B ≤ u1 * A + u2 * A := by subst ht; grind
      omega
    refine ⟨fun _ => by omega, fun _ => p1, fun _ => by omega, fun _ => by grind, by simp, by simp, by simp, by simp⟩
  | true =>
    have e1 := ev1 rfl
    have e2 := ev2 rfl
    have e3 := evd rfl
    have x2 : v2 * B + a2 * S + u2 * x = u2 * A + v2 * y := by subst hA hB; grind
    have x1 : u1 * A + a1 * S + v1 * y = v1 * B + u1 * x := by subst hA hB; grind
    have p1 : v2 * B ≤ u2 * A := by omega
    have p2 : u1 * A + (u2 * A - v2 * B) ≤ v1 * B := by
      have : u1 * A + u2 * A ≤ v1 * B + v2 * B := by subst ht; grind
      omega
    refine ⟨by simp, by simp, by simp, by simp, fun _ => by omega, fun _ => p1, fun _ => by omega, fun _ => by grind⟩

/-- The two new numbers. -/
def newA (A B u0 v0 : Nat) (even : Bool) : Nat := if even then u0 * A - v0 * B else v0 * B - u0 * A
def newB (A B u1 v1 : Nat) (even : Bool) : Nat := if even then v1 * B - u1 * A else u1 * A - v1 * B

theorem Fac.back {A B u0 u1 v0 v1 : Nat} {even : Bool} (h : Fac A B u0 u1 v0 v1 even) :
    A = v1 * newA A B u0 v0 even + v0 * newB A B u1 v1 even ∧ B = u1 * newA A B u0 v0 even + u0 * newB A B u1 v1 even ∧ newB A B u1 v1 even ≤ newA A B u0 v0 even := by
  cases even with
  | true =>
    have h0 := h.ev0 rfl
    have h1 := h.ev1 rfl
    have hl := h.evl rfl
    have hd := h.evd rfl
    simp only [newA, newB, if_true]
    obtain ⟨p, hp⟩ : ∃ p, u0 * A = v0 * B + p := ⟨u0 * A - v0 * B, by omega⟩
    obtain ⟨q, hq⟩ : ∃ q, v1 * B = u1 * A + q := ⟨v1 * B - u1 * A, by omega⟩
    simp only [hp, hq, Nat.add_sub_cancel_left] at hl ⊢
    refine ⟨?_, ?_, hl⟩
    · have : (u0 * v1) * A = (u1 * v0 + 1) * A := by rw [hd]
      grind
    · have : (u0 * v1) * B = (u1 * v0 + 1) * B := by rw [hd]
      grind
  | false =>
    have h0 := h.od0 rfl
    have h1 := h.od1 rfl
    have hl := h.odl rfl
    have hd := h.odd rfl
    simp only [newA, newB, Bool.false_eq_true, if_false]
    obtain ⟨p, hp⟩ : ∃ p, v0 * B = u0 * A + p := ⟨v0 * B - u0 * A, by omega⟩
    obtain ⟨q, hq⟩ : ∃ q, u1 * A = v1 * B + q := ⟨u1 * A - v1 * B, by omega⟩
    simp only [hp, hq, Nat.add_sub_cancel_left] at hl ⊢
    refine ⟨?_, ?_, hl⟩
    · have : (u1 * v0) * A = (u0 * v1 + 1) * A := by rw [hd]
      grind
    · have : (u1 * v0) * B = (u0 * v1 + 1) * B := by rw [hd]
      grind

theorem gcd_eq_of_dvd {a b c d : Nat} (h : ∀ k, (k ∣ a ∧ k ∣ b) ↔ (k ∣ c ∧ k ∣ d)) : Nat.gcd a b = Nat.gcd c d := by
  apply Nat.dvd_antisymm
  · have := (h (Nat.gcd a b)).1 ⟨Nat.gcd_dvd_left _ _, Nat.gcd_dvd_right _ _⟩
    exact Nat.dvd_gcd this.1 this.2
  · have := (h (Nat.gcd c d)).2 ⟨Nat.gcd_dvd_left _ _, Nat.gcd_dvd_right _ _⟩
    exact Nat.dvd_gcd this.1 this.2

theorem Fac.gcd {A B u0 u1 v0 v1 : Nat} {even : Bool} (h : Fac A B u0 u1 v0 v1 even) : Nat.gcd (newA A B u0 v0 even) (newB A B u1 v1 even) = Nat.gcd A B := by
  obtain ⟨b1, b2, _⟩ := h.back
  apply gcd_eq_of_dvd
  intro k
  constructor
  · rintro ⟨h1, h2⟩
    generalize newA A B u0 v0 even = p at *
    generalize newB A B u1 v1 even = q at *
    refine ⟨?_, ?_⟩
    · rw [b1]; exact Nat.dvd_add (Nat.dvd_mul_left_of_dvd h1 _) (Nat.dvd_mul_left_of_dvd h2 _)
    · rw [b2]; exact Nat.dvd_add (Nat.dvd_mul_left_of_dvd h1 _) (Nat.dvd_mul_left_of_dvd h2 _)
  · rintro ⟨h1, h2⟩
    unfold newA newB
    cases even <;> simp only [Bool.false_eq_true, if_false, if_true] <;>
      exact ⟨Nat.dvd_sub (Nat.dvd_mul_left_of_dvd ‹_› _) (Nat.dvd_mul_left_of_dvd ‹_› _), Nat.dvd_sub (Nat.dvd_mul_left_of_dvd ‹_› _) (Nat.dvd_mul_left_of_dvd ‹_› _)⟩

/-- The numbers become smaller. -/
theorem Fac.less {A B u0 u1 v0 v1 : Nat} {even : Bool} (h : Fac A B u0 u1 v0 v1 even) (h0 : 1 ≤ v0) (h1 : 1 ≤ v1) : newA A B u0 v0 even + newB A B u1 v1 even ≤ A := by
  obtain ⟨b1, _, _⟩ := h.back
  generalize newA A B u0 v0 even = p at *
  generalize newB A B u1 v1 even = q at *
  have e1 : 1 * p ≤ v1 * p := Nat.mul_le_mul_right _ h1
  have e2 : 1 * q ≤ v0 * q := Nat.mul_le_mul_right _ h0
  omega

/-- What the simulation keeps: the factors that it would hand back are none, or right. -/
def Sim.Out (A B u0 u1 v0 v1 : Nat) (even : Bool) : Prop := v0 = 0 ∨ (Fac A B u0 u1 v0 v1 even ∧ 1 ≤ v1)

theorem Sim.out_step {a b a1 a2 u1 u2 v1 v2 : Nat} {even : Bool} (h : Sim a b a1 a2 u1 u2 v1 v2 even) (h2 : v2 ≤ a2) (h3 : v1 + v2 ≤ a1 - a2)
    {S x y A B : Nat} (hA : A = a * S + x) (hB : B = b * S + y) (hx : x < S) (hy : y < S) : Sim.Out A B u1 u2 v1 v2 (!even) :=
  .inr ⟨h.fac h2 h3 hA hB hx hy, h.one⟩

end Nq

/- Words in memory: what a block of words is, what can be read, what may have changed. -/
set_option linter.unusedVariables false
set_option linter.unusedSimpArgs false
namespace Go.Proofs.YtpmggjplfcjkkaaGreatDoor
open Go.RowKit Nq

/-- Words as cells. -/
def wds (ws : List Nat) : Array Value := (ws.map fun n : Nat => Value.int .u64 (n : Int)).toArray
/-- Block b holds words. -/
def Blk (w : World) (b : Nat) (ws : List Nat) : Prop := w.heap[b]? = some (.cells (wds ws) 168 (0, 0))
/-- These words can be read. -/
def Row (w : World) (b o : Nat) (xs : List Nat) : Prop := ∀ j, j < xs.length → w.cell? ⟨b, o + j, none⟩ = some (.int .u64 ((xs.getD j 0 : Nat) : Int))

/-- Only the blocks of S may have changed, of what was there. -/
structure Fr (S : List Nat) (w w' : World) : Prop where
  os : w'.os = w.os
  tape : w'.tape = w.tape
  output : w'.output = w.output
  size : w.heap.size ≤ w'.heap.size
  block : ∀ k, k < w.heap.size → k ∉ S → w'.heap[k]? = w.heap[k]?

theorem Fr.refl (S : List Nat) (w : World) : Fr S w w := ⟨rfl, rfl, rfl, Nat.le_refl _, fun _ _ _ => rfl⟩
theorem Fr.trans {S : List Nat} {a b c : World} (h : Fr S a b) (k : Fr S b c) : Fr S a c :=
  ⟨k.os.trans h.os, k.tape.trans h.tape, k.output.trans h.output, Nat.le_trans h.size k.size, fun i hi hn => (k.block i (Nat.lt_of_lt_of_le hi h.size) hn).trans (h.block i hi hn)⟩
theorem Fr.mono {S T : List Nat} {a b : World} (h : Fr S a b) (hs : ∀ k, k ∈ S → k ∈ T) : Fr T a b :=
  ⟨h.os, h.tape, h.output, h.size, fun i hi hn => h.block i hi (fun hk => hn (hs i hk))⟩
/-- What was not there when the first world was need not be named. -/
theorem Fr.trans_new {S T : List Nat} {a b c : World} (h : Fr S a b) (k : Fr T b c) (hT : ∀ x, x ∈ T → x ∈ S ∨ a.heap.size ≤ x) : Fr S a c :=
  ⟨k.os.trans h.os, k.tape.trans h.tape, k.output.trans h.output, Nat.le_trans h.size k.size, fun i hi hn => (k.block i (Nat.lt_of_lt_of_le hi h.size) (fun hk => by rcases hT i hk with h1 | h1; exact hn h1; omega)).trans (h.block i hi hn)⟩

theorem Fr.drew {S : List Nat} {a b : World} (h : Fr S a b) : Fr S a b.drew := ⟨h.os, h.tape, h.output, h.size, h.block⟩
theorem Fr.drewN {S : List Nat} {a b : World} (h : Fr S a b) (n : Nat) : Fr S a (b.drewN n) := ⟨h.os, h.tape, h.output, h.size, h.block⟩
theorem Fr.alloc {S : List Nat} {a b : World} (h : Fr S a b) (o : Obj) : Fr S a (b.alloc o) :=
  ⟨h.os, h.tape, h.output, by have := h.size; simp; omega, fun k hk hn => by rw [← h.block k hk hn]; exact Below.heap_alloc _ _ _ (Nat.lt_of_lt_of_le hk h.size)⟩
theorem Fr.set {S : List Nat} {w w' : World} (h : Fr S w w') {c : Nat} (hc : c ∈ S ∨ w.heap.size ≤ c) (j : Nat) (v : Value) : Fr S w (w'.setCell ⟨c, j, none⟩ v) := by
  refine ⟨h.os, h.tape, h.output, by simpa [World.setCell] using h.size, fun k hk hn => ?_⟩
  rw [← h.block k hk hn]
  exact Below.heap_setCell _ _ _ _ (by rintro rfl; rcases hc with hc | hc; exact hn hc; omega)
theorem Fr.below {w w' : World} (h : Fr [] w w') : Below w.heap.size w w' := ⟨h.os, h.tape, h.output, h.size, fun k hk => h.block k hk (by simp)⟩
theorem Fr.of_below {S : List Nat} {w w' : World} (h : Below w.heap.size w w') : Fr S w w' := ⟨h.os, h.tape, h.output, h.size, fun k hk _ => h.block k hk⟩

theorem Blk.lt {w : World} {b : Nat} {ws : List Nat} (h : Blk w b ws) : b < w.heap.size := (Array.getElem?_eq_some_iff.1 h).1
theorem Blk.inj {w : World} {b : Nat} {ws vs : List Nat} (h : Blk w b ws) (k : Blk w b vs) : ws = vs := by
  have := h.symm.trans k
  injection this with this
  injection this with this _ _
  have h2 := congrArg Array.toList this
  simp only [wds] at h2
  refine (List.map_inj_right (f := fun n : Nat => Value.int .u64 (n : Int)) (fun a b hab => ?_)).1 h2
  injection hab with _ hab
  omega
theorem Blk.fr {S : List Nat} {w w' : World} {b : Nat} {ws : List Nat} (h : Blk w b ws) (hf : Fr S w w') (hb : b ∉ S) : Blk w' b ws := (hf.block b h.lt hb).trans h
theorem Blk.cell {w : World} {b : Nat} {ws : List Nat} (h : Blk w b ws) (j : Nat) (hj : j < ws.length) : w.cell? ⟨b, j, none⟩ = some (.int .u64 ((ws.getD j 0 : Nat) : Int)) := by
  simp [World.cell?, show w.heap[b]? = _ from h, wds, hj]
theorem Blk.frozen {w : World} {b : Nat} {ws : List Nat} (h : Blk w b ws) (j : Nat) : w.frozen? ⟨b, j, none⟩ = false := by
  simp [World.frozen?, show w.heap[b]? = _ from h]
theorem Blk.set {w : World} {b : Nat} {ws : List Nat} (h : Blk w b ws) (j : Nat) (n : Nat) : Blk (w.setCell ⟨b, j, none⟩ (.int .u64 (n : Int))) b (ws.set j n) := by
  simp only [Blk, World.setCell, Array.getElem?_modify, if_pos]
  rw [show w.heap[b]? = _ from h]
  simp [wds, List.map_set]
theorem Blk.set_ne {w : World} {b c : Nat} {ws : List Nat} (h : Blk w b ws) (hne : c ≠ b) (j : Nat) (v : Value) : Blk (w.setCell ⟨c, j, none⟩ v) b ws :=
  (Below.heap_setCell _ _ _ _ (fun e => hne e.symm)).trans h
theorem Blk.alloc {w : World} {b : Nat} {ws : List Nat} (h : Blk w b ws) (o : Obj) : Blk (w.alloc o) b ws := (Below.heap_alloc _ _ _ h.lt).trans h
theorem Blk.drew {w : World} {b : Nat} {ws : List Nat} (h : Blk w b ws) : Blk w.drew b ws := h
theorem Blk.drewN {w : World} {b : Nat} {ws : List Nat} (h : Blk w b ws) (n : Nat) : Blk (w.drewN n) b ws := h
theorem Blk.new (w : World) (ws : List Nat) : Blk (w.alloc (.cells (wds ws) 168)) w.heap.size ws := by
  show (w.heap.push (.cells (wds ws) 168))[w.heap.size]? = _
  simp

theorem Blk.row {w : World} {b : Nat} {ws : List Nat} (h : Blk w b ws) (o n : Nat) : Row w b o ((ws.drop o).take n) := by
  intro j hj
  simp only [List.length_take, List.length_drop] at hj
  rw [h.cell (o + j) (by omega)]
  simp [List.getD_eq_getElem?_getD, List.getElem?_take, List.getElem?_drop, show j < n by omega]

theorem cell_set_ne {w : World} {a b : Addr} {v : Value} (h : a ≠ b) : (w.setCell a v).cell? b = w.cell? b := by
  simp only [World.cell?, World.setCell, Array.getElem?_modify]
  by_cases hb : a.block = b.block
  · rw [if_pos hb]
    cases hh : w.heap[b.block]? with
    | none => rfl
    | some o =>
      cases o with
      | cells c e f =>
        simp only [Option.map_some]
        by_cases hs : a.spot.isSome
        · simp [hs]
        · simp only [hs, Bool.false_eq_true, if_false]
          by_cases hbs : b.spot.isSome
          · simp [hbs]
          · simp only [hbs, Bool.false_eq_true, if_false]
            rw [Array.getElem?_setIfInBounds_ne]
            intro ho
            apply h
            cases a; cases b
            simp_all
      | _ => rfl
  · rw [if_neg hb]

theorem Row.fr {S : List Nat} {w w' : World} {b o : Nat} {xs : List Nat} (h : Row w b o xs) (hf : Fr S w w') (hb : b ∉ S) : Row w' b o xs := by
  intro j hj
  have h1 := h j hj
  have hlt : b < w.heap.size := World.block_lt_of_cell? w _ h1
  rw [← h1]
  exact World.cell?_of_block (a := ⟨b, o + j, none⟩) (hf.block b hlt hb)

theorem Row.drewN {w : World} {b o : Nat} {xs : List Nat} (h : Row w b o xs) (n : Nat) : Row (w.drewN n) b o xs := h
theorem Row.drew {w : World} {b o : Nat} {xs : List Nat} (h : Row w b o xs) : Row w.drew b o xs := h
theorem Row.nil (w : World) (b o : Nat) : Row w b o [] := by intro j hj; simp at hj
theorem Row.take {w : World} {b o : Nat} {xs : List Nat} (h : Row w b o xs) (n : Nat) : Row w b o (xs.take n) := by
  intro j hj
  simp only [List.length_take] at hj
  rw [h j (by omega)]
  simp [List.getD_eq_getElem?_getD, List.getElem?_take, show j < n by omega]
theorem Row.drop {w : World} {b o : Nat} {xs : List Nat} (h : Row w b o xs) (n : Nat) : Row w b (o + n) (xs.drop n) := by
  intro j hj
  simp only [List.length_drop] at hj
  rw [Nat.add_assoc, h (n + j) (by omega)]
  simp [List.getD_eq_getElem?_getD, List.getElem?_drop]

/-- A list with a part written anew. -/
def spl (Z : List Nat) (o : Nat) (zs : List Nat) : List Nat := Z.take o ++ (zs ++ Z.drop (o + zs.length))
theorem spl_length (Z : List Nat) (o : Nat) (zs : List Nat) (h : o + zs.length ≤ Z.length) : (spl Z o zs).length = Z.length := by
  simp [spl]; omega
theorem spl_nil (Z : List Nat) (o : Nat) : spl Z o [] = Z := by simp [spl]
theorem spl_snoc (Z : List Nat) (o : Nat) (zs : List Nat) (x : Nat) (h : o + zs.length < Z.length) : (spl Z o zs).set (o + zs.length) x = spl Z o (zs ++ [x]) := by
  simp only [spl]
  rw [List.set_append_right _ _ (by simp; omega)]
  have e1 : o + zs.length - (List.take o Z).length = zs.length := by simp; omega
  rw [e1, List.set_append_right _ _ (by omega), Nat.sub_self]
  have hd : Z.drop (o + zs.length) = Z.getD (o + zs.length) 0 :: Z.drop (o + zs.length + 1) := drop_eq_cons h
  rw [hd]
  simp [Nat.add_assoc]
theorem spl_mid (Z : List Nat) (o : Nat) (zs : List Nat) (h : o ≤ Z.length) : ((spl Z o zs).drop o).take zs.length = zs := by
  have : (spl Z o zs).drop o = zs ++ Z.drop (o + zs.length) := by
    simp only [spl]
    rw [List.drop_append_of_le_length (by simp; omega), List.drop_eq_nil_of_le (by simp; omega), List.nil_append]
  rw [this, List.take_append_of_le_length (by omega), List.take_length]
theorem spl_take (Z : List Nat) (o : Nat) (zs : List Nat) (h : o ≤ Z.length) : (spl Z o zs).take o = Z.take o := by
  simp only [spl]
  rw [List.take_append_of_le_length (by simp; omega), List.take_take, Nat.min_self]
theorem spl_zero_take (Z zs : List Nat) : (spl Z 0 zs).take zs.length = zs := by simp [spl]
theorem spl_whole (Z zs : List Nat) (h : zs.length = Z.length) : spl Z 0 zs = zs := by simp [spl, h]

theorem Wd.one {a : Nat} (ha : a < Bw) : Wd [a] := Wd.cons ha Wd.nil
/-! ### copy -/
/-- The words of a block written anew. -/
def putW (w : World) (b : Nat) (ws : List Nat) : World := w.setRow b (wds ws)
theorem putW_spec {w : World} {b : Nat} {ws vs : List Nat} (h : Blk w b ws) : Blk (putW w b vs) b vs ∧ Fr [b] w (putW w b vs) := by
  have hlt := h.lt
  refine ⟨?_, ⟨rfl, rfl, rfl, ?_, ?_⟩⟩
  · unfold Blk putW World.setRow
    rw [Array.getElem?_modify, if_pos rfl, show w.heap[b]? = _ from h]
    rfl
  · unfold putW World.setRow; simp
  · intro k hk hn
    unfold putW World.setRow
    rw [Array.getElem?_modify, if_neg (by rintro rfl; simp at hn)]

theorem wds_toList (ws : List Nat) : (wds ws).toList = ws.map fun n : Nat => Value.int .u64 (n : Int) := rfl
theorem wds_spl (Z : List Nat) (o : Nat) (xs : List Nat) : ((wds Z).toList.take o ++ (xs.map fun n : Nat => Value.int .u64 (n : Int)) ++ (wds Z).toList.drop (o + (xs.map fun n : Nat => Value.int .u64 (n : Int)).length)).toArray = wds (spl Z o xs) := by
  simp [wds, spl, List.map_take, List.map_drop]

theorem run_copy_words {P : Program} (dT sT ty : TypeId) (hu : P.underlying dT = some (.slice 168)) (hs : (P.info? 168).map (·.size) = some 1) (w : World) (b o n c bx ox m cx : Nat) (Z xs : List Nat)
    (hZ : Blk w b Z) (hX : Row w bx ox xs) (hl : xs.length = Nat.min m n) (hf : o + xs.length ≤ Z.length) :
    (Builtin.copy_ #[dT, sT] ty #[.slice (some ⟨b, o, none⟩) n c, .slice (some ⟨bx, ox, none⟩) m cx]).run P w = .ok (.int .i64 (xs.length : Int)) (putW w b (spl Z o xs)) := by
  have h := run_copy_row (P := P) w dT sT ty 168 b o n c ⟨bx, ox, none⟩ m cx (wds Z) 168 (xs.map fun n : Nat => Value.int .u64 (n : Int)) hu hs hZ (by simpa using hl) ?_ (by simpa [wds] using hf) ?_
  · rw [h, wds_spl]
    simp only [List.length_map]
    rfl
  · intro j v hv
    rw [List.getElem?_map] at hv
    cases hx : xs[j]? with
    | none => rw [hx] at hv; simp at hv
    | some x =>
      rw [hx] at hv
      simp only [Option.map_some, Option.some.injEq] at hv
      have hj : j < xs.length := (List.getElem?_eq_some_iff.1 hx).1
      have hc := hX j hj
      have ha : (⟨bx, ox, none⟩ : Addr).add j = ⟨bx, ox + j, none⟩ := by unfold Addr.add; split <;> simp_all
      rw [ha, hc, ← hv]
      simp [List.getD_eq_getElem?_getD, hx]
  · intro v hv
    obtain ⟨x, _, rfl⟩ := List.mem_map.1 hv
    rfl

/-! ### structs -/
theorem alloc_at (w : World) (o : Obj) : (w.alloc o).heap[w.heap.size]? = some o := by
  show (w.heap.push o)[w.heap.size]? = some o
  simp
theorem size_alloc (w : World) (o : Obj) : (w.alloc o).heap.size = w.heap.size + 1 := by simp
theorem cell_fr {S : List Nat} {w w' : World} (hf : Fr S w w') {b o : Nat} (hb : b < w.heap.size) (hS : b ∉ S) : w'.cell? ⟨b, o, none⟩ = w.cell? ⟨b, o, none⟩ := by
  unfold World.cell?
  rw [hf.block b hb hS]
/-- Block b is a struct with these cells. -/
def Cells (w : World) (b : Nat) (vs : Array Value) (T : TypeId) : Prop := w.heap[b]? = some (.cells vs T (0, 0))
theorem Cells.lt {w : World} {b : Nat} {vs : Array Value} {T : TypeId} (h : Cells w b vs T) : b < w.heap.size := (Array.getElem?_eq_some_iff.1 h).1
theorem Cells.cell {w : World} {b : Nat} {vs : Array Value} {T : TypeId} (h : Cells w b vs T) (j : Nat) {v : Value} (hv : vs[j]? = some v) : w.cell? ⟨b, j, none⟩ = some v := by
  simp [World.cell?, show w.heap[b]? = _ from h, hv]
theorem Cells.frozen {w : World} {b : Nat} {vs : Array Value} {T : TypeId} (h : Cells w b vs T) (j : Nat) : w.frozen? ⟨b, j, none⟩ = false := by
  simp [World.frozen?, show w.heap[b]? = _ from h]
theorem Cells.set {w : World} {b : Nat} {vs : Array Value} {T : TypeId} (h : Cells w b vs T) (j : Nat) (v : Value) : Cells (w.setCell ⟨b, j, none⟩ v) b (vs.setIfInBounds j v) T := by
  simp only [Cells, World.setCell, Array.getElem?_modify, if_pos]
  rw [show w.heap[b]? = _ from h]
  simp
theorem Cells.fr {S : List Nat} {w w' : World} {b : Nat} {vs : Array Value} {T : TypeId} (h : Cells w b vs T) (hf : Fr S w w') (hb : b ∉ S) : Cells w' b vs T := (hf.block b h.lt hb).trans h
theorem Cells.drewN {w : World} {b : Nat} {vs : Array Value} {T : TypeId} (h : Cells w b vs T) (n : Nat) : Cells (w.drewN n) b vs T := h
theorem Cells.new (w : World) (vs : Array Value) (T : TypeId) : Cells (w.alloc (.cells vs T)) w.heap.size vs T := alloc_at w _
end Go.Proofs.YtpmggjplfcjkkaaGreatDoor

/- The bytes of a text; the number of a list of digits. -/
set_option linter.unusedVariables false
set_option linter.unusedSimpArgs false
namespace Go.Proofs.YtpmggjplfcjkkaaGreatDoor
open Go.RowKit Nq

def byteAt (S : ByteArray) (i : Nat) : Nat := if h : i < S.size then (S[i]'h).toNat else 256
theorem byteAt_eq {S : ByteArray} {i : Nat} (h : i < S.size) : byteAt S i = (S[i]'h).toNat := dif_pos h
theorem byteAt_lt {S : ByteArray} {i : Nat} (h : i < S.size) : byteAt S i < 256 := by rw [byteAt_eq h]; exact (S[i]'h).toNat_lt

/-- The number of a list of digits. -/
def dval (D : List Nat) : Nat := D.foldl (fun n d => n * 10 + d) 0
theorem dval_take {D : List Nat} {m : Nat} (h : m < D.length) : dval (D.take (m + 1)) = dval (D.take m) * 10 + D[m] := by
  unfold dval
  rw [List.take_add_one, List.foldl_append]
  simp [h]
theorem dval_lt {D : List Nat} (h : ∀ d ∈ D, d < 10) : dval D < 10 ^ D.length := by
  have : ∀ (L : List Nat) (n k : Nat), (∀ d ∈ L, d < 10) → n < 10 ^ k → L.foldl (fun n d => n * 10 + d) n < 10 ^ (k + L.length) := by
    intro L
    induction L with
    | nil => intro n k _ hn; simpa using hn
    | cons a t ih =>
      intro n k hd hn
      have ha := hd a (by simp)
      have := ih (n * 10 + a) (k + 1) (fun d h => hd d (by simp [h])) (by rw [Nat.pow_succ]; omega)
      simpa [Nat.add_assoc, Nat.add_comm 1] using this
  simpa [dval] using this D 0 0 h (by decide)

theorem byteAt_list {S : ByteArray} {i : Nat} (h : i < S.size) : S.data.toList[i]? = some (UInt8.ofNat (byteAt S i)) := by
  have hl : i < S.data.toList.length := by simpa using h
  rw [List.getElem?_eq_getElem hl, byteAt_eq h]
  simp [ByteArray.getElem_eq_getElem_data]
theorem one_byte {S : ByteArray} {i : Nat} (h : i < S.size) : (S.extract i (i + 1)).toList = [UInt8.ofNat (byteAt S i)] := by
  rw [Lib.toList_data, Lib.extract_data, Nat.add_sub_cancel_left, List.take_one, List.head?_drop, byteAt_list h]
  rfl
end Go.Proofs.YtpmggjplfcjkkaaGreatDoor

/- spec: digits of a text. -/
set_option linter.unusedVariables false
set_option linter.unusedSimpArgs false
namespace Go.Proofs.YtpmggjplfcjkkaaGreatDoor
open Go.RowKit Nq

/-- Byte i is a digit. -/
def digAt (S : ByteArray) (i : Nat) : Bool := decide (48 ≤ byteAt S i ∧ byteAt S i ≤ 57)
/-- Up to where digits stand from i on; k bytes are looked at at most. -/
def runN (S : ByteArray) : Nat → Nat → Nat
  | 0, i => i
  | k + 1, i => if digAt S i then runN S k (i + 1) else i
def run (S : ByteArray) (i : Nat) : Nat := runN S (S.size - i) i

theorem digAt_lt {S : ByteArray} {i : Nat} (h : digAt S i = true) : i < S.size := by
  unfold digAt byteAt at h
  by_cases hi : i < S.size
  · exact hi
  · rw [dif_neg hi] at h; simp at h
theorem runN_spec (S : ByteArray) : ∀ (k i : Nat), i ≤ runN S k i ∧ runN S k i ≤ i + k ∧ (∀ j, i ≤ j → j < runN S k i → digAt S j = true) ∧ (runN S k i < i + k → digAt S (runN S k i) = false)
  | 0, i => ⟨by simp [runN], by simp [runN], fun j h1 h2 => by simp [runN] at h2; omega, fun h => by simp [runN] at h⟩
  | k + 1, i => by
    unfold runN
    by_cases h : digAt S i = true
    · rw [if_pos h]
      obtain ⟨h1, h2, h3, h4⟩ := runN_spec S k (i + 1)
      refine ⟨by omega, by omega, fun j hj1 hj2 => ?_, fun hl => h4 (by omega)⟩
      by_cases e : j = i
      · rw [e]; exact h
      · exact h3 j (by omega) hj2
    · rw [if_neg h]
      exact ⟨by omega, by omega, fun j h1 h2 => by omega, fun _ => by simpa using h⟩
theorem run_spec (S : ByteArray) {i : Nat} (hi : i ≤ S.size) : i ≤ run S i ∧ run S i ≤ S.size ∧ (∀ j, i ≤ j → j < run S i → digAt S j = true) ∧ digAt S (run S i) = false := by
  obtain ⟨h1, h2, h3, h4⟩ := runN_spec S (S.size - i) i
  unfold run
  refine ⟨h1, by omega, h3, ?_⟩
  by_cases h : runN S (S.size - i) i < i + (S.size - i)
  · exact h4 h
  · cases hd : digAt S (runN S (S.size - i) i) with
    | false => rfl
    | true => have := digAt_lt hd; omega
theorem run_step {S : ByteArray} {i : Nat} (h : digAt S i = true) : run S i = run S (i + 1) := by
  have hl := digAt_lt h
  unfold run
  rw [show S.size - i = (S.size - (i + 1)) + 1 by omega]
  show (if digAt S i = true then _ else _) = _
  rw [if_pos h]
theorem run_stop {S : ByteArray} {i : Nat} (h : digAt S i = false) : run S i = i := by
  unfold run
  cases S.size - i with
  | zero => rfl
  | succ k => show (if digAt S i = true then _ else _) = _; rw [if_neg (by rw [h]; decide)]

set_option maxRecDepth 100000 in
theorem jDigit {c : Nat} (w : World) : Calls Tryz.prog 46 #[.int .u8 c] w fun e w' => e = .returned (.bool (decide (48 ≤ c ∧ c ≤ 57))) ∧ w = w' := by
  by_cases h1 : 48 ≤ c
  · have d1 : decide ((c : Int) ≥ 48) = true := by simp; omega
    by_cases h2 : c ≤ 57
    · have d2 : decide ((c : Int) ≤ 57) = true := by simp; omega
      rw [decide_eq_true (show 48 ≤ c ∧ c ≤ 57 from ⟨h1, h2⟩)]
      go_enter Tryz.func46, Tryz.ntmps46
      go_wp2_with fail
      go_ret
      exact ⟨rfl, rfl⟩
    · have d2 : decide ((c : Int) ≤ 57) = false := by simp; omega
      rw [decide_eq_false (show ¬ (48 ≤ c ∧ c ≤ 57) from fun h => h2 h.2)]
      clear h2
      go_enter Tryz.func46, Tryz.ntmps46
      go_wp2_with fail
      go_ret
      exact ⟨rfl, rfl⟩
  · have d1 : decide ((c : Int) ≥ 48) = false := by simp; omega
    rw [decide_eq_false (show ¬ (48 ≤ c ∧ c ≤ 57) from fun h => h1 h.1)]
    clear h1
    go_enter Tryz.func46, Tryz.ntmps46
    go_wp2_with fail
    go_ret
    exact ⟨rfl, rfl⟩
/-- At a byte of a text. -/
theorem jDigitAt {S : ByteArray} {i : Nat} (h : i < S.size) (w : World) : Calls Tryz.prog 46 #[.int .u8 ((S[i]'h).toNat : Nat)] w fun e w' => e = .returned (.bool (digAt S i)) ∧ w = w' := by
  have := jDigit (c := (S[i]'h).toNat) w
  rw [← byteAt_eq h] at this ⊢
  exact this

set_option maxRecDepth 100000 in
set_option maxHeartbeats 1000000 in
theorem jRun (S : ByteArray) (a : Nat) (hS : S.size ≤ 2147483647) (ha : a ≤ S.size) (w : World) : Calls Tryz.prog 26 #[.string S, .int .i64 a] w fun e w' => e = .returned (.int .i64 (run S a)) ∧ w = w' := by
  obtain ⟨r, hr⟩ : ∃ r, run S a = r := ⟨_, rfl⟩
  have HR := Lib.hid hr
  rw [hr]
  clear hr
  go_enter Tryz.func26, Tryz.ntmps26
  go_wp2
  go_loop [1] (fun v1 => ∃ i : Nat, i ≤ S.size ∧ v1 = .int .i64 i ∧ Hid (run S i = r)) (fun v1 => S.size - (intOf v1).toNat)
  case atStart => exact ⟨a, ha, rfl, HR⟩
  case round =>
    clear HR
    obtain ⟨i, hi, rfl, H⟩ := hrel
    by_cases hlt : i < S.size
    · have hd := jDigitAt hlt w
      obtain ⟨b, hb⟩ : ∃ b, digAt S i = b := ⟨_, rfl⟩
      rw [hb] at hd
      have HB := Lib.hid hb
      clear hb
      cases b with
      | true =>
        go_wp2_with (go_at_call 46; (with_reducible refine hd.mono ?_); rintro e w1 ⟨rfl, rfl⟩)
        go_round
        case rel => exact ⟨i + 1, hlt, by go_num, Lib.hid (by rw [← run_step HB.out]; exact H.out)⟩
        case measure => simp [intOf]; omega
      | false =>
        go_wp2_with (go_at_call 46; (with_reducible refine hd.mono ?_); rintro e w1 ⟨rfl, rfl⟩)
        go_ret
        exact ⟨by rw [← H.out, run_stop HB.out]; rfl, rfl⟩
    · have hd : digAt S i = false := by
        cases h : digAt S i with
        | false => rfl
        | true => exact absurd (digAt_lt h) hlt
      have HB := Lib.hid hd
      clear hd
      go_wp2_with fail
      go_ret
      exact ⟨by rw [← H.out, run_stop HB.out]; rfl, rfl⟩

/-- A text of digits, one at least. -/
def allDig (S : ByteArray) : Bool := decide (run S 0 = S.size ∧ 0 < S.size)
set_option maxRecDepth 100000 in
set_option maxHeartbeats 1000000 in
theorem jDigits (S : ByteArray) (hS : S.size ≤ 2147483647) (w : World) : Calls Tryz.prog 47 #[.string S] w fun e w' => e = .returned (.bool (allDig S)) ∧ w = w' := by
  obtain ⟨r, hr⟩ : ∃ r, run S 0 = r := ⟨_, rfl⟩
  have HR := Lib.hid hr
  have HA : Hid (allDig S = decide (r = S.size ∧ 0 < S.size)) := Lib.hid (by unfold allDig; rw [hr])
  clear hr
  go_enter Tryz.func47, Tryz.ntmps47
  go_wp2
  go_loop [3] (fun v3 => ∃ i : Nat, i ≤ S.size ∧ v3 = .int .i64 i ∧ Hid (run S i = r)) (fun v3 => S.size - (intOf v3).toNat)
  case atStart => exact ⟨0, by omega, rfl, HR⟩
  case round =>
    clear HR
    obtain ⟨i, hi, rfl, H⟩ := hrel
    by_cases hlt : i < S.size
    · have hd := jDigitAt hlt w
      obtain ⟨b, hb⟩ : ∃ b, digAt S i = b := ⟨_, rfl⟩
      rw [hb] at hd
      have HB := Lib.hid hb
      clear hb
      cases b with
      | true =>
        go_wp2_with (go_at_call 46; (with_reducible refine hd.mono ?_); rintro e w1 ⟨rfl, rfl⟩)
        go_round
        case rel => exact ⟨i + 1, hlt, by go_num, Lib.hid (by rw [← run_step HB.out]; exact H.out)⟩
        case measure => simp [intOf]; omega
      | false =>
        have HF : Hid (allDig S = false) := Lib.hid (by rw [HA.out, ← H.out, run_stop HB.out]; exact decide_eq_false (by rintro ⟨h, _⟩; omega))
        go_wp2_with (go_at_call 46; (with_reducible refine hd.mono ?_); rintro e w1 ⟨rfl, rfl⟩)
        go_ret
        exact ⟨by rw [HF.out]; rfl, rfl⟩
    · have hd : digAt S i = false := by
        cases h : digAt S i with
        | false => rfl
        | true => exact absurd (digAt_lt h) hlt
      have hie : i = S.size := by omega
      have HF : Hid (allDig S = decide ((S.size : Int) > 0)) := Lib.hid (by
        rw [HA.out, ← H.out, run_stop hd, hie]
        by_cases h0 : 0 < S.size
        · rw [decide_eq_true (by exact ⟨rfl, h0⟩), decide_eq_true (by omega)]
        · rw [decide_eq_false (by rintro ⟨_, h⟩; exact h0 h), decide_eq_false (by omega)])
      clear hd hie H
      by_cases h0 : 0 < S.size
      · have h1 : decide ((S.size : Int) > 0) = true := by simp; omega
        rw [h1] at HF
        go_wp2_with fail
        go_ret
        exact ⟨by rw [HF.out]; rfl, rfl⟩
      · have h1 : decide ((S.size : Int) > 0) = false := decide_eq_false (by omega)
        rw [h1] at HF
        go_wp2_with fail
        go_ret
        exact ⟨by rw [HF.out]; rfl, rfl⟩
/-- Digits without a 0 ahead. -/
def plainB (S : ByteArray) : Bool := allDig S && (S.size == 1 || byteAt S 0 != 48)
set_option maxRecDepth 100000 in
set_option maxHeartbeats 1000000 in
theorem jPlain (S : ByteArray) (hS : S.size ≤ 2147483647) (w : World) : Calls Tryz.prog 27 #[.string S] w fun e w' => e = .returned (.bool (plainB S)) ∧ w = w' := by
  have hd := jDigits S hS w
  obtain ⟨b, hb⟩ : ∃ b, allDig S = b := ⟨_, rfl⟩
  rw [hb] at hd
  cases b with
  | false =>
    have HP : Hid (plainB S = false) := Lib.hid (by unfold plainB; rw [hb]; rfl)
    clear hb
    go_enter Tryz.func27, Tryz.ntmps27
    go_wp2_with (go_at_call 47; (with_reducible refine hd.mono ?_); rintro e w1 ⟨rfl, rfl⟩)
    go_ret
    exact ⟨by rw [HP.out]; rfl, rfl⟩
  | true =>
    have h0 : 0 < S.size := by unfold allDig at hb; simp at hb; exact hb.2
    have HP : Hid (plainB S = (S.size == 1 || byteAt S 0 != 48)) := Lib.hid (by unfold plainB; rw [hb]; rfl)
    clear hb
    by_cases h1 : S.size = 1
    · have HQ : Hid (plainB S = true) := Lib.hid (by rw [HP.out, h1]; rfl)
      have d1 : ((S.size : Int) == 1) = true := by rw [h1]; rfl
      clear h1 HP
      go_enter Tryz.func27, Tryz.ntmps27
      go_wp2_with (go_at_call 47; (with_reducible refine hd.mono ?_); rintro e w1 ⟨rfl, rfl⟩)
      go_ret
      exact ⟨by rw [HQ.out]; rfl, rfl⟩
    · have d1 : ((S.size : Int) == 1) = false := by rw [beq_eq_false_iff_ne]; omega
      have HQ : Hid (plainB S = (((S[0]'h0).toNat : Int) != 48)) := Lib.hid (by
        rw [HP.out, show (S.size == 1) = false by simpa using h1, Bool.false_or, byteAt_eq h0]
        by_cases h : (S[0]'h0).toNat = 48
        · rw [h]; rfl
        · rw [bne_iff_ne.mpr h, bne_iff_ne.mpr (by omega : ((S[0]'h0).toNat : Int) ≠ 48)])
      clear h1 HP
      by_cases h2 : (S[0]'h0).toNat = 48
      · have e : (((S[0]'h0).toNat : Int) != 48) = false := by rw [h2]; rfl
        rw [e] at HQ
        go_enter Tryz.func27, Tryz.ntmps27
        go_wp2_with (go_at_call 47; (with_reducible refine hd.mono ?_); rintro e w1 ⟨rfl, rfl⟩)
        go_ret
        exact ⟨by rw [HQ.out]; rfl, rfl⟩
      · have e : (((S[0]'h0).toNat : Int) != 48) = true := bne_iff_ne.mpr (by omega)
        rw [e] at HQ
        clear h2
        go_enter Tryz.func27, Tryz.ntmps27
        go_wp2_with (go_at_call 47; (with_reducible refine hd.mono ?_); rintro e w1 ⟨rfl, rfl⟩)
        go_ret
        exact ⟨by rw [HQ.out]; rfl, rfl⟩
end Go.Proofs.YtpmggjplfcjkkaaGreatDoor

/- spec: the number of a few digits. -/
set_option linter.unusedVariables false
set_option linter.unusedSimpArgs false
namespace Go.Proofs.YtpmggjplfcjkkaaGreatDoor
open Go.RowKit Nq

/-- The digits of a text. -/
def digs (S : ByteArray) : List Nat := (List.range S.size).map fun k => byteAt S k - 48
theorem digs_len (S : ByteArray) : (digs S).length = S.size := by simp [digs]
theorem digs_get {S : ByteArray} {i : Nat} (h : i < (digs S).length) : (digs S)[i] = byteAt S i - 48 := by simp [digs]
theorem allDig_at {S : ByteArray} (h : allDig S = true) {i : Nat} (hi : i < S.size) : 48 ≤ byteAt S i ∧ byteAt S i ≤ 57 := by
  unfold allDig at h
  simp at h
  obtain ⟨_, _, h3, _⟩ := run_spec S (i := 0) (by omega)
  have := h3 i (by omega) (by rw [h.1]; exact hi)
  unfold digAt at this
  simpa using this
theorem digs_ten {S : ByteArray} (h : allDig S = true) : ∀ d ∈ digs S, d < 10 := by
  intro d hd
  unfold digs at hd
  simp at hd
  obtain ⟨i, hi, rfl⟩ := hd
  have := allDig_at h hi
  omega
theorem dval_take_lt {D : List Nat} (h : ∀ d ∈ D, d < 10) {m : Nat} (hm : m ≤ 9) : dval (D.take m) < 10 ^ 9 := by
  have h1 := dval_lt (D := D.take m) (fun d hd => h d (List.mem_of_mem_take hd))
  exact Nat.lt_of_lt_of_le h1 (Nat.pow_le_pow_right (by decide) (by simp; omega))

set_option maxRecDepth 100000 in
set_option maxHeartbeats 1000000 in
theorem jNumber (S : ByteArray) (hS : S.size ≤ 9) (hd : allDig S = true) (w : World) : Calls Tryz.prog 48 #[.string S] w fun e w' => e = .returned (.int .i64 (dval (digs S))) ∧ w = w' := by
  have HD := Lib.hid hd
  obtain ⟨r, hr⟩ : ∃ r : Nat, dval (digs S) = r := ⟨_, rfl⟩
  have HR := Lib.hid hr
  rw [hr]
  clear hr hd
  go_enter Tryz.func48, Tryz.ntmps48
  go_wp2
  go_loop [3, 4] (fun v3 v4 => ∃ (i n : Nat), i ≤ S.size ∧ n < 1000000000 ∧ v3 = .int .i64 n ∧ v4 = .int .i64 i ∧ Hid (n = dval ((digs S).take i))) (fun _ v4 => S.size - (intOf v4).toNat)
  case atStart => exact ⟨0, 0, by omega, by omega, rfl, rfl, Lib.hid (by simp [dval])⟩
  case round =>
    obtain ⟨i, n, hi, hn, rfl, rfl, H⟩ := hrel
    by_cases hlt : i < S.size
    · have hc := allDig_at HD.out hlt
      rw [byteAt_eq hlt] at hc
      have hlen : i < (digs S).length := by rw [digs_len]; exact hlt
      have hstep := dval_take hlen
      rw [digs_get hlen, ← H.out, byteAt_eq hlt] at hstep
      have hb := dval_take_lt (digs_ten HD.out) (m := i + 1) (by omega)
      rw [hstep] at hb
      obtain ⟨d, hdd⟩ : ∃ d : Nat, (S[i]'hlt).toNat - 48 = d := ⟨_, rfl⟩
      rw [hdd] at hstep hb
      have hcd : (((S[i]'hlt).toNat : Int) - 48) = (d : Int) := by omega
      have hd9 : d ≤ 9 := by omega
      have hwd : IntKind.u8.wrap (d : Int) = (d : Int) := by simp only [IntKind.wrap, IntKind.bits, IntKind.signed, Bool.false_and, Bool.false_eq_true, if_false]; omega
      have hb' : n * 10 + d < 1000000000 := by omega
      have HS := Lib.hid hstep
      clear hc hstep hb hdd hlen
      go_wp2_with fail
      go_round
      case rel => exact ⟨i + 1, n * 10 + d, hlt, hb', by go_num, by go_num, Lib.hid HS.out.symm⟩
      case measure => simp [intOf]; omega
    · have hie : i = S.size := by omega
      have HE : Hid (n = r) := Lib.hid (by rw [H.out, ← HR.out, hie, ← digs_len, List.take_length])
      go_wp2_with fail
      go_ret
      exact ⟨by rw [← HE.out]; rfl, rfl⟩
end Go.Proofs.YtpmggjplfcjkkaaGreatDoor

/- spec: the exponent of a text. -/
set_option linter.unusedVariables false
set_option linter.unusedSimpArgs false
namespace Go.Proofs.YtpmggjplfcjkkaaGreatDoor
open Go.RowKit Nq

/-- What digits behind a sign write as an exponent. -/
def expU (neg : Bool) (V : ByteArray) : Option Int := if allDig V = true ∧ V.size ≤ 2 then some (if neg then -(dval (digs V) : Int) else dval (digs V)) else none
def ExpIs (w : World) (r : Option Int) (e : Ending) (w' : World) : Prop := e = .returned (.tuple #[.int .i64 (r.getD 0), .bool r.isSome]) ∧ w = w'
theorem expU_bad {neg : Bool} {V : ByteArray} (h : allDig V = false) : expU neg V = none := by unfold expU; rw [if_neg (by rw [h]; simp)]
theorem expU_long {neg : Bool} {V : ByteArray} (h : ¬ V.size ≤ 2) : expU neg V = none := by unfold expU; rw [if_neg (fun hh => h hh.2)]
theorem expU_ok {neg : Bool} {V : ByteArray} (h : allDig V = true) (h2 : V.size ≤ 2) : expU neg V = some (if neg then -(dval (digs V) : Int) else dval (digs V)) := by unfold expU; rw [if_pos ⟨h, h2⟩]

set_option maxRecDepth 100000 in
set_option maxHeartbeats 4000000 in
theorem jExp_minus (T : ByteArray) (hS : T.size ≤ 2147483647) (h0 : 0 < T.size) (hE : T.toList.isEmpty = false) (h1 : 0 < T.size - 1) (hU : (T.extract 1 T.size).toList.isEmpty = false) (hU' : ¬ (T.extract 1 T.size).toList = []) (hx : 0 < (T.extract 1 T.size).size) (hm : ((((T.extract 1 T.size)[0]'hx).toNat : Nat) : Int) = 45)
    (hc : (((T[0]'h0).toNat : Nat) : Int) = 101 ∨ (((T[0]'h0).toNat : Nat) : Int) = 69) (w : World) :
    Calls Tryz.prog 28 #[.string T] w (ExpIs w (expU true ((T.extract 1 T.size).extract 1 (T.size - 1)))) := by
  obtain ⟨V, hV⟩ : ∃ V, V = ((T.extract 1 T.size).extract 1 (T.size - 1)) := ⟨_, rfl⟩
  have hs : V.size = T.size - 1 - 1 := by rw [hV]; simp [ByteArray.size_extract]
  have hd := jDigits V (by omega) w
  rw [← hV]
  cases hb : allDig V with
  | false =>
    rw [hb, hV] at hd
    have HP : Hid (ExpIs w (expU true V) (.returned (.tuple #[.int .i64 0, .bool false])) w) := Lib.hid (by rw [expU_bad hb]; exact ⟨rfl, rfl⟩)
    clear hb hs hV
    rcases hc with hc | hc
    all_goals
      go_enter Tryz.func28, Tryz.ntmps28
      go_wp2_with (go_at_call 47; (with_reducible refine hd.mono ?_); rintro e w1 ⟨rfl, rfl⟩)
      go_ret2
      exact HP.out
  | true =>
    by_cases hl : V.size ≤ 2
    · have hn := jNumber V (by omega) hb w
      have hx9 := dval_take_lt (digs_ten hb) (m := V.size) (by omega)
      rw [← digs_len, List.take_length] at hx9
      have hok := expU_ok (neg := true) hb hl
      rw [hb] at hd
      obtain ⟨x, hx⟩ : ∃ x, dval (digs V) = x := ⟨_, rfl⟩
      rw [hx] at hn hx9 hok
      have hx9' : x < 1000000000 := by omega
      have HP : Hid (ExpIs w (expU true V) (.returned (.tuple #[.int .i64 (-(x : Int)), .bool true])) w) := Lib.hid (by rw [hok]; exact ⟨rfl, rfl⟩)
      have hl1 : decide (((T.size - 1 - 1 : Nat) : Int) > 2) = false := decide_eq_false (by omega)
      have hl2 : T.size - 1 - 1 ≤ 2 := by omega
      rw [hV] at hd hn
      clear hb hs hV hl hx9 hok hx
      rcases hc with hc | hc
      all_goals
        go_enter Tryz.func28, Tryz.ntmps28
        go_wp2_with (first | (go_at_call 47; (with_reducible refine hd.mono ?_); rintro e w1 ⟨rfl, rfl⟩) | (go_at_call 48; (with_reducible refine hn.mono ?_); rintro e w1 ⟨rfl, rfl⟩))
        go_ret2
        exact HP.out
    · have HP : Hid (ExpIs w (expU true V) (.returned (.tuple #[.int .i64 0, .bool false])) w) := Lib.hid (by rw [expU_long hl]; exact ⟨rfl, rfl⟩)
      rw [hb, hV] at hd
      have hl1 : decide (((T.size - 1 - 1 : Nat) : Int) > 2) = true := decide_eq_true (by omega)
      have hl2 : ¬ T.size - 1 - 1 ≤ 2 := by omega
      have hl3 : 2 < T.size - 1 - 1 := by omega
      clear hb hs hV hl
      rcases hc with hc | hc
      all_goals
        go_enter Tryz.func28, Tryz.ntmps28
        go_wp2_with (go_at_call 47; (with_reducible refine hd.mono ?_); rintro e w1 ⟨rfl, rfl⟩)
        go_ret2
        exact HP.out
set_option maxRecDepth 100000 in
set_option maxHeartbeats 4000000 in
theorem jExp_plus (T : ByteArray) (hS : T.size ≤ 2147483647) (h0 : 0 < T.size) (hE : T.toList.isEmpty = false) (h1 : 0 < T.size - 1) (hU : (T.extract 1 T.size).toList.isEmpty = false) (hU' : ¬ (T.extract 1 T.size).toList = []) (hx : 0 < (T.extract 1 T.size).size) (hm : ((((T.extract 1 T.size)[0]'hx).toNat : Nat) : Int) = 43)
    (hc : (((T[0]'h0).toNat : Nat) : Int) = 101 ∨ (((T[0]'h0).toNat : Nat) : Int) = 69) (w : World) :
    Calls Tryz.prog 28 #[.string T] w (ExpIs w (expU false ((T.extract 1 T.size).extract 1 (T.size - 1)))) := by
  obtain ⟨V, hV⟩ : ∃ V, V = ((T.extract 1 T.size).extract 1 (T.size - 1)) := ⟨_, rfl⟩
  have hs : V.size = T.size - 1 - 1 := by rw [hV]; simp [ByteArray.size_extract]
  have hd := jDigits V (by omega) w
  rw [← hV]
  cases hb : allDig V with
  | false =>
    rw [hb, hV] at hd
    have HP : Hid (ExpIs w (expU false V) (.returned (.tuple #[.int .i64 0, .bool false])) w) := Lib.hid (by rw [expU_bad hb]; exact ⟨rfl, rfl⟩)
    clear hb hs hV
    rcases hc with hc | hc
    all_goals
      go_enter Tryz.func28, Tryz.ntmps28
      go_wp2_with (go_at_call 47; (with_reducible refine hd.mono ?_); rintro e w1 ⟨rfl, rfl⟩)
      go_ret2
      exact HP.out
  | true =>
    by_cases hl : V.size ≤ 2
    · have hn := jNumber V (by omega) hb w
      have hx9 := dval_take_lt (digs_ten hb) (m := V.size) (by omega)
      rw [← digs_len, List.take_length] at hx9
      have hok := expU_ok (neg := false) hb hl
      rw [hb] at hd
      obtain ⟨x, hx⟩ : ∃ x, dval (digs V) = x := ⟨_, rfl⟩
      rw [hx] at hn hx9 hok
      have hx9' : x < 1000000000 := by omega
      have HP : Hid (ExpIs w (expU false V) (.returned (.tuple #[.int .i64 ((x : Int)), .bool true])) w) := Lib.hid (by rw [hok]; exact ⟨rfl, rfl⟩)
      have hl1 : decide (((T.size - 1 - 1 : Nat) : Int) > 2) = false := decide_eq_false (by omega)
      have hl2 : T.size - 1 - 1 ≤ 2 := by omega
      rw [hV] at hd hn
      clear hb hs hV hl hx9 hok hx
      rcases hc with hc | hc
      all_goals
        go_enter Tryz.func28, Tryz.ntmps28
        go_wp2_with (first | (go_at_call 47; (with_reducible refine hd.mono ?_); rintro e w1 ⟨rfl, rfl⟩) | (go_at_call 48; (with_reducible refine hn.mono ?_); rintro e w1 ⟨rfl, rfl⟩))
        go_ret2
        exact HP.out
    · have HP : Hid (ExpIs w (expU false V) (.returned (.tuple #[.int .i64 0, .bool false])) w) := Lib.hid (by rw [expU_long hl]; exact ⟨rfl, rfl⟩)
      rw [hb, hV] at hd
      have hl1 : decide (((T.size - 1 - 1 : Nat) : Int) > 2) = true := decide_eq_true (by omega)
      have hl2 : ¬ T.size - 1 - 1 ≤ 2 := by omega
      have hl3 : 2 < T.size - 1 - 1 := by omega
      clear hb hs hV hl
      rcases hc with hc | hc
      all_goals
        go_enter Tryz.func28, Tryz.ntmps28
        go_wp2_with (go_at_call 47; (with_reducible refine hd.mono ?_); rintro e w1 ⟨rfl, rfl⟩)
        go_ret2
        exact HP.out
set_option maxRecDepth 100000 in
set_option maxHeartbeats 4000000 in
theorem jExp_plain (T : ByteArray) (hS : T.size ≤ 2147483647) (h0 : 0 < T.size) (hE : T.toList.isEmpty = false) (h1 : 0 < T.size - 1) (hU : (T.extract 1 T.size).toList.isEmpty = false) (hU' : ¬ (T.extract 1 T.size).toList = []) (hx : 0 < (T.extract 1 T.size).size) (hm : ((((T.extract 1 T.size)[0]'hx).toNat : Nat) : Int) ≠ 45) (hm1 : (((((T.extract 1 T.size)[0]'hx).toNat : Nat) : Int) == 45) = false) (hm2 : (((((T.extract 1 T.size)[0]'hx).toNat : Nat) : Int) == 43) = false)
    (hc : (((T[0]'h0).toNat : Nat) : Int) = 101 ∨ (((T[0]'h0).toNat : Nat) : Int) = 69) (w : World) :
    Calls Tryz.prog 28 #[.string T] w (ExpIs w (expU false (T.extract 1 T.size))) := by
  obtain ⟨V, hV⟩ : ∃ V, V = (T.extract 1 T.size) := ⟨_, rfl⟩
  have hs : V.size = T.size - 1 := by rw [hV]; simp [ByteArray.size_extract]
  have hd := jDigits V (by omega) w
  rw [← hV]
  cases hb : allDig V with
  | false =>
    rw [hb, hV] at hd
    have HP : Hid (ExpIs w (expU false V) (.returned (.tuple #[.int .i64 0, .bool false])) w) := Lib.hid (by rw [expU_bad hb]; exact ⟨rfl, rfl⟩)
    clear hb hs hV
    rcases hc with hc | hc
    all_goals
      go_enter Tryz.func28, Tryz.ntmps28
      go_wp2_with (go_at_call 47; (with_reducible refine hd.mono ?_); rintro e w1 ⟨rfl, rfl⟩)
      go_ret2
      exact HP.out
  | true =>
    by_cases hl : V.size ≤ 2
    · have hn := jNumber V (by omega) hb w
      have hx9 := dval_take_lt (digs_ten hb) (m := V.size) (by omega)
      rw [← digs_len, List.take_length] at hx9
      have hok := expU_ok (neg := false) hb hl
      rw [hb] at hd
      obtain ⟨x, hx⟩ : ∃ x, dval (digs V) = x := ⟨_, rfl⟩
      rw [hx] at hn hx9 hok
      have hx9' : x < 1000000000 := by omega
      have HP : Hid (ExpIs w (expU false V) (.returned (.tuple #[.int .i64 ((x : Int)), .bool true])) w) := Lib.hid (by rw [hok]; exact ⟨rfl, rfl⟩)
      have hl1 : decide (((T.size - 1 : Nat) : Int) > 2) = false := decide_eq_false (by omega)
      have hl2 : T.size - 1 ≤ 2 := by omega
      rw [hV] at hd hn
      clear hb hs hV hl hx9 hok hx
      rcases hc with hc | hc
      all_goals
        go_enter Tryz.func28, Tryz.ntmps28
        go_wp2_with (first | (go_at_call 47; (with_reducible refine hd.mono ?_); rintro e w1 ⟨rfl, rfl⟩) | (go_at_call 48; (with_reducible refine hn.mono ?_); rintro e w1 ⟨rfl, rfl⟩))
        go_ret2
        exact HP.out
    · have HP : Hid (ExpIs w (expU false V) (.returned (.tuple #[.int .i64 0, .bool false])) w) := Lib.hid (by rw [expU_long hl]; exact ⟨rfl, rfl⟩)
      rw [hb, hV] at hd
      have hl1 : decide (((T.size - 1 : Nat) : Int) > 2) = true := decide_eq_true (by omega)
      have hl2 : ¬ T.size - 1 ≤ 2 := by omega
      have hl3 : 2 < T.size - 1 := by omega
      clear hb hs hV hl
      rcases hc with hc | hc
      all_goals
        go_enter Tryz.func28, Tryz.ntmps28
        go_wp2_with (go_at_call 47; (with_reducible refine hd.mono ?_); rintro e w1 ⟨rfl, rfl⟩)
        go_ret2
        exact HP.out
set_option maxRecDepth 100000 in
set_option maxHeartbeats 4000000 in
theorem jExp_none (T : ByteArray) (hS : T.size ≤ 2147483647) (h0 : 0 < T.size) (hE : T.toList.isEmpty = false) (h1 : ¬ 0 < T.size - 1) (hU : (T.extract 1 T.size).toList.isEmpty = true) (hU' : (T.extract 1 T.size).toList = [])
    (hc : (((T[0]'h0).toNat : Nat) : Int) = 101 ∨ (((T[0]'h0).toNat : Nat) : Int) = 69) (w : World) :
    Calls Tryz.prog 28 #[.string T] w (ExpIs w (expU false (T.extract 1 T.size))) := by
  obtain ⟨V, hV⟩ : ∃ V, V = (T.extract 1 T.size) := ⟨_, rfl⟩
  have hs : V.size = T.size - 1 := by rw [hV]; simp [ByteArray.size_extract]
  have hd := jDigits V (by omega) w
  rw [← hV]
  cases hb : allDig V with
  | false =>
    rw [hb, hV] at hd
    have HP : Hid (ExpIs w (expU false V) (.returned (.tuple #[.int .i64 0, .bool false])) w) := Lib.hid (by rw [expU_bad hb]; exact ⟨rfl, rfl⟩)
    clear hb hs hV
    rcases hc with hc | hc
    all_goals
      go_enter Tryz.func28, Tryz.ntmps28
      go_wp2_with (go_at_call 47; (with_reducible refine hd.mono ?_); rintro e w1 ⟨rfl, rfl⟩)
      go_ret2
      exact HP.out
  | true =>
    by_cases hl : V.size ≤ 2
    · have hn := jNumber V (by omega) hb w
      have hx9 := dval_take_lt (digs_ten hb) (m := V.size) (by omega)
      rw [← digs_len, List.take_length] at hx9
      have hok := expU_ok (neg := false) hb hl
      rw [hb] at hd
      obtain ⟨x, hx⟩ : ∃ x, dval (digs V) = x := ⟨_, rfl⟩
      rw [hx] at hn hx9 hok
      have hx9' : x < 1000000000 := by omega
      have HP : Hid (ExpIs w (expU false V) (.returned (.tuple #[.int .i64 ((x : Int)), .bool true])) w) := Lib.hid (by rw [hok]; exact ⟨rfl, rfl⟩)
      have hl1 : decide (((T.size - 1 : Nat) : Int) > 2) = false := decide_eq_false (by omega)
      have hl2 : T.size - 1 ≤ 2 := by omega
      rw [hV] at hd hn
      clear hb hs hV hl hx9 hok hx
      rcases hc with hc | hc
      all_goals
        go_enter Tryz.func28, Tryz.ntmps28
        go_wp2_with (first | (go_at_call 47; (with_reducible refine hd.mono ?_); rintro e w1 ⟨rfl, rfl⟩) | (go_at_call 48; (with_reducible refine hn.mono ?_); rintro e w1 ⟨rfl, rfl⟩))
        go_ret2
        exact HP.out
    · have HP : Hid (ExpIs w (expU false V) (.returned (.tuple #[.int .i64 0, .bool false])) w) := Lib.hid (by rw [expU_long hl]; exact ⟨rfl, rfl⟩)
      rw [hb, hV] at hd
      have hl1 : decide (((T.size - 1 : Nat) : Int) > 2) = true := decide_eq_true (by omega)
      have hl2 : ¬ T.size - 1 ≤ 2 := by omega
      have hl3 : 2 < T.size - 1 := by omega
      clear hb hs hV hl
      rcases hc with hc | hc
      all_goals
        go_enter Tryz.func28, Tryz.ntmps28
        go_wp2_with (go_at_call 47; (with_reducible refine hd.mono ?_); rintro e w1 ⟨rfl, rfl⟩)
        go_ret2
        exact HP.out
end Go.Proofs.YtpmggjplfcjkkaaGreatDoor

/- spec.jExponent, whole. -/
set_option linter.unusedVariables false
set_option linter.unusedSimpArgs false
namespace Go.Proofs.YtpmggjplfcjkkaaGreatDoor
open Go.RowKit Nq

theorem empty_toList {T : ByteArray} (h : T.size = 0) : T.toList = [] := by
  rw [Lib.toList_data]
  exact List.eq_nil_of_length_eq_zero (by simpa using h)
theorem some_toList {T : ByteArray} (h : 0 < T.size) : ¬ T.toList = [] := by
  rw [Lib.toList_data]
  intro e
  have h2 : T.size = 0 := by
    show T.data.size = 0
    rw [← Array.length_toList, e]
    rfl
  omega
theorem isEmpty_of {T : ByteArray} (h : T.size = 0) : T.toList.isEmpty = true := by rw [empty_toList h]; rfl
theorem notEmpty_of {T : ByteArray} (h : 0 < T.size) : T.toList.isEmpty = false := by
  cases hl : T.toList with
  | nil => exact absurd hl (some_toList h)
  | cons a t => rfl
theorem byteAt_extract {T : ByteArray} {a b i : Nat} (hb : b ≤ T.size) (h : a + i < b) : byteAt (T.extract a b) i = byteAt T (a + i) := by
  have hs : i < (T.extract a b).size := by simp [ByteArray.size_extract]; omega
  have h1 := byteAt_list hs
  have h2 := byteAt_list (S := T) (i := a + i) (by omega)
  rw [Lib.extract_data, List.getElem?_take_of_lt (by omega), List.getElem?_drop, h2] at h1
  have h3 := Option.some.inj h1
  have h4 := congrArg UInt8.toNat h3
  have b1 := byteAt_lt hs
  have b2 := byteAt_lt (S := T) (i := a + i) (by omega)
  simp at h4
  omega

/-- What a text writes as an exponent. -/
def expF (T : ByteArray) : Option Int :=
  if T.size = 0 then some 0
  else if byteAt T 0 = 101 ∨ byteAt T 0 = 69 then
    if byteAt T 1 = 45 then expU true ((T.extract 1 T.size).extract 1 (T.size - 1))
    else if byteAt T 1 = 43 then expU false ((T.extract 1 T.size).extract 1 (T.size - 1))
    else expU false (T.extract 1 T.size)
  else none

set_option maxRecDepth 100000 in
set_option maxHeartbeats 2000000 in
theorem jExponent (T : ByteArray) (hS : T.size ≤ 2147483647) (w : World) : Calls Tryz.prog 28 #[.string T] w (ExpIs w (expF T)) := by
  by_cases h0 : T.size = 0
  · have HP : Hid (ExpIs w (expF T) (.returned (.tuple #[.int .i64 0, .bool true])) w) := Lib.hid (by unfold expF; rw [if_pos h0]; exact ⟨rfl, rfl⟩)
    have hE := isEmpty_of h0
    clear h0
    go_enter Tryz.func28, Tryz.ntmps28
    go_wp2_with fail
    go_ret2
    exact HP.out
  · have hp : 0 < T.size := by omega
    have hE := notEmpty_of hp
    by_cases hc : byteAt T 0 = 101 ∨ byteAt T 0 = 69
    · have hc' : (((T[0]'hp).toNat : Nat) : Int) = 101 ∨ (((T[0]'hp).toNat : Nat) : Int) = 69 := by
        rw [← byteAt_eq hp]; rcases hc with h | h <;> rw [h] <;> simp
      unfold expF
      rw [if_neg h0, if_pos hc]
      by_cases h1 : 0 < T.size - 1
      · have hx : 0 < (T.extract 1 T.size).size := by simp [ByteArray.size_extract]; omega
        have hb := byteAt_extract (T := T) (a := 1) (b := T.size) (i := 0) (Nat.le_refl _) (by omega)
        rw [byteAt_eq hx] at hb
        simp only [Nat.add_zero] at hb
        by_cases m1 : byteAt T 1 = 45
        · rw [if_pos m1]
          exact jExp_minus T hS hp hE h1 (notEmpty_of hx) (some_toList hx) hx (by rw [hb, m1]; rfl) hc' w
        · rw [if_neg m1]
          by_cases m2 : byteAt T 1 = 43
          · rw [if_pos m2]
            exact jExp_plus T hS hp hE h1 (notEmpty_of hx) (some_toList hx) hx (by rw [hb, m2]; rfl) hc' w
          · rw [if_neg m2]
            exact jExp_plain T hS hp hE h1 (notEmpty_of hx) (some_toList hx) hx (by rw [hb]; omega) (by rw [hb, beq_eq_false_iff_ne]; omega) (by rw [hb, beq_eq_false_iff_ne]; omega) hc' w
      · have e1 : byteAt T 1 = 256 := by unfold byteAt; rw [dif_neg (by omega)]
        have hx : (T.extract 1 T.size).size = 0 := by simp [ByteArray.size_extract]; omega
        rw [if_neg (by omega), if_neg (by omega)]
        exact jExp_none T hS hp hE h1 (isEmpty_of hx) (empty_toList hx) hc' w
    · have HP : Hid (ExpIs w (expF T) (.returned (.tuple #[.int .i64 0, .bool false])) w) := Lib.hid (by unfold expF; rw [if_neg h0, if_neg hc]; exact ⟨rfl, rfl⟩)
      rw [byteAt_eq hp] at hc
      have d1 : ((((T[0]'hp).toNat : Nat) : Int) != 101) = true := bne_iff_ne.mpr (by omega)
      have d2 : ((((T[0]'hp).toNat : Nat) : Int) != 69) = true := bne_iff_ne.mpr (by omega)
      clear hc h0
      go_enter Tryz.func28, Tryz.ntmps28
      go_wp2_with fail
      go_ret2
      exact HP.out
end Go.Proofs.YtpmggjplfcjkkaaGreatDoor

/- spec.jBare: digits without zeros ahead. -/
set_option linter.unusedVariables false
set_option linter.unusedSimpArgs false
namespace Go.Proofs.YtpmggjplfcjkkaaGreatDoor
open Go.RowKit Nq

def sizeOf' : Value → Nat
  | .string s => s.size
  | _ => 0
def bareN : Nat → ByteArray → ByteArray
  | 0, T => T
  | k + 1, T => if byteAt T 0 = 48 then bareN k (T.extract 1 T.size) else T
def bare (T : ByteArray) : ByteArray := bareN T.size T
theorem byteAt_pos {T : ByteArray} {c : Nat} (h : byteAt T 0 = c) (hc : c < 256) : 0 < T.size := by
  by_cases hp : 0 < T.size
  · exact hp
  · unfold byteAt at h; rw [dif_neg hp] at h; omega
theorem bare_step {T : ByteArray} (h : byteAt T 0 = 48) : bare T = bare (T.extract 1 T.size) := by
  have hp := byteAt_pos h (by decide)
  have hs : (T.extract 1 T.size).size = T.size - 1 := by simp [ByteArray.size_extract]
  unfold bare
  rw [hs]
  obtain ⟨k, hk⟩ : ∃ k, T.size = k + 1 := ⟨T.size - 1, by omega⟩
  rw [hk]
  show (if byteAt T 0 = 48 then _ else _) = _
  rw [if_pos h]
  simp [hk]
theorem bare_stop {T : ByteArray} (h : byteAt T 0 ≠ 48) : bare T = T := by
  unfold bare
  cases T.size with
  | zero => rfl
  | succ k => show (if byteAt T 0 = 48 then _ else _) = _; rw [if_neg h]

set_option maxRecDepth 100000 in
set_option maxHeartbeats 2000000 in
theorem jBare (T : ByteArray) (hS : T.size ≤ 2147483647) (w : World) : Calls Tryz.prog 35 #[.string T] w fun e w' => e = .returned (.string (bare T)) ∧ w = w' := by
  obtain ⟨r, hr⟩ : ∃ r, bare T = r := ⟨_, rfl⟩
  have HR := Lib.hid hr
  rw [hr]
  clear hr
  go_enter Tryz.func35, Tryz.ntmps35
  go_wp2
  go_loop [0] (fun v0 => ∃ U : ByteArray, U.size ≤ 2147483647 ∧ v0 = .string U ∧ Hid (bare U = r)) (fun v0 => sizeOf' v0)
  case atStart => exact ⟨T, hS, rfl, HR⟩
  case round =>
    clear HR
    obtain ⟨U, hU, rfl, H⟩ := hrel
    by_cases h0 : U.size = 0
    · have hE := isEmpty_of h0
      have hE' := empty_toList h0
      have HB : Hid (U = r) := Lib.hid (by rw [← H.out, bare_stop (by unfold byteAt; rw [dif_neg (by omega)]; decide)])
      go_wp2_with fail
      go_ret
      exact ⟨by rw [← HB.out]; rfl, rfl⟩
    · have hp : 0 < U.size := by omega
      have hE := notEmpty_of hp
      have hE' := some_toList hp
      by_cases hc : byteAt U 0 = 48
      · have HB : Hid (bare (U.extract 1 U.size) = r) := Lib.hid (by rw [← bare_step hc]; exact H.out)
        rw [byteAt_eq hp] at hc
        have d1 : (((U[0]'hp).toNat : Nat) : Int) = 48 := by omega
        clear hc h0
        go_wp2_with fail
        go_round
        case rel => exact ⟨U.extract 1 U.size, by simp [ByteArray.size_extract]; omega, rfl, HB⟩
        case measure => simp [sizeOf', ByteArray.size_extract]; omega
      · have HB : Hid (U = r) := Lib.hid (by rw [← H.out, bare_stop hc])
        rw [byteAt_eq hp] at hc
        have d1 : ((((U[0]'hp).toNat : Nat) : Int) == 48) = false := by rw [beq_eq_false_iff_ne]; omega
        clear hc h0
        go_wp2_with fail
        go_ret
        exact ⟨by rw [← HB.out]; rfl, rfl⟩
end Go.Proofs.YtpmggjplfcjkkaaGreatDoor

/- spec.jLean: a decimal without zeros at its ends (under way). -/
set_option linter.unusedVariables false
set_option linter.unusedSimpArgs false
namespace Go.Proofs.YtpmggjplfcjkkaaGreatDoor
open Go.RowKit Nq

def trimN : Nat → ByteArray → Int → ByteArray × Int
  | 0, U, x => (U, x)
  | k + 1, U, x => if 0 < U.size ∧ byteAt U (U.size - 1) = 48 then trimN k (U.extract 0 (U.size - 1)) (x + 1) else (U, x)
/-- A decimal's lean form: sign, digits, exponent. -/
def leanV (m : Bool) (D : ByteArray) (x : Int) : Bool × ByteArray × Int :=
  let t := trimN D.size (bare D) x
  if t.1.size = 0 then (false, ⟨#[]⟩, 0) else (m, t.1, t.2)

theorem bareN_size : ∀ (k : Nat) (T : ByteArray), (bareN k T).size ≤ T.size
  | 0, T => Nat.le_refl _
  | k + 1, T => by
    unfold bareN
    split
    · have := bareN_size k (T.extract 1 T.size)
      simp [ByteArray.size_extract] at this
      omega
    · exact Nat.le_refl _
theorem bare_size (T : ByteArray) : (bare T).size ≤ T.size := bareN_size _ _
theorem trimN_stop {k : Nat} {U : ByteArray} {x : Int} (h : ¬ (0 < U.size ∧ byteAt U (U.size - 1) = 48)) : trimN k U x = (U, x) := by
  cases k with
  | zero => rfl
  | succ k => unfold trimN; rw [if_neg h]
theorem trimN_step {k : Nat} {U : ByteArray} {x : Int} (h : 0 < U.size ∧ byteAt U (U.size - 1) = 48) : trimN (k + 1) U x = trimN k (U.extract 0 (U.size - 1)) (x + 1) := by
  rw [trimN, if_pos h]

set_option maxRecDepth 100000 in
set_option maxHeartbeats 4000000 in
theorem jLean (m : Bool) (D : ByteArray) (x : Int) (hD : D.size ≤ 1000) (hx : -1000 ≤ x ∧ x ≤ 1000) (w : World) : Calls Tryz.prog 29 #[.agg #[.bool m, .string D, .int .i64 x]] w fun e w' => e = .returned (.agg #[.bool (leanV m D x).1, .string (leanV m D x).2.1, .int .i64 (leanV m D x).2.2]) ∧ Fr [] w w' := by
  have h35 := fun w1 => jBare D (by omega) w1
  obtain ⟨R, hR⟩ : ∃ R, trimN D.size (bare D) x = R := ⟨_, rfl⟩
  have HR : Hid (leanV m D x = if R.1.size = 0 then (false, ⟨#[]⟩, 0) else (m, R.1, R.2)) := Lib.hid (by unfold leanV; rw [hR])
  have HT : Hid (trimN D.size (bare D) x = R ∧ (bare D).size ≤ D.size) := Lib.hid ⟨hR, bare_size D⟩
  have HF : Hid (∀ C : Array Value, Fr [] w ((w.alloc (.cells C 38)).alloc (.cells #[.bool false, .string ⟨#[]⟩, .int .i64 0] 38)) ∧ ∀ C2 : Array Value, Fr [] w ((w.alloc (.cells C 38)).alloc (.cells C2 38))) := Lib.hid fun C => ⟨((Fr.refl _ _).alloc _).alloc _, fun C2 => ((Fr.refl _ _).alloc _).alloc _⟩
  have hx1 := hx.1
  have hx2 := hx.2
  have hbs := bare_size D
  clear hR hx
  go_enter Tryz.func29, Tryz.ntmps29
  go_wp2_with (go_at_call 35; (with_reducible refine (h35 _).mono ?_); rintro e w1 ⟨rfl, rfl⟩)
  go_loopg [7] D.size (fun kq v7 wr => ∃ (U : ByteArray) (y : Int), -1000 ≤ y ∧ y + U.size ≤ 2000 ∧ U.size ≤ 1000 ∧ wr = (w.alloc (.cells #[.bool m, .string U, .int .i64 y] 38)).alloc (.cells #[.bool false, .string ⟨#[]⟩, .int .i64 0] 38) ∧ Hid (trimN kq U y = R ∧ U.size ≤ kq))
  case atStart => exact ⟨bare D, x, by omega, by omega, by omega, rfl, HT⟩
  case round =>
    clear HT
    obtain ⟨U, y, hy1, hy2, hU, rfl, H⟩ := hrel
    by_cases h0 : U.size = 0
    · have hE := isEmpty_of h0
      have hE' := empty_toList h0
      have HL : Hid (leanV m D x = (false, ⟨#[]⟩, 0)) := Lib.hid (by
        have h1 := H.out.1
        rw [trimN_stop (by omega)] at h1
        rw [HR.out, ← h1, if_pos h0])
      clear h0 hy2
      go_wp2_with fail
      exact bodyPost_ret (v := .agg #[.bool false, .string ⟨#[]⟩, .int .i64 0]) (by simp [results, Tryz.results29, go_sem]) rfl ⟨by rw [HL.out], (HF.out _).1⟩
    · have hp : 0 < U.size := by omega
      have hE := notEmpty_of hp
      have hE' := some_toList hp
      have hl : U.size - 1 < U.size := by omega
      by_cases hc : byteAt U (U.size - 1) = 48
      · have hg : gk ≠ 0 := by intro e; have := H.out.2; omega
        obtain ⟨k1, rfl⟩ : ∃ k, gk = k + 1 := ⟨gk - 1, by omega⟩
        have hes : (U.extract 0 (U.size - 1)).size = U.size - 1 := by simp [ByteArray.size_extract]
        have HN : Hid (trimN k1 (U.extract 0 (U.size - 1)) (y + 1) = R ∧ (U.extract 0 (U.size - 1)).size ≤ k1) := Lib.hid ⟨by rw [← trimN_step ⟨hp, hc⟩]; exact H.out.1, by have := H.out.2; omega⟩
        have HB : Hid (y + 1 + ((U.extract 0 (U.size - 1)).size : Int) ≤ 2000 ∧ (U.extract 0 (U.size - 1)).size ≤ 1000) := Lib.hid ⟨by omega, by omega⟩
        rw [byteAt_eq hl] at hc
        have d1 : (((U[U.size - 1]'hl).toNat : Nat) : Int) = 48 := by omega
        have hy3 : y ≤ 2000 := by omega
        clear hc h0 hg hes
        go_wp2_with fail
        go_roundg k1
        case measure => omega
        case rel => exact ⟨U.extract 0 (U.size - 1), y + 1, by omega, HB.out.1, HB.out.2, rfl, HN⟩
      · have HL : Hid (leanV m D x = (m, U, y)) := Lib.hid (by
          have h1 := H.out.1
          rw [trimN_stop (fun hh => hc hh.2)] at h1
          rw [HR.out, ← h1, if_neg h0])
        rw [byteAt_eq hl] at hc
        have d1 : ((((U[U.size - 1]'hl).toNat : Nat) : Int) == 48) = false := by rw [beq_eq_false_iff_ne]; omega
        clear hc h0 hy2
        go_wp2_with fail
        exact bodyPost_ret (v := .agg #[.bool m, .string U, .int .i64 y]) (by simp [results, Tryz.results29, go_sem]) rfl ⟨by rw [HL.out], (HF.out _).2 _⟩
end Go.Proofs.YtpmggjplfcjkkaaGreatDoor

/- spec.jDecimalOf (long, not plain). -/
set_option linter.unusedVariables false
set_option linter.unusedSimpArgs false
namespace Go.Proofs.YtpmggjplfcjkkaaGreatDoor
open Go.RowKit Nq

def decAt (S : ByteArray) : Nat := if byteAt S 0 = 45 then 1 else 0
def decWh (S : ByteArray) : Nat := run S (decAt S)
def decPart (S : ByteArray) : Nat := if byteAt S (decWh S) = 46 then run S (decWh S + 1) else decWh S
/-- What a text writes as a decimal. -/
def decF (S : ByteArray) : Option (Bool × ByteArray × Int) :=
  if 40 < S.size then none
  else if plainB (S.extract (decAt S) (decWh S)) = false then none
  else if byteAt S (decWh S) = 46 ∧ decPart S = decWh S + 1 then none
  else (expF (S.extract (decPart S) S.size)).map fun ex =>
    if decWh S < decPart S then leanV (decAt S == 1) (S.extract (decAt S) (decWh S) ++ S.extract (decWh S + 1) (decPart S)) (ex - (decPart S - decWh S - 1 : Nat))
    else leanV (decAt S == 1) (S.extract (decAt S) (decWh S)) ex
def decV : Option (Bool × ByteArray × Int) → Value
  | some r => .agg #[.bool r.1, .string r.2.1, .int .i64 r.2.2]
  | none => .agg #[.bool false, .string ⟨#[]⟩, .int .i64 0]
def DecPost (w : World) (r : Option (Bool × ByteArray × Int)) (e : Ending) (w' : World) : Prop := e = .returned (.tuple #[decV r, .bool r.isSome]) ∧ Fr [] w w'

set_option maxRecDepth 100000 in
set_option maxHeartbeats 4000000 in
theorem jDec_long (S : ByteArray) (hS : S.size ≤ 2147483647) (h : 40 < S.size) (w : World) : Calls Tryz.prog 15 #[.string S] w (DecPost w (decF S)) := by
  have HP : Hid (decF S = none) := Lib.hid (by unfold decF; rw [if_pos h])
  have hd : decide ((S.size : Int) > 40) = true := decide_eq_true (by omega)
  have HF : Hid (Fr [] w (w.alloc (.cells #[.bool false, .string ⟨#[]⟩, .int .i64 0] 38))) := Lib.hid ((Fr.refl _ _).alloc _)
  go_enter Tryz.func15, Tryz.ntmps15
  go_wp2_with fail
  exact bodyPost_ret (v := .tuple #[.agg #[.bool false, .string ⟨#[]⟩, .int .i64 0], .bool false]) (by simp [results, Tryz.results15, go_sem]) rfl (by rw [HP.out]; exact ⟨rfl, HF.out⟩)

theorem decAt_le (S : ByteArray) : decAt S ≤ S.size := by
  unfold decAt
  split
  · have := byteAt_pos (by assumption) (by decide); omega
  · omega
set_option maxRecDepth 100000 in
set_option maxHeartbeats 4000000 in
theorem jDec_notPlain (S : ByteArray) (h : S.size ≤ 40) (hp : plainB (S.extract (decAt S) (decWh S)) = false) (w : World) : Calls Tryz.prog 15 #[.string S] w (DecPost w (decF S)) := by
  have HP : Hid (decF S = none) := Lib.hid (by unfold decF; rw [if_neg (by omega), if_pos hp])
  have ha := decAt_le S
  have hr := run_spec S ha
  have hw1 : decAt S ≤ decWh S := hr.1
  have hw2 : decWh S ≤ S.size := hr.2.1
  have hd : decide ((S.size : Int) > 40) = false := decide_eq_false (by omega)
  have h26 := fun w1 => jRun S (decAt S) (by omega) ha w1
  have hes : (S.extract (decAt S) (decWh S)).size ≤ 2147483647 := by simp [ByteArray.size_extract]; omega
  have h27 := fun w1 => jPlain (S.extract (decAt S) (decWh S)) hes w1
  rw [hp] at h27
  have h26' : ∀ w1, Calls Tryz.prog 26 #[.string S, .int .i64 (decAt S)] w1 fun e w' => e = .returned (.int .i64 (decWh S)) ∧ w1 = w' := h26
  have HA : Hid ((0 < S.size ∧ byteAt S 0 = 45 ∧ decAt S = 1) ∨ (byteAt S 0 ≠ 45 ∧ decAt S = 0)) := Lib.hid (by
    by_cases e : byteAt S 0 = 45
    · left; exact ⟨byteAt_pos e (by decide), e, by unfold decAt; rw [if_pos e]⟩
    · right; exact ⟨e, by unfold decAt; rw [if_neg e]⟩)
  obtain ⟨a, haa⟩ : ∃ a, decAt S = a := ⟨_, rfl⟩
  obtain ⟨b, hbb⟩ : ∃ b, decWh S = b := ⟨_, rfl⟩
  rw [haa] at hw1 h26' h27 HA
  rw [hbb] at hw1 hw2 h26' h27
  clear hp ha hr h26 hes haa hbb
  go_enter Tryz.func15, Tryz.ntmps15
  go_upto_region 4 with fail
  generalize hw0 : World.alloc w _ = w0 at *
  have HF : Hid (Fr [] w w0 ∧ w0 = w.alloc (.cells #[.bool false, .string ⟨#[]⟩, .int .i64 0] 38)) := Lib.hid ⟨by rw [← hw0]; exact (Fr.refl _ _).alloc _, hw0.symm⟩
  clear hw0
  obtain ⟨sb, hsb⟩ : ∃ sb : Bool, sb = (a == 1) := ⟨_, rfl⟩
  go_cut [20] (fun v20 wc => v20 = .bool sb ∧ w0 = wc)
  case first =>
    rcases HA.out with ⟨hp0, hb45, rfl⟩ | ⟨hn45, rfl⟩
    · have hE := notEmpty_of hp0
      have hE' := some_toList hp0
      rw [byteAt_eq hp0] at hb45
      have d1 : (((S[0]'hp0).toNat : Nat) : Int) = 45 := by omega
      obtain rfl : sb = true := hsb
      clear hb45 HA
      go_wp2_with fail
      go_meet
      exact ⟨rfl, rfl⟩
    · obtain rfl : sb = false := hsb
      by_cases h0 : S.size = 0
      · have hE := isEmpty_of h0
        have hE' := empty_toList h0
        clear HA hn45 h0
        go_wp2_with fail
        go_meet
        exact ⟨rfl, rfl⟩
      · have hp0 : 0 < S.size := by omega
        have hE := notEmpty_of hp0
        have hE' := some_toList hp0
        rw [byteAt_eq hp0] at hn45
        have d1 : ((((S[0]'hp0).toNat : Nat) : Int) == 45) = false := by rw [beq_eq_false_iff_ne]; omega
        clear hn45 HA h0
        go_wp2_with fail
        go_meet
        exact ⟨rfl, rfl⟩
  case rest =>
    obtain ⟨rfl, rfl⟩ := hcut
    go_upto_if 20 with fail
    go_cut [4] (fun v4 wc => v4 = .int .i64 a ∧ w0 = wc)
    case first =>
      rcases HA.out with ⟨hp0, hb45, rfl⟩ | ⟨hn45, rfl⟩
      · obtain rfl : sb = true := hsb
        go_wp2_with fail
        go_meet
        exact ⟨rfl, rfl⟩
      · obtain rfl : sb = false := hsb
        go_wp2_with fail
        go_meet
        exact ⟨rfl, rfl⟩
    case rest =>
      obtain ⟨rfl, rfl⟩ := hcut
      clear hsb HA
      obtain ⟨_, rfl⟩ := HF.out
      go_wp2_with (first | (go_at_call 26; (with_reducible refine (h26' _).mono ?_); rintro e w2 ⟨rfl, rfl⟩) | (go_at_call 27; (with_reducible refine (h27 _).mono ?_); rintro e w2 ⟨rfl, rfl⟩))
      exact bodyPost_ret (v := .tuple #[.agg #[.bool false, .string ⟨#[]⟩, .int .i64 0], .bool false]) (by simp [results, Tryz.results15, go_sem]) rfl (by rw [HP.out]; exact ⟨rfl, ((Fr.refl _ _).alloc _)⟩)
end Go.Proofs.YtpmggjplfcjkkaaGreatDoor
