/- Contracts of the divisions of two words by one. -/
import Derived.Deep.QuietTactic
import Derived.BigQuiet
import Derived.Test.YtpmggjplfcjkkaaGreatDoorZ05
import Derived.Deep.DeepCutAuto
import Derived.Deep.CutBlock
set_option linter.unusedVariables false
set_option linter.unusedSimpArgs false
namespace Go.Proofs.YtpmggjplfcjkkaaGreatDoor
open Go.RowKit Nq

/-! ### Leading zeros -/
noncomputable def nlzW (x : Nat) : Nat := 64 - Lib.bitLen x

theorem bitLenAux_spec : ∀ (f x : Nat), x < 2 ^ f → x < 2 ^ Lib.bitLenAux f x ∧ (0 < x → 2 ^ Lib.bitLenAux f x ≤ 2 * x) ∧ Lib.bitLenAux f x ≤ f := by
  intro f
  induction f with
  | zero => intro x hx; simp at hx; subst hx; simp [Lib.bitLenAux]
  | succ f ih =>
    intro x hx
    unfold Lib.bitLenAux
    split
    · rename_i h; subst h; simp
    · rename_i h
      have h1 := ih (x / 2) (by rw [Nat.pow_succ] at hx; omega)
      rw [show 1 + Lib.bitLenAux f (x / 2) = Lib.bitLenAux f (x / 2) + 1 by omega, Nat.pow_succ]
      refine ⟨by omega, fun _ => ?_, by omega⟩
      by_cases hx2 : x / 2 = 0
      · have : Lib.bitLenAux f (x / 2) = 0 := by
          rw [hx2]; cases f <;> simp [Lib.bitLenAux]
        rw [this]; omega
      · have := h1.2.1 (by omega); omega

theorem nlzW_spec {x : Nat} (hx : x < Bw) (h0 : 0 < x) : nlzW x < 64 ∧ Bw ≤ 2 * (x * 2 ^ nlzW x) ∧ x * 2 ^ nlzW x < Bw := by
  rw [Bw_pow] at hx
  have h := bitLenAux_spec 64 x hx
  have hl : Lib.bitLen x = Lib.bitLenAux 64 x := rfl
  rw [← hl] at h
  obtain ⟨h1, h2, h3⟩ := h
  have h2 := h2 h0
  have hb : 0 < Lib.bitLen x := by
    apply Nat.pos_of_ne_zero; intro e; rw [e] at h1; simp at h1; omega
  have hn : nlzW x = 64 - Lib.bitLen x := rfl
  rw [hn]
  generalize Lib.bitLen x = b at *
  have e : Bw = 2 ^ b * 2 ^ (64 - b) := by rw [Bw_pow, ← Nat.pow_add, show b + (64 - b) = 64 by omega]
  refine ⟨by omega, ?_, ?_⟩
  · rw [e]
    have := Nat.mul_le_mul_right (2 ^ (64 - b)) h2
    rw [Nat.mul_assoc] at this; exact this
  · rw [e]
    exact Nat.mul_lt_mul_of_pos_right h1 (Nat.two_pow_pos _)

set_option maxRecDepth 100000 in
set_option maxHeartbeats 400000 in
theorem nlz (x : Nat) (hx : x < Bw) (w : World) : Calls Tryz.prog 121 #[.int .u64 x] w fun e w' => e = .returned (.int .u64 (nlzW x : Int)) ∧ w = w' := by
  have hle : Lib.bitLen x ≤ 64 := (bitLenAux_spec 64 x (by rw [Bw_pow] at hx; exact hx)).2.2
  have hb : ((x : Int) ≤ 18446744073709551615) := by rw [Bw_eq] at hx; omega
  have hc := Lib.hid (Tryz.bits_LeadingZeros (x : Int) w (by omega) hb)
  have he : ((64 : Int) - ((Lib.bitLen x : Nat) : Int)) = ((nlzW x : Nat) : Int) := by unfold nlzW; omega
  have hn : nlzW x ≤ 64 := by unfold nlzW; omega
  rw [Int.toNat_natCast, he] at hc
  clear hle hb he hx
  go_enter Tryz.func121, Tryz.ntmps121
  go_wp2_with (go_at_call 180; refine hc.out.mono ?_; rintro e w' ⟨rfl, rfl⟩)
  go_ret
  exact ⟨rfl, rfl⟩

/-- Whether two words are more than two others. -/
def gtW (x1 x2 y1 y2 : Nat) : Bool := decide (y1 < x1) || (decide (x1 = y1) && decide (y2 < x2))
theorem gtW_iff {x1 x2 y1 y2 B : Nat} (hx : x2 < B) (hy : y2 < B) : gtW x1 x2 y1 y2 = true ↔ y1 * B + y2 < x1 * B + x2 := by
  simp only [gtW, Bool.or_eq_true, decide_eq_true_eq, Bool.and_eq_true]
  constructor
  · rintro (h | ⟨rfl, h⟩)
    · have : (y1 + 1) * B ≤ x1 * B := Nat.mul_le_mul_right _ h
      rw [Nat.add_mul] at this; omega
    · omega
  · intro h
    by_cases h1 : y1 < x1
    · exact .inl h1
    · by_cases h2 : x1 = y1
      · subst h2; exact .inr ⟨rfl, by omega⟩
      · have : (x1 + 1) * B ≤ y1 * B := Nat.mul_le_mul_right _ (by omega)
        rw [Nat.add_mul] at this; omega

theorem retb {a b : Bool} (h : a = b) : Ending.returned (.bool a) = .returned (.bool b) := by rw [h]

set_option maxRecDepth 100000 in
set_option maxHeartbeats 400000 in
theorem greaterThan (x1 x2 y1 y2 : Nat) (w : World) : Calls Tryz.prog 223 #[.int .u64 x1, .int .u64 x2, .int .u64 y1, .int .u64 y2] w fun e w' => e = .returned (.bool (gtW x1 x2 y1 y2)) ∧ w = w' := by
  by_cases h1 : y1 < x1
  · have hg : Hid (true = gtW x1 x2 y1 y2) := by simp [Hid, gtW, h1]
    go_enter Tryz.func223, Tryz.ntmps223
    go_wp2
    go_ret
    exact ⟨retb hg.out, rfl⟩
  · by_cases h2 : x1 = y1
    · subst h2
      have hg : Hid (decide (y2 < x2) = gtW x1 x2 x1 y2) := by simp [Hid, gtW]
      go_enter Tryz.func223, Tryz.ntmps223
      go_wp2
      go_ret
      exact ⟨retb (by rw [← hg.out]), rfl⟩
    · have hg : Hid (false = gtW x1 x2 y1 y2) := by simp [Hid, gtW, h1, h2]
      have h3 : ((x1 : Int) == (y1 : Int)) = false := by simp; omega
      go_enter Tryz.func223, Tryz.ntmps223
      go_wp2
      go_ret
      exact ⟨retb (by rw [← hg.out]), rfl⟩

/-! ### divWW -/
theorem mul_lt_sq {a b B : Nat} (ha : a < B) (hb : b < B) : a * B + b < B * B := by
  have : (a + 1) * B ≤ B * B := Nat.mul_le_mul_right _ ha
  grind

theorem divWW_t {X1 X0 d m : Nat} (hd : d < Bw) (hx1 : X1 < d) (hx0 : X0 < Bw) (hm1 : (m + Bw) * d ≤ Bw * Bw - 1) (hmw : m < Bw) :
    addLo (mulHi m X1) X1 (addHi (mulLo m X1) X0 0) * Bw ≤ X1 * (m + Bw) + X0 ∧ X1 * (m + Bw) + X0 < (addLo (mulHi m X1) X1 (addHi (mulLo m X1) X0 0) + 1) * Bw := by
  have hB := Bw_pos
  have e1 := mul_eq m X1
  have e2 := add_eq (mulLo m X1) X0 0
  have e3 := add_eq (mulHi m X1) X1 (addHi (mulLo m X1) X0 0)
  have l1 := addLo_lt (mulLo m X1) X0 0
  have l2 := addLo_lt (mulHi m X1) X1 (addHi (mulLo m X1) X0 0)
  generalize addLo (mulHi m X1) X1 (addHi (mulLo m X1) X0 0) = t at *
  generalize addHi (mulHi m X1) X1 (addHi (mulLo m X1) X0 0) = h at *
  generalize addLo (mulLo m X1) X0 0 = lo at *
  generalize addHi (mulLo m X1) X0 0 = c at *
  generalize mulLo m X1 = p at *
  generalize mulHi m X1 = q at *
  have h1 : X1 * (m + Bw) + (m + Bw) ≤ Bw * Bw - 1 := by
    have : (X1 + 1) * (m + Bw) ≤ d * (m + Bw) := Nat.mul_le_mul_right _ hx1
    rw [Nat.mul_comm d] at this
    rw [Nat.add_mul, Nat.one_mul] at this
    omega
  have hBB : 1 ≤ Bw * Bw := Nat.mul_pos hB hB
  have hT : X1 * (m + Bw) + X0 < Bw * Bw := by omega
  have hT2 : X1 * (m + Bw) + X0 = (t + Bw * h) * Bw + lo := by
    generalize Bw = B at *
    grind
  have hh : h = 0 := by
    apply Nat.eq_zero_of_not_pos
    intro hp
    have : Bw * Bw * 1 ≤ Bw * Bw * h := Nat.mul_le_mul_left _ hp
    generalize Bw = B at *
    grind
  subst hh
  generalize Bw = B at *
  refine ⟨by grind, by grind⟩

theorem divWW_r {X1 X0 d t : Nat} (hd : d < Bw) (hx1 : X1 < d) (hx0 : X0 < Bw) (ht : t < Bw) (h1 : d * t ≤ X1 * Bw + X0) (h2 : X1 * Bw + X0 < d * t + Bw + d) :
    subLo X1 (mulHi d t) (subHi X0 (mulLo d t) 0) * Bw + subLo X0 (mulLo d t) 0 = X1 * Bw + X0 - d * t := by
  have hB := Bw_pos
  have e1 := mul_eq d t
  have e2 := sub_eq hx0 (mulLo_lt d t) (c := 0) (by omega)
  have e3 := sub_eq (Nat.lt_trans hx1 hd) (mulHi_lt hd ht) (subHi_le X0 (mulLo d t) 0)
  have l1 := subLo_lt X0 (mulLo d t) 0
  have l2 := subLo_lt X1 (mulHi d t) (subHi X0 (mulLo d t) 0)
  generalize subLo X1 (mulHi d t) (subHi X0 (mulLo d t) 0) = r1 at *
  generalize subHi X1 (mulHi d t) (subHi X0 (mulLo d t) 0) = b2 at *
  generalize subLo X0 (mulLo d t) 0 = r0 at *
  generalize subHi X0 (mulLo d t) 0 = b at *
  generalize mulLo d t = p at *
  generalize mulHi d t = q at *
  have hs := mul_lt_sq l2 l1
  have hr : r1 * Bw + r0 + d * t = X1 * Bw + X0 + Bw * Bw * b2 := by
    generalize Bw = B at *
    grind
  have hb2 : b2 = 0 := by
    apply Nat.eq_zero_of_not_pos
    intro hp
    have : Bw * Bw * 1 ≤ Bw * Bw * b2 := Nat.mul_le_mul_left _ hp
    omega
  subst hb2
  omega

theorem sub_small {a b : Nat} (ha : a < Bw) (hb : b ≤ a) : subLo a b 0 = a - b := by
  unfold subLo
  rw [Nat.sub_zero, show a + Bw - b = (a - b) + Bw by omega, Nat.add_mod_right, Nat.mod_eq_of_lt (by omega)]
theorem sub_wrapped {a b : Nat} (hb : b < Bw) (h : a < b) : subLo a b 0 = a + Bw - b := by
  unfold subLo
  rw [Nat.sub_zero, Nat.mod_eq_of_lt (by omega)]

/-- The four ways through divWW behind its guess. -/
theorem divWW_ways {X1 X0 d m : Nat} (hdd : Bw ≤ 2 * d) (hd : d < Bw) (hx1 : X1 < d) (hx0 : X0 < Bw) (hm : m + Bw = (Bw * Bw - 1) / d) (hmw : m < Bw) :
    ∃ t r0 r1, t = addLo (mulHi m X1) X1 (addHi (mulLo m X1) X0 0) ∧ r0 = subLo X0 (mulLo d t) 0 ∧ r1 = subLo X1 (mulHi d t) (subHi X0 (mulLo d t) 0) ∧ t < Bw ∧
      ((r1 = 0 ∧ r0 < d ∧ (X1 * Bw + X0) / d = t ∧ (X1 * Bw + X0) % d = r0) ∨ (r1 = 0 ∧ d ≤ r0 ∧ t + 1 < Bw ∧ (X1 * Bw + X0) / d = t + 1 ∧ (X1 * Bw + X0) % d = subLo r0 d 0) ∨
       (r1 ≠ 0 ∧ t + 1 < Bw ∧ subLo r0 d 0 < d ∧ (X1 * Bw + X0) / d = t + 1 ∧ (X1 * Bw + X0) % d = subLo r0 d 0) ∨
       (r1 ≠ 0 ∧ t + 1 < Bw ∧ t + 1 + 1 < Bw ∧ d ≤ subLo r0 d 0 ∧ (X1 * Bw + X0) / d = t + 1 + 1 ∧ (X1 * Bw + X0) % d = subLo (subLo r0 d 0) d 0)) := by
  refine ⟨_, _, _, rfl, rfl, rfl, addLo_lt _ _ _, ?_⟩
  have hd0 : 0 < d := by omega
  obtain ⟨m1, m2⟩ := rec_bounds hd0 hm
  obtain ⟨t1, t2⟩ := divWW_t hd hx1 hx0 m1 hmw
  have ht := addLo_lt (mulHi m X1) X1 (addHi (mulLo m X1) X0 0)
  generalize addLo (mulHi m X1) X1 (addHi (mulLo m X1) X0 0) = t at *
  obtain ⟨g1, g2⟩ := recip_guess Bw_pos hd hx1 hx0 m1 m2 t1 t2
  have hr := divWW_r hd hx1 hx0 ht g1 g2
  have l1 := subLo_lt X0 (mulLo d t) 0
  generalize subLo X1 (mulHi d t) (subHi X0 (mulLo d t) 0) = r1 at *
  generalize subLo X0 (mulLo d t) 0 = r0 at *
  have hmend := recip_mend hdd hd g1 g2
  have hq : (X1 * Bw + X0) / d < Bw := by
    rw [Nat.div_lt_iff_lt_mul hd0]
    have : (X1 + 1) * Bw ≤ d * Bw := Nat.mul_le_mul_right _ hx1
    rw [Nat.add_mul, Nat.one_mul] at this
    rw [Nat.mul_comm Bw]; omega
  generalize hn : X1 * Bw + X0 = n at *
  by_cases hr1 : r1 = 0
  · subst hr1
    rw [Nat.zero_mul, Nat.zero_add] at hr
    by_cases hlt : r0 < d
    · obtain ⟨a, b⟩ := hmend t r0 (by rw [if_pos (by omega), hr])
      exact .inl ⟨rfl, hlt, a, b⟩
    · obtain ⟨a, b⟩ := hmend (t + 1) (r0 - d) (by rw [if_neg (by omega), if_pos (by omega), hr])
      exact .inr (.inl ⟨rfl, by omega, by omega, a, by rw [sub_small l1 (by omega)]; exact b⟩)
  · have hr1' : r1 = 1 := by
      have : r1 * Bw < 2 * Bw := by omega
      have := Nat.lt_of_mul_lt_mul_right this
      omega
    subst hr1'
    rw [Nat.one_mul] at hr
    have e : subLo r0 d 0 = r0 + Bw - d := sub_wrapped hd (by omega)
    by_cases hlt : subLo r0 d 0 < d
    · obtain ⟨a, b⟩ := hmend (t + 1) (subLo r0 d 0) (by rw [if_neg (by omega), if_pos (by omega), e]; congr 1; omega)
      exact .inr (.inr (.inl ⟨hr1, by omega, hlt, a, b⟩))
    · have l2 := subLo_lt r0 d 0
      obtain ⟨a, b⟩ := hmend (t + 2) (subLo r0 d 0 - d) (by rw [if_neg (by omega), if_neg (by omega), e]; congr 1; omega)
      exact .inr (.inr (.inr ⟨hr1, by omega, by omega, by omega, a, by rw [sub_small l2 (by omega)]; exact b⟩))
/-! ### The walks -/
theorem wrap_sub (a b : Nat) (ha : a < Bw) (hb : b < Bw) : IntKind.u64.wrap ((a : Int) - (b : Int)) = (subLo a b 0 : Int) := by
  by_cases h : b ≤ a
  · rw [sub_small ha h, ← wrap_u64 (a - b) (by omega)]
    congr 1; omega
  · rw [sub_wrapped hb (by omega)]
    simp only [IntKind.wrap, IntKind.bits, IntKind.signed, Bool.false_and, Bool.false_eq_true, if_false]
    have e := Bw_eq
    omega
theorem wrap_mul (a b : Nat) : IntKind.u64.wrap ((a : Int) * (b : Int)) = (mulLo a b : Int) := by
  simp only [IntKind.wrap, IntKind.bits, IntKind.signed, Bool.false_and, Bool.false_eq_true, if_false]
  unfold mulLo
  rw [Bw_pow]
  simp

/-- The reciprocal of a word. -/
noncomputable def recW (y : Nat) : Nat := (Bw * Bw - 1) / (y * 2 ^ nlzW y) - Bw
noncomputable def divQ (x1 x0 y : Nat) : Nat := (x1 * Bw + x0) / y
noncomputable def divR (x1 x0 y : Nat) : Nat := (x1 * Bw + x0) % y
theorem divR_lt {x1 x0 y : Nat} (h : 0 < y) : divR x1 x0 y < y := Nat.mod_lt _ h
theorem divQ_lt {x1 x0 y : Nat} (h : x1 < y) (hx0 : x0 < Bw) : divQ x1 x0 y < Bw := by
  unfold divQ
  rw [Nat.div_lt_iff_lt_mul (by omega)]
  have : (x1 + 1) * Bw ≤ y * Bw := Nat.mul_le_mul_right _ h
  rw [Nat.add_mul, Nat.one_mul] at this
  rw [Nat.mul_comm Bw]; omega
theorem div_eq (x1 x0 y : Nat) : y * divQ x1 x0 y + divR x1 x0 y = x1 * Bw + x0 := Nat.div_add_mod _ _

theorem recW_spec {y : Nat} (hy : y < Bw) (h0 : 0 < y) : recW y + Bw = (Bw * Bw - 1) / (y * 2 ^ nlzW y) ∧ recW y < Bw := by
  obtain ⟨h1, h2, h3⟩ := nlzW_spec hy h0
  have hB := Bw_pos
  generalize hd : y * 2 ^ nlzW y = d at *
  have hd0 : 0 < d := by omega
  have ge : Bw ≤ (Bw * Bw - 1) / d := by
    rw [Nat.le_div_iff_mul_le hd0]
    have : Bw * (d + 1) ≤ Bw * Bw := Nat.mul_le_mul_left _ h3
    rw [Nat.mul_add] at this; omega
  have lt : (Bw * Bw - 1) / d < 2 * Bw := by
    rw [Nat.div_lt_iff_lt_mul hd0]
    have : Bw * Bw ≤ Bw * (2 * d) := Nat.mul_le_mul_left _ h2
    have e : 2 * Bw * d = Bw * (2 * d) := by grind
    have : 1 ≤ Bw * Bw := Nat.mul_pos hB hB
    rw [e]
    omega
  unfold recW
  rw [hd]
  omega

set_option maxRecDepth 100000 in
set_option maxHeartbeats 1000000 in
/-- divWW at a divisor that is shifted already. -/
theorem divWW_norm (x1 x0 y : Nat) (hy : y < Bw) (hyn : Bw ≤ 2 * y) (hx1 : x1 < y) (hx0 : x0 < Bw) (w : World) :
    Calls Tryz.prog 222 #[.int .u64 x1, .int .u64 x0, .int .u64 y, .int .u64 (recW y)] w fun e w' => e = .returned (.tuple #[.int .u64 (divQ x1 x0 y : Int), .int .u64 (divR x1 x0 y : Int)]) ∧ w = w' := by
  have h0 : 0 < y := by have := Bw_pos; omega
  obtain ⟨s1, s2, s3⟩ := nlzW_spec hy h0
  have hs0 : nlzW y = 0 := by
    apply Nat.eq_zero_of_not_pos
    intro hp
    have : 2 ^ 1 ≤ 2 ^ nlzW y := Nat.pow_le_pow_right (by omega) hp
    have : y * 2 ≤ y * 2 ^ nlzW y := Nat.mul_le_mul_left _ this
    omega
  obtain ⟨r1, r2⟩ := recW_spec hy h0
  rw [hs0, Nat.pow_zero, Nat.mul_one] at r1
  obtain ⟨t, ra, rb, ht, hra, hrb, htw, hw⟩ := divWW_ways hyn hy hx1 hx0 r1 r2
  have hq : (x1 * Bw + x0) / y = divQ x1 x0 y := rfl
  have hr : (x1 * Bw + x0) % y = divR x1 x0 y := rfl
  rw [hq, hr] at hw
  have hz : ∀ w, Calls Tryz.prog 121 #[.int .u64 y] w fun e w' => e = .returned (.int .u64 0) ∧ w = w' := by
    intro w
    have h := nlz y hy w
    rw [hs0] at h
    exact h
  have hz' := Lib.hid hz
  clear hz
  have x1w : x1 < Bw := by omega
  have hraw : ra < Bw := by rw [hra]; exact subLo_lt _ _ _
  have hc1 : addHi (mulLo (recW y) x1) x0 0 ≤ 1 := addHi_le (mulLo_lt _ _) hx0 (by omega)
  have hc2 : subHi x0 (mulLo y t) 0 ≤ 1 := subHi_le _ _ _
  have t1 := ht.symm
  have k1 := hra.symm
  have k2 := hrb.symm
  have yw := hy
  clear ht hra hrb s1 s2 s3 hs0 r1 hq hr hyn hx1 h0 hy
  have hw1 := wrap_sub ra y hraw yw
  have hw2 := wrap_sub (subLo ra y 0) y (subLo_lt _ _ _) yw
  rcases hw with ⟨b0, b1, b2, b3⟩ | ⟨b0, b1, b2, b3, b4⟩ | ⟨b0, b1, b2, b3, b4⟩ | ⟨b0, b1, b2, b3, b4, b5⟩
  · have B2 := Lib.hid b2
    have B3 := Lib.hid b3
    clear b2 b3
    rw [b0] at k2
    clear b0
    go_enter Tryz.func222, Tryz.ntmps222
    go_wp2_with (first | (go_at_call 121; (with_reducible refine (hz'.out _).mono ?_); rintro e w' ⟨rfl, rfl⟩) | (go_at_call 215; (with_reducible refine (bitsMul _ _ (by assumption) (by assumption) _).mono ?_); rintro e w' ⟨rfl, rfl⟩) | (go_at_call 196; (with_reducible refine (bitsAdd0 _ _ _).mono ?_); rintro e w' ⟨rfl, rfl⟩) | (go_at_call 196; (with_reducible refine (bitsAdd _ _ _ hc1 _).mono ?_); rintro e w' ⟨rfl, rfl⟩) | (go_at_call 230; (with_reducible refine (bitsSub0 _ _ _).mono ?_); rintro e w' ⟨rfl, rfl⟩) | (go_at_call 230; (with_reducible refine (bitsSub _ _ _ hc2 _).mono ?_); rintro e w' ⟨rfl, rfl⟩))
    go_ret2
    exact ⟨ret2 (by rw [B2.out]) (by rw [B3.out]), rfl⟩
  · have B2 := Lib.hid b3
    have B3 := Lib.hid b4
    have hp1 : IntKind.u64.wrap ((t : Int) + 1) = (t : Int) + 1 := wrap_u64 (t + 1) b2
    clear b3 b4
    rw [b0] at k2
    clear b0
    go_enter Tryz.func222, Tryz.ntmps222
    go_wp2_with (first | (go_at_call 121; (with_reducible refine (hz'.out _).mono ?_); rintro e w' ⟨rfl, rfl⟩) | (go_at_call 215; (with_reducible refine (bitsMul _ _ (by assumption) (by assumption) _).mono ?_); rintro e w' ⟨rfl, rfl⟩) | (go_at_call 196; (with_reducible refine (bitsAdd0 _ _ _).mono ?_); rintro e w' ⟨rfl, rfl⟩) | (go_at_call 196; (with_reducible refine (bitsAdd _ _ _ hc1 _).mono ?_); rintro e w' ⟨rfl, rfl⟩) | (go_at_call 230; (with_reducible refine (bitsSub0 _ _ _).mono ?_); rintro e w' ⟨rfl, rfl⟩) | (go_at_call 230; (with_reducible refine (bitsSub _ _ _ hc2 _).mono ?_); rintro e w' ⟨rfl, rfl⟩))
    go_ret2
    exact ⟨ret2 (by rw [B2.out]; rfl) (by rw [B3.out]), rfl⟩
  · have B2 := Lib.hid b3
    have B3 := Lib.hid b4
    have hp1 : IntKind.u64.wrap ((t : Int) + 1) = (t : Int) + 1 := wrap_u64 (t + 1) b1
    have hrb : (((rb : Nat) : Int) != 0) = true := by rw [bne_iff_ne]; omega
    clear b3 b4 b0
    go_enter Tryz.func222, Tryz.ntmps222
    go_wp2_with (first | (go_at_call 121; (with_reducible refine (hz'.out _).mono ?_); rintro e w' ⟨rfl, rfl⟩) | (go_at_call 215; (with_reducible refine (bitsMul _ _ (by assumption) (by assumption) _).mono ?_); rintro e w' ⟨rfl, rfl⟩) | (go_at_call 196; (with_reducible refine (bitsAdd0 _ _ _).mono ?_); rintro e w' ⟨rfl, rfl⟩) | (go_at_call 196; (with_reducible refine (bitsAdd _ _ _ hc1 _).mono ?_); rintro e w' ⟨rfl, rfl⟩) | (go_at_call 230; (with_reducible refine (bitsSub0 _ _ _).mono ?_); rintro e w' ⟨rfl, rfl⟩) | (go_at_call 230; (with_reducible refine (bitsSub _ _ _ hc2 _).mono ?_); rintro e w' ⟨rfl, rfl⟩))
    go_ret2
    exact ⟨ret2 (by rw [B2.out]; rfl) (by rw [B3.out]), rfl⟩
  · have B2 := Lib.hid b4
    have B3 := Lib.hid b5
    have hp1 : IntKind.u64.wrap ((t : Int) + 1) = (t : Int) + 1 := wrap_u64 (t + 1) b1
    have hp2 : IntKind.u64.wrap ((t : Int) + 1 + 1) = (t : Int) + 1 + 1 := wrap_u64 (t + 1 + 1) b2
    have hp3 : IntKind.u64.wrap ((t : Int) + 2) = (t : Int) + 1 + 1 := wrap_u64 (t + 1 + 1) b2
    have hrb : (((rb : Nat) : Int) != 0) = true := by rw [bne_iff_ne]; omega
    clear b4 b5 b0
    go_enter Tryz.func222, Tryz.ntmps222
    go_wp2_with (first | (go_at_call 121; (with_reducible refine (hz'.out _).mono ?_); rintro e w' ⟨rfl, rfl⟩) | (go_at_call 215; (with_reducible refine (bitsMul _ _ (by assumption) (by assumption) _).mono ?_); rintro e w' ⟨rfl, rfl⟩) | (go_at_call 196; (with_reducible refine (bitsAdd0 _ _ _).mono ?_); rintro e w' ⟨rfl, rfl⟩) | (go_at_call 196; (with_reducible refine (bitsAdd _ _ _ hc1 _).mono ?_); rintro e w' ⟨rfl, rfl⟩) | (go_at_call 230; (with_reducible refine (bitsSub0 _ _ _).mono ?_); rintro e w' ⟨rfl, rfl⟩) | (go_at_call 230; (with_reducible refine (bitsSub _ _ _ hc2 _).mono ?_); rintro e w' ⟨rfl, rfl⟩))
    go_ret2
    exact ⟨ret2 (by rw [B2.out]; rfl) (by rw [B3.out]), rfl⟩

/-- The words of a number that is shifted to the left. -/
theorem shift_two {x1 x0 y s : Nat} (hs : s ≤ 64) (hx0 : x0 < Bw) (hlt : x1 < y) (hd : y * 2 ^ s < Bw) :
    shlW y s = y * 2 ^ s ∧ shlW x1 s + shrW x0 (64 - s) < y * 2 ^ s ∧ (shlW x1 s + shrW x0 (64 - s)) * Bw + shlW x0 s = (x1 * Bw + x0) * 2 ^ s := by
  have hp := Nat.two_pow_pos s
  have h1 := shl_shr (x := x0) hs
  have h2 := shrW_small hx0 hs
  have hx1 : x1 * 2 ^ s < Bw := Nat.lt_of_le_of_lt (Nat.mul_le_mul_right _ (Nat.le_of_lt hlt)) hd
  have e1 : shlW x1 s = x1 * 2 ^ s := by unfold shlW; rw [Nat.min_eq_left hs, Nat.mod_eq_of_lt hx1]
  have e2 : shlW y s = y * 2 ^ s := by unfold shlW; rw [Nat.min_eq_left hs, Nat.mod_eq_of_lt hd]
  refine ⟨e2, ?_, ?_⟩
  · rw [e1]
    have : (x1 + 1) * 2 ^ s ≤ y * 2 ^ s := Nat.mul_le_mul_right _ hlt
    rw [Nat.add_mul, Nat.one_mul] at this
    omega
  · rw [e1]
    generalize Bw = B at *
    generalize 2 ^ s = p at *
    grind
theorem div_shift {n y s : Nat} : (n * 2 ^ s) / (y * 2 ^ s) = n / y ∧ (n * 2 ^ s) % (y * 2 ^ s) = n % y * 2 ^ s :=
  ⟨Nat.mul_div_mul_right _ _ (Nat.two_pow_pos s), Nat.mul_mod_mul_right _ _ _⟩

set_option maxRecDepth 100000 in
set_option maxHeartbeats 1000000 in
/-- divWW at a divisor that is shifted there. -/
theorem divWW_shift (x1 x0 y : Nat) (hyw : y < Bw) (h0 : 0 < y) (hx1 : x1 < y) (hx0 : x0 < Bw) (hs0 : 0 < nlzW y) (w : World) :
    Calls Tryz.prog 222 #[.int .u64 x1, .int .u64 x0, .int .u64 y, .int .u64 (recW y)] w fun e w' => e = .returned (.tuple #[.int .u64 (divQ x1 x0 y : Int), .int .u64 (divR x1 x0 y : Int)]) ∧ w = w' := by
  obtain ⟨s1, s2, s3⟩ := nlzW_spec hyw h0
  obtain ⟨r1, r2⟩ := recW_spec hyw h0
  obtain ⟨d1, d2, d3⟩ := shift_two (Nat.le_of_lt s1) hx0 hx1 s3
  have e1 := kw_shl (Nat.le_of_lt s1) x1
  have e2 := kw_shl (Nat.le_of_lt s1) x0
  have e3 := kw_shl (Nat.le_of_lt s1) y
  have e4 := kw_shr (show 64 - nlzW y ≤ 64 by omega) x0
  have e5 := or_join (x := x1) (Nat.le_of_lt s1) (shrW_small hx0 (Nat.le_of_lt s1))
  have hX0w := shlW_lt x0 (nlzW y)
  rw [d1] at e3
  generalize hX1 : shlW x1 (nlzW y) + shrW x0 (64 - nlzW y) = X1 at *
  generalize hX0 : shlW x0 (nlzW y) = X0 at *
  generalize hd : y * 2 ^ nlzW y = d at *
  obtain ⟨t, ra, rb, ht, hra, hrb, htw, hw⟩ := divWW_ways s2 s3 d2 hX0w r1 r2
  have hq : (X1 * Bw + X0) / d = divQ x1 x0 y := by rw [d3, ← hd]; exact div_shift.1
  have hr : (X1 * Bw + X0) % d = divR x1 x0 y * 2 ^ nlzW y := by rw [d3, ← hd]; exact div_shift.2
  rw [hq, hr] at hw
  have hf : ∀ a : Nat, divR x1 x0 y * 2 ^ nlzW y = a → ((a : Nat) : Int) / 2 ^ nlzW y = (divR x1 x0 y : Int) := by
    intro a ha
    rw [← ha, kw_shr (Nat.le_of_lt s1)]
    unfold shrW
    rw [Nat.min_eq_left (Nat.le_of_lt s1), Nat.mul_div_cancel _ (Nat.two_pow_pos _)]
  have a2 : ((64 : Int) - (nlzW y : Int)) = ((64 - nlzW y : Nat) : Int) := by omega
  have hne : ((nlzW y : Int) != 0) = true := by rw [bne_iff_ne]; omega
  have hX1w : X1 < Bw := by omega
  have hraw : ra < Bw := by rw [hra]; exact subLo_lt _ _ _
  have hc1 : addHi (mulLo (recW y) X1) X0 0 ≤ 1 := addHi_le (mulLo_lt _ _) hX0w (by omega)
  have hc2 : subHi X0 (mulLo d t) 0 ≤ 1 := subHi_le _ _ _
  have t1 := ht.symm
  have k1 := hra.symm
  have k2 := hrb.symm
  have yw := s3
  have hw1 := wrap_sub ra d hraw yw
  have hw2 := wrap_sub (subLo ra d 0) d (subLo_lt _ _ _) yw
  obtain ⟨tt, htt⟩ : ∃ tt, 64 - nlzW y = tt := ⟨_, rfl⟩
  rw [htt] at a2 e4 e5 hX1
  have HF := Lib.hid hf
  have S1 := s1
  clear ht hra hrb s2 s3 r1 hq hr d1 d2 d3 hx1 hX1 hX0 hd h0 hs0 htt hf
  generalize hsn : nlzW y = s at *
  rcases hw with ⟨b0, b1, b2, b3⟩ | ⟨b0, b1, b2, b3, b4⟩ | ⟨b0, b1, b2, b3, b4⟩ | ⟨b0, b1, b2, b3, b4, b5⟩
  · have B2 := Lib.hid b2
    have B3 := HF.out _ b3
    clear b2 b3
    rw [b0] at k2
    clear b0
    go_enter Tryz.func222, Tryz.ntmps222
    go_wp2_with (first | (go_at_call 121; (with_reducible refine (nlz _ hyw _).mono ?_); rintro e w' ⟨rfl, rfl⟩) | (go_at_call 215; (with_reducible refine (bitsMul _ _ (by assumption) (by assumption) _).mono ?_); rintro e w' ⟨rfl, rfl⟩) | (go_at_call 196; (with_reducible refine (bitsAdd0 _ _ _).mono ?_); rintro e w' ⟨rfl, rfl⟩) | (go_at_call 196; (with_reducible refine (bitsAdd _ _ _ hc1 _).mono ?_); rintro e w' ⟨rfl, rfl⟩) | (go_at_call 230; (with_reducible refine (bitsSub0 _ _ _).mono ?_); rintro e w' ⟨rfl, rfl⟩) | (go_at_call 230; (with_reducible refine (bitsSub _ _ _ hc2 _).mono ?_); rintro e w' ⟨rfl, rfl⟩))
    go_ret2
    exact ⟨ret2 (by rw [B2.out]) rfl, rfl⟩
  · have B2 := Lib.hid b3
    have B3 := HF.out _ b4
    have hp1 : IntKind.u64.wrap ((t : Int) + 1) = (t : Int) + 1 := wrap_u64 (t + 1) b2
    clear b3 b4
    rw [b0] at k2
    clear b0
    go_enter Tryz.func222, Tryz.ntmps222
    go_wp2_with (first | (go_at_call 121; (with_reducible refine (nlz _ hyw _).mono ?_); rintro e w' ⟨rfl, rfl⟩) | (go_at_call 215; (with_reducible refine (bitsMul _ _ (by assumption) (by assumption) _).mono ?_); rintro e w' ⟨rfl, rfl⟩) | (go_at_call 196; (with_reducible refine (bitsAdd0 _ _ _).mono ?_); rintro e w' ⟨rfl, rfl⟩) | (go_at_call 196; (with_reducible refine (bitsAdd _ _ _ hc1 _).mono ?_); rintro e w' ⟨rfl, rfl⟩) | (go_at_call 230; (with_reducible refine (bitsSub0 _ _ _).mono ?_); rintro e w' ⟨rfl, rfl⟩) | (go_at_call 230; (with_reducible refine (bitsSub _ _ _ hc2 _).mono ?_); rintro e w' ⟨rfl, rfl⟩))
    go_ret2
    exact ⟨ret2 (by rw [B2.out]; rfl) rfl, rfl⟩
  · have B2 := Lib.hid b3
    have B3 := HF.out _ b4
    have hp1 : IntKind.u64.wrap ((t : Int) + 1) = (t : Int) + 1 := wrap_u64 (t + 1) b1
    have hrb : (((rb : Nat) : Int) != 0) = true := by rw [bne_iff_ne]; omega
    clear b3 b4 b0
    go_enter Tryz.func222, Tryz.ntmps222
    go_wp2_with (first | (go_at_call 121; (with_reducible refine (nlz _ hyw _).mono ?_); rintro e w' ⟨rfl, rfl⟩) | (go_at_call 215; (with_reducible refine (bitsMul _ _ (by assumption) (by assumption) _).mono ?_); rintro e w' ⟨rfl, rfl⟩) | (go_at_call 196; (with_reducible refine (bitsAdd0 _ _ _).mono ?_); rintro e w' ⟨rfl, rfl⟩) | (go_at_call 196; (with_reducible refine (bitsAdd _ _ _ hc1 _).mono ?_); rintro e w' ⟨rfl, rfl⟩) | (go_at_call 230; (with_reducible refine (bitsSub0 _ _ _).mono ?_); rintro e w' ⟨rfl, rfl⟩) | (go_at_call 230; (with_reducible refine (bitsSub _ _ _ hc2 _).mono ?_); rintro e w' ⟨rfl, rfl⟩))
    go_ret2
    exact ⟨ret2 (by rw [B2.out]; rfl) rfl, rfl⟩
  · have B2 := Lib.hid b4
    have B3 := HF.out _ b5
    have hp1 : IntKind.u64.wrap ((t : Int) + 1) = (t : Int) + 1 := wrap_u64 (t + 1) b1
    have hp2 : IntKind.u64.wrap ((t : Int) + 1 + 1) = (t : Int) + 1 + 1 := wrap_u64 (t + 1 + 1) b2
    have hp3 : IntKind.u64.wrap ((t : Int) + 2) = (t : Int) + 1 + 1 := wrap_u64 (t + 1 + 1) b2
    have hrb : (((rb : Nat) : Int) != 0) = true := by rw [bne_iff_ne]; omega
    clear b4 b5 b0
    go_enter Tryz.func222, Tryz.ntmps222
    go_wp2_with (first | (go_at_call 121; (with_reducible refine (nlz _ hyw _).mono ?_); rintro e w' ⟨rfl, rfl⟩) | (go_at_call 215; (with_reducible refine (bitsMul _ _ (by assumption) (by assumption) _).mono ?_); rintro e w' ⟨rfl, rfl⟩) | (go_at_call 196; (with_reducible refine (bitsAdd0 _ _ _).mono ?_); rintro e w' ⟨rfl, rfl⟩) | (go_at_call 196; (with_reducible refine (bitsAdd _ _ _ hc1 _).mono ?_); rintro e w' ⟨rfl, rfl⟩) | (go_at_call 230; (with_reducible refine (bitsSub0 _ _ _).mono ?_); rintro e w' ⟨rfl, rfl⟩) | (go_at_call 230; (with_reducible refine (bitsSub _ _ _ hc2 _).mono ?_); rintro e w' ⟨rfl, rfl⟩))
    go_ret2
    exact ⟨ret2 (by rw [B2.out]; rfl) rfl, rfl⟩

/-- divWW: two words by one, by its reciprocal. -/
theorem divWW (x1 x0 y : Nat) (hy : y < Bw) (h0 : 0 < y) (hx1 : x1 < y) (hx0 : x0 < Bw) (w : World) :
    Calls Tryz.prog 222 #[.int .u64 x1, .int .u64 x0, .int .u64 y, .int .u64 (recW y)] w fun e w' => e = .returned (.tuple #[.int .u64 (divQ x1 x0 y : Int), .int .u64 (divR x1 x0 y : Int)]) ∧ w = w' := by
  by_cases hs : 0 < nlzW y
  · exact divWW_shift x1 x0 y hy h0 hx1 hx0 hs w
  · have h2 := (nlzW_spec hy h0).2.1
    rw [show nlzW y = 0 by omega, Nat.pow_zero, Nat.mul_one] at h2
    exact divWW_norm x1 x0 y hy h2 hx1 hx0 w

/-! ### Div64, by halves -/
theorem half_step {T u u1 y y1 y0 q r : Nat} (hy : y = y1 * T + y0) (hy0 : y0 < T) (hy1 : 0 < y1) (hu1 : u1 < T) (hq : (u * T + u1) / y ≤ q) (hinv : q * y1 + r = u) (h : r < T → q * y0 ≤ T * r + u1) (hqT : q ≤ T) : q = (u * T + u1) / y := by
  have h1 := half_guess hy hy0 hu1 hinv h hqT
  have hypos : 0 < y := by have : 0 < T := by omega
                           have := Nat.mul_pos hy1 this; omega
  have h2 := le_quo hypos h1
  omega
end Go.Proofs.YtpmggjplfcjkkaaGreatDoor

/- Contracts of Div64 (by halves), Div, and the reciprocal of a word. -/
set_option linter.unusedVariables false
set_option linter.unusedSimpArgs false
namespace Go.Proofs.YtpmggjplfcjkkaaGreatDoor
open Go.RowKit Nq

set_option maxRecDepth 100000 in
set_option maxHeartbeats 1000000 in
theorem bitsDiv64_zero (lo y : Nat) (hy : y < Bw) (h0 : 0 < y) (hlo : lo < Bw) (w : World) :
    Calls Tryz.prog 237 #[.int .u64 0, .int .u64 lo, .int .u64 y] w fun e w' => e = .returned (.tuple #[.int .u64 (divQ 0 lo y : Int), .int .u64 (divR 0 lo y : Int)]) ∧ ∃ n, w' = w.drewN n := by
  have h1 : ((y : Int) == 0) = false := by simp; omega
  have h2 : ((lo / y : Nat) : Int) = (divQ 0 lo y : Int) := by unfold divQ; simp
  have h3 : ((lo % y : Nat) : Int) = (divR 0 lo y : Int) := by unfold divR; simp
  have hd : lo / y < Bw := Nat.lt_of_le_of_lt (Nat.div_le_self _ _) hlo
  have H2 := Lib.hid h2
  have H3 := Lib.hid h3
  clear h2 h3
  go_enter Tryz.func237, Tryz.ntmps237
  go_wp2
  go_quiet (fail)
  go_wp2
  go_ret2
  exact ⟨ret2 (by rw [← H2.out]; exact wrap_u64 (lo / y) hd) (by rw [← H3.out]; simp), nq, rfl⟩

/-- The halves of a word. -/
theorem low_half (x : Nat) (hx : x < Bw) : bits .and .u64 (x : Int) 4294967295 = ((x % 4294967296 : Nat) : Int) := by
  have := bits_mask .u64 64 (by decide) wraps_u64 32 (by decide) (x : Int) (by omega) (by rw [Bw_eq] at hx; omega)
  rw [show ((2 : Int) ^ 32 - 1) = 4294967295 from rfl] at this
  rw [this]
  simp

/-- A rest that is reckoned modulo a word. -/
theorem wrap_rest {a b p r : Nat} (hr : r < Bw) (h : p + r = a * 4294967296 + b) : IntKind.u64.wrap (IntKind.u64.wrap (IntKind.u64.wrap ((a : Int) * 4294967296) + (b : Int)) - IntKind.u64.wrap (p : Int)) = (r : Int) := by
  rw [Bw_eq] at hr
  simp only [IntKind.wrap, IntKind.bits, IntKind.signed, Bool.false_and, Bool.false_eq_true, if_false]
  omega

/-- One half of the division: what the loop keeps. -/
structure HalfRel (u u1 y y1 y0 q r : Nat) : Prop where
  inv : q * y1 + r = u
  ge : (u * 4294967296 + u1) / y ≤ q
  le : q ≤ 4294967297
  r_lt : r < 4294967296

theorem HalfRel.down {u u1 y y1 y0 q r : Nat} (h : HalfRel u u1 y y1 y0 q r) (hy : y = y1 * 4294967296 + y0) (hy1 : 0 < y1) (huy : u < y) (hu1 : u1 < 4294967296) (hc : 4294967296 ≤ q ∨ 4294967296 * r + u1 < q * y0) :
    1 ≤ q ∧ (q - 1) * y1 + (r + y1) = u ∧ (u * 4294967296 + u1) / y ≤ q - 1 := by
  have hypos : 0 < y := by omega
  have hlt : (u * 4294967296 + u1) / y < q := by
    rcases hc with hc | hc
    · refine Nat.lt_of_lt_of_le ?_ hc
      rw [Nat.div_lt_iff_lt_mul hypos]
      have : (u + 1) * 4294967296 ≤ y * 4294967296 := Nat.mul_le_mul_right _ huy
      omega
    · rw [Nat.div_lt_iff_lt_mul hypos]
      exact half_down hy h.inv hc
  generalize (u * 4294967296 + u1) / y = Q at *
  refine ⟨by omega, ?_, by omega⟩
  have := h.inv
  obtain ⟨p, rfl⟩ : ∃ p, q = p + 1 := ⟨q - 1, by omega⟩
  rw [Nat.add_sub_cancel]
  grind
theorem HalfRel.done {u u1 y y1 y0 q r : Nat} (hinv : q * y1 + r = u) (hge : (u * 4294967296 + u1) / y ≤ q) (hy : y = y1 * 4294967296 + y0) (hy0 : y0 < 4294967296) (hy1 : 0 < y1) (hu1 : u1 < 4294967296) (hq : q ≤ 4294967296)
    (hc : r < 4294967296 → q * y0 ≤ 4294967296 * r + u1) : q = (u * 4294967296 + u1) / y := half_step hy hy0 hy1 hu1 hge hinv hc hq

theorem HalfRel.start {u u1 y y1 y0 : Nat} (hy : y = y1 * 4294967296 + y0) (hy0 : y0 < 4294967296) (hyw : y < Bw) (hyn : Bw ≤ 2 * y) (huy : u < y) (hu1 : u1 < 4294967296) : HalfRel u u1 y y1 y0 (u / y1) (u % y1) := by
  rw [Bw_eq] at hyw hyn
  have hy1 : 2147483648 ≤ y1 ∧ y1 < 4294967296 := by omega
  refine ⟨by rw [Nat.mul_comm]; exact Nat.div_add_mod _ _, guess_ge hy (by omega) hu1, ?_, ?_⟩
  · have : u / y1 < 4294967298 := by
      rw [Nat.div_lt_iff_lt_mul (by omega)]
      omega
    omega
  · have := Nat.mod_lt u (show 0 < y1 by omega)
    omega

theorem wrap_rem {a b : Nat} (ha : a < Bw) : IntKind.u64.wrap ((a : Int) - IntKind.u64.wrap (((a / b : Nat) : Int) * (b : Int))) = ((a % b : Nat) : Int) := by
  have h := Nat.div_add_mod a b
  rw [wrap_mul]
  have h2 : mulLo (a / b) b = a / b * b := by
    unfold mulLo; rw [Nat.mod_eq_of_lt]; rw [Nat.mul_comm]; omega
  rw [h2, wrap_sub _ _ ha (by rw [Nat.mul_comm]; omega), sub_small ha (by rw [Nat.mul_comm]; omega)]
  congr 1
  rw [Nat.mul_comm]; omega

set_option maxRecDepth 100000 in
set_option maxHeartbeats 2000000 in
theorem bitsDiv64_norm (hi lo y : Nat) (hy : y < Bw) (hyn : Bw ≤ 2 * y) (h0 : 0 < hi) (hhi : hi < y) (hlo : lo < Bw) (w : World) :
    Calls Tryz.prog 237 #[.int .u64 hi, .int .u64 lo, .int .u64 y] w fun e w' => e = .returned (.tuple #[.int .u64 (divQ hi lo y : Int), .int .u64 (divR hi lo y : Int)]) ∧ w = w' := by
  have h1 : ((y : Int) == 0) = false := by simp; omega
  have h2 : ((hi : Int) == 0) = false := by simp; omega
  have hz : ∀ w, Calls Tryz.prog 241 #[.int .u64 y] w fun e w' => e = .returned (.int .i64 0) ∧ w = w' := by
    intro w
    have hs := nlzW_spec hy (by omega)
    have hs0 : nlzW y = 0 := by
      apply Nat.eq_zero_of_not_pos
      intro hp
      have h1 : 2 ^ 1 ≤ 2 ^ nlzW y := Nat.pow_le_pow_right (by omega) hp
      have h2 : y * 2 ≤ y * 2 ^ nlzW y := Nat.mul_le_mul_left _ h1
      omega
    have hle : Lib.bitLen y ≤ 64 := (bitLenAux_spec 64 y (by rw [Bw_pow] at hy; exact hy)).2.2
    have hb : Lib.bitLen y = 64 := by unfold nlzW at hs0; omega
    have h := Tryz.bits_LeadingZeros64 (y : Int) w (by omega) (by rw [Bw_eq] at hy; omega)
    rw [Int.toNat_natCast, hb] at h
    exact h.mono fun e w' h => ⟨h.1, h.2.symm⟩
  have HZ := Lib.hid hz
  clear hz
  have w1 := wrap_u64 y hy
  have w2 := wrap_u64 lo hlo
  have w3 := wrap_u64 hi (by omega)
  have w4 : (lo : Int) / 18446744073709551616 = 0 := by rw [Bw_eq] at hlo; omega
  have w5 := low_half y hy
  have w6 := low_half lo hlo
  have w7 : (y : Int) / 4294967296 = ((y / 4294967296 : Nat) : Int) := by simp
  have w8 : (lo : Int) / 4294967296 = ((lo / 4294967296 : Nat) : Int) := by simp
  have w9 : bits .or .u64 (hi : Int) 0 = (hi : Int) := by
    have := or_join' (x := 0) (s := 64) (r := hi) (by omega) (by have := Bw_pow; omega)
    simpa [shlW] using this
  have hyd : y = y / 4294967296 * 4294967296 + y % 4294967296 := by omega
  have hlod : lo = lo / 4294967296 * 4294967296 + lo % 4294967296 := by omega
  have y0w : y % 4294967296 < 4294967296 := Nat.mod_lt _ (by omega)
  have u0w : lo % 4294967296 < 4294967296 := Nat.mod_lt _ (by omega)
  have u1w : lo / 4294967296 < 4294967296 := by rw [Bw_eq] at hlo; omega
  have y1w : 2147483648 ≤ y / 4294967296 := by rw [Bw_eq] at hyn; omega
  have y1w' : y / 4294967296 < 4294967296 := by rw [Bw_eq] at hy; omega
  generalize y / 4294967296 = y1 at *
  generalize y % 4294967296 = y0 at *
  generalize lo / 4294967296 = u1 at *
  generalize lo % 4294967296 = u0 at *
  have HS1 := HalfRel.start hyd y0w hy hyn hhi u1w
  have HYD := Lib.hid hyd
  have HLO := Lib.hid hlod
  clear hyd hlod
  have hgt : decide ((y : Int) ≤ (hi : Int)) = false := by simp; omega
  -- the two halves
  have hy0 : 0 < y := by omega
  have hN1 := Nat.div_add_mod (hi * 4294967296 + u1) y
  have hR1 := Nat.mod_lt (hi * 4294967296 + u1) hy0
  have hQ1 : (hi * 4294967296 + u1) / y < 4294967296 := by
    rw [Nat.div_lt_iff_lt_mul hy0]
    have : (hi + 1) * 4294967296 ≤ y * 4294967296 := Nat.mul_le_mul_right _ hhi
    omega
  have HD1 : ∀ q r, q * y1 + r = hi → (hi * 4294967296 + u1) / y ≤ q → q ≤ 4294967296 → (r < 4294967296 → q * y0 ≤ 4294967296 * r + u1) → q = (hi * 4294967296 + u1) / y := fun q r a b c d => HalfRel.done a b HYD.out y0w (by omega) u1w c d
  have HW1 : ∀ q r, HalfRel hi u1 y y1 y0 q r → (4294967296 ≤ q ∨ 4294967296 * r + u1 < q * y0) → 1 ≤ q ∧ (q - 1) * y1 + (r + y1) = hi ∧ (hi * 4294967296 + u1) / y ≤ q - 1 := fun q r h c => h.down HYD.out (by omega) hhi u1w c
  have HS2 := fun (r : Nat) (hr : r < y) => HalfRel.start HYD.out y0w hy hyn hr u0w
  obtain ⟨Q1, hq1⟩ : ∃ Q1, (hi * 4294967296 + u1) / y = Q1 := ⟨_, rfl⟩
  obtain ⟨R1, hr1⟩ : ∃ R1, (hi * 4294967296 + u1) % y = R1 := ⟨_, rfl⟩
  rw [hq1, hr1] at hN1
  rw [hr1] at hR1
  rw [hq1] at hQ1
  simp only [hq1] at HD1 HW1
  have HW2 : ∀ q r, HalfRel R1 u0 y y1 y0 q r → (4294967296 ≤ q ∨ 4294967296 * r + u0 < q * y0) → 1 ≤ q ∧ (q - 1) * y1 + (r + y1) = R1 ∧ (R1 * 4294967296 + u0) / y ≤ q - 1 := fun q r h c => h.down HYD.out (by omega) hR1 u0w c
  have HD2 : ∀ q r, q * y1 + r = R1 → (R1 * 4294967296 + u0) / y ≤ q → q ≤ 4294967296 → (r < 4294967296 → q * y0 ≤ 4294967296 * r + u0) → q = (R1 * 4294967296 + u0) / y := fun q r a b c d => HalfRel.done a b HYD.out y0w (by omega) u0w c d
  have HS2 := HS2 R1 hR1
  have hN2 := Nat.div_add_mod (R1 * 4294967296 + u0) y
  have hR2 := Nat.mod_lt (R1 * 4294967296 + u0) hy0
  have hQ2 : (R1 * 4294967296 + u0) / y < 4294967296 := by
    rw [Nat.div_lt_iff_lt_mul hy0]
    have : (R1 + 1) * 4294967296 ≤ y * 4294967296 := Nat.mul_le_mul_right _ hR1
    omega
  obtain ⟨Q2, hq2⟩ : ∃ Q2, (R1 * 4294967296 + u0) / y = Q2 := ⟨_, rfl⟩
  obtain ⟨R2, hr2⟩ : ∃ R2, (R1 * 4294967296 + u0) % y = R2 := ⟨_, rfl⟩
  rw [hq2, hr2] at hN2
  rw [hr2] at hR2
  rw [hq2] at hQ2
  simp only [hq2] at HD2 HW2
  have hfin : divQ hi lo y = Q1 * 4294967296 + Q2 ∧ divR hi lo y = R2 := by
    have e : hi * Bw + lo = (Q1 * 4294967296 + Q2) * y + R2 := by
      rw [Bw_eq, HLO.out]
      grind
    exact quo_of e hR2
  have z1 := wrap_rest (p := y * Q1) (by omega) hN1
  have z2 := wrap_rest (p := y * Q2) (by omega) hN2
  rw [Nat.mul_comm] at z1 z2
  rw [Int.natCast_mul] at z1 z2
  have i1 : IntKind.u64.wrap ((hi : Int) / (y1 : Int)) = ((hi / y1 : Nat) : Int) := wrap_u64 (hi / y1) (Nat.lt_of_le_of_lt (Nat.div_le_self _ _) (by omega))
  have i2 : IntKind.u64.wrap ((R1 : Int) / (y1 : Int)) = ((R1 / y1 : Nat) : Int) := wrap_u64 (R1 / y1) (Nat.lt_of_le_of_lt (Nat.div_le_self _ _) (by omega))
  have j1 : IntKind.u64.wrap ((hi : Int) - IntKind.u64.wrap (((hi / y1 : Nat) : Int) * (y1 : Int))) = ((hi % y1 : Nat) : Int) := wrap_rem (by omega)
  have j2 : IntKind.u64.wrap ((R1 : Int) - IntKind.u64.wrap (((R1 / y1 : Nat) : Int) * (y1 : Int))) = ((R1 % y1 : Nat) : Int) := wrap_rem (by omega)
  generalize hi / y1 = q0 at *
  generalize hi % y1 = r0 at *
  generalize R1 / y1 = q00 at *
  generalize R1 % y1 = r00 at *
  have hfq : IntKind.u64.wrap (IntKind.u64.wrap ((Q1 : Int) * 4294967296) + (Q2 : Int)) = (divQ hi lo y : Int) := by
    rw [hfin.1, ← wrap_u64 (Q1 * 4294967296 + Q2) (by rw [Bw_eq]; omega)]
    simp only [IntKind.wrap, IntKind.bits, IntKind.signed, Bool.false_and, Bool.false_eq_true, if_false]
    omega
  have Hfin := Lib.hid hfin
  have K1 := Lib.hid HD1
  have K2 := Lib.hid HD2
  have K3 := Lib.hid HW1
  have K4 := Lib.hid HW2
  have HQ1 := Lib.hid hq1
  have HQ2 := Lib.hid hq2
  clear hfin HD1 HD2 HW1 HW2 hN1 hN2 hq1 hq2 hr1 hr2 HYD HLO hyn
  go_enter Tryz.func237, Tryz.ntmps237
  go_upto_block 0 with (go_at_call 241; (with_reducible refine (HZ.out _).mono ?_); rintro e w' ⟨rfl, rfl⟩)
  go_cut [15, 16] (fun q _ wc => w = wc ∧ q = .int .u64 (Q1 : Int))
  case first =>
    go_wp2_with fail
    go_loop [15, 16] (fun a b => ∃ q r : Nat, a = .int .u64 (q : Int) ∧ b = .int .u64 (r : Int) ∧ HalfRel hi u1 y y1 y0 q r) (fun a _ => (intOf a).toNat)
    case atStart => exact ⟨q0, r0, rfl, rfl, HS1⟩
    case round =>
      obtain ⟨q, r, rfl, rfl, hR⟩ := hrel
      have hql := hR.le
      have hrl := hR.r_lt
      have hm : IntKind.u64.wrap ((q : Int) * (y0 : Int)) = ((q * y0 : Nat) : Int) := by
        have : q * y0 ≤ 4294967297 * 4294967295 := Nat.mul_le_mul hql (by omega)
        exact wrap_u64 (q * y0) (by rw [Bw_eq]; omega)
      have hk0 : IntKind.u64.wrap (4294967296 * (r : Int)) = ((4294967296 * r : Nat) : Int) := wrap_u64 (4294967296 * r) (by rw [Bw_eq]; omega)
      have hk : IntKind.u64.wrap (((4294967296 * r : Nat) : Int) + ((u1 : Nat) : Int)) = ((4294967296 * r + u1 : Nat) : Int) := wrap_add _ _ (by rw [Bw_eq]; omega)
      have hs : IntKind.u64.wrap ((r : Int) + (y1 : Int)) = ((r + y1 : Nat) : Int) := wrap_add _ _ (by rw [Bw_eq]; omega)
      have hc3 : (4294967296 ≤ q → decide ((4294967296 : Int) ≤ (q : Int)) = true) ∧ (q < 4294967296 → decide ((4294967296 : Int) ≤ (q : Int)) = false) := ⟨fun h => by simp; omega, fun h => by simp; omega⟩
      have hc4 : (4294967296 ≤ r + y1 → decide ((4294967296 : Int) ≤ ((r + y1 : Nat) : Int)) = true) ∧ (r + y1 < 4294967296 → decide ((4294967296 : Int) ≤ ((r + y1 : Nat) : Int)) = false) := ⟨fun h => by simp; omega, fun h => by simp; omega⟩
      obtain ⟨m, em⟩ : ∃ m, q * y0 = m := ⟨_, rfl⟩
      obtain ⟨k0, ek0⟩ : ∃ k0, 4294967296 * r = k0 := ⟨_, rfl⟩
      obtain ⟨k, ek⟩ : ∃ k, k0 + u1 = k := ⟨_, rfl⟩
      obtain ⟨s, es⟩ : ∃ s, r + y1 = s := ⟨_, rfl⟩
      rw [em] at hm
      rw [ek0] at hk0 hk
      rw [ek] at hk
      rw [es] at hs hc4
      by_cases hc : 4294967296 ≤ q ∨ k < m
      · obtain ⟨c1, c2, c3⟩ := K3.out q r hR (by rw [em, ek0, ek]; exact hc)
        obtain ⟨p, ep⟩ : ∃ p, q - 1 = p := ⟨_, rfl⟩
        have hp : IntKind.u64.wrap ((q : Int) - 1) = (p : Int) := by rw [← wrap_u64 p (by rw [Bw_eq]; omega)]; congr 1; omega
        rw [ep, es] at c2
        rw [ep] at c3
        have M : (p : Int).toNat < (q : Int).toNat := by omega
        have MM := Lib.hid M
        have hpT : p ≤ 4294967296 := by omega
        by_cases hb : s < 4294967296
        · have hRel : HalfRel hi u1 y y1 y0 p s := ⟨c2, by rw [HQ1.out]; exact c3, by omega, hb⟩
          have t2 := hc4.2 hb
          by_cases hq : 4294967296 ≤ q
          · have t1 := hc3.1 hq
            clear hc hc3 hc4 c1 c2 c3 em ek0 ek es ep hR hql hrl M y0w u0w u1w y1w y1w' hQ1 hQ2 hR1 hR2 hb hq hpT
            go_wp2
            go_round
            case rel => exact ⟨p, s, rfl, rfl, hRel⟩
            case measure => simp only [intOf]; exact MM.out
          · have t1 := hc3.2 (by omega)
            have t3 : decide (k < m) = true := by simp; omega
            clear hc hc3 hc4 c1 c2 c3 em ek0 ek es ep hR hql hrl M y0w u0w u1w y1w y1w' hQ1 hQ2 hR1 hR2 hb hq hpT
            go_wp2
            go_round
            case rel => exact ⟨p, s, rfl, rfl, hRel⟩
            case measure => simp only [intOf]; exact MM.out
        · have t2 := hc4.1 (by omega)
          have hpq : p = Q1 := K1.out p s c2 c3 hpT (fun h => absurd h hb)
          by_cases hq : 4294967296 ≤ q
          · have t1 := hc3.1 hq
            clear hc hc3 hc4 c1 c2 c3 em ek0 ek es ep hR hql hrl M y0w u0w u1w y1w y1w' hQ1 hQ2 hR1 hR2 hb hq hpT
            go_wp2
            go_meet
            exact ⟨rfl, rfl⟩
          · have t1 := hc3.2 (by omega)
            have t3 : decide (k < m) = true := by simp; omega
            clear hc hc3 hc4 c1 c2 c3 em ek0 ek es ep hR hql hrl M y0w u0w u1w y1w y1w' hQ1 hQ2 hR1 hR2 hb hq hpT
            go_wp2
            go_meet
            exact ⟨rfl, rfl⟩
      · have hpq : q = Q1 := K1.out q r hR.inv (by have := hR.ge; rw [HQ1.out] at this; exact this) (by omega) (fun _ => by rw [em, ek0, ek]; omega)
        have t1 := hc3.2 (by omega)
        have t3 : decide (k < m) = false := by simp; omega
        clear hc hc3 hc4 em ek0 ek es hR hql hrl y0w u0w u1w y1w y1w' hQ1 hQ2 hR1 hR2
        have HPQ := Lib.hid hpq
        clear hpq
        go_wp2
        go_meet
        exact ⟨rfl, by rw [HPQ.out]⟩
  case rest =>
    obtain ⟨rfl, rfl⟩ := hcut
    go_upto_block 2 with (fail)
    go_cut [18, 16] (fun q _ wc => w = wc ∧ q = .int .u64 (Q2 : Int))
    case first =>
      go_wp2_with fail
      go_loop [18, 16] (fun a b => ∃ q r : Nat, a = .int .u64 (q : Int) ∧ b = .int .u64 (r : Int) ∧ HalfRel R1 u0 y y1 y0 q r) (fun a _ => (intOf a).toNat)
      case atStart => exact ⟨q00, r00, rfl, rfl, HS2⟩
      case round =>
        obtain ⟨q, r, rfl, rfl, hR⟩ := hrel
        have hql := hR.le
        have hrl := hR.r_lt
        have hm : IntKind.u64.wrap ((q : Int) * (y0 : Int)) = ((q * y0 : Nat) : Int) := by
          have : q * y0 ≤ 4294967297 * 4294967295 := Nat.mul_le_mul hql (by omega)
          exact wrap_u64 (q * y0) (by rw [Bw_eq]; omega)
        have hk0 : IntKind.u64.wrap (4294967296 * (r : Int)) = ((4294967296 * r : Nat) : Int) := wrap_u64 (4294967296 * r) (by rw [Bw_eq]; omega)
        have hk : IntKind.u64.wrap (((4294967296 * r : Nat) : Int) + ((u0 : Nat) : Int)) = ((4294967296 * r + u0 : Nat) : Int) := wrap_add _ _ (by rw [Bw_eq]; omega)
        have hs : IntKind.u64.wrap ((r : Int) + (y1 : Int)) = ((r + y1 : Nat) : Int) := wrap_add _ _ (by rw [Bw_eq]; omega)
        have hc3 : (4294967296 ≤ q → decide ((4294967296 : Int) ≤ (q : Int)) = true) ∧ (q < 4294967296 → decide ((4294967296 : Int) ≤ (q : Int)) = false) := ⟨fun h => by simp; omega, fun h => by simp; omega⟩
        have hc4 : (4294967296 ≤ r + y1 → decide ((4294967296 : Int) ≤ ((r + y1 : Nat) : Int)) = true) ∧ (r + y1 < 4294967296 → decide ((4294967296 : Int) ≤ ((r + y1 : Nat) : Int)) = false) := ⟨fun h => by simp; omega, fun h => by simp; omega⟩
        obtain ⟨m, em⟩ : ∃ m, q * y0 = m := ⟨_, rfl⟩
        obtain ⟨k0, ek0⟩ : ∃ k0, 4294967296 * r = k0 := ⟨_, rfl⟩
        obtain ⟨k, ek⟩ : ∃ k, k0 + u0 = k := ⟨_, rfl⟩
        obtain ⟨s, es⟩ : ∃ s, r + y1 = s := ⟨_, rfl⟩
        rw [em] at hm
        rw [ek0] at hk0 hk
        rw [ek] at hk
        rw [es] at hs hc4
        by_cases hc : 4294967296 ≤ q ∨ k < m
        · obtain ⟨c1, c2, c3⟩ := K4.out q r hR (by rw [em, ek0, ek]; exact hc)
          obtain ⟨p, ep⟩ : ∃ p, q - 1 = p := ⟨_, rfl⟩
          have hp : IntKind.u64.wrap ((q : Int) - 1) = (p : Int) := by rw [← wrap_u64 p (by rw [Bw_eq]; omega)]; congr 1; omega
          rw [ep, es] at c2
          rw [ep] at c3
          have M : (p : Int).toNat < (q : Int).toNat := by omega
          have MM := Lib.hid M
          have hpT : p ≤ 4294967296 := by omega
          by_cases hb : s < 4294967296
          · have hRel : HalfRel R1 u0 y y1 y0 p s := ⟨c2, by rw [HQ2.out]; exact c3, by omega, hb⟩
            have t2 := hc4.2 hb
            by_cases hq : 4294967296 ≤ q
            · have t1 := hc3.1 hq
              clear hc hc3 hc4 c1 c2 c3 em ek0 ek es ep hR hql hrl M y0w u0w u1w y1w y1w' hQ1 hQ2 hR1 hR2 hb hq hpT
              go_wp2
              go_round
              case rel => exact ⟨p, s, rfl, rfl, hRel⟩
              case measure => simp only [intOf]; exact MM.out
            · have t1 := hc3.2 (by omega)
              have t3 : decide (k < m) = true := by simp; omega
              clear hc hc3 hc4 c1 c2 c3 em ek0 ek es ep hR hql hrl M y0w u0w u1w y1w y1w' hQ1 hQ2 hR1 hR2 hb hq hpT
              go_wp2
              go_round
              case rel => exact ⟨p, s, rfl, rfl, hRel⟩
              case measure => simp only [intOf]; exact MM.out
          · have t2 := hc4.1 (by omega)
            have hpq : p = Q2 := K2.out p s c2 c3 hpT (fun h => absurd h hb)
            by_cases hq : 4294967296 ≤ q
            · have t1 := hc3.1 hq
              clear hc hc3 hc4 c1 c2 c3 em ek0 ek es ep hR hql hrl M y0w u0w u1w y1w y1w' hQ1 hQ2 hR1 hR2 hb hq hpT
              go_wp2
              go_meet
              exact ⟨rfl, rfl⟩
            · have t1 := hc3.2 (by omega)
              have t3 : decide (k < m) = true := by simp; omega
              clear hc hc3 hc4 c1 c2 c3 em ek0 ek es ep hR hql hrl M y0w u0w u1w y1w y1w' hQ1 hQ2 hR1 hR2 hb hq hpT
              go_wp2
              go_meet
              exact ⟨rfl, rfl⟩
        · have hpq : q = Q2 := K2.out q r hR.inv (by have := hR.ge; rw [HQ2.out] at this; exact this) (by omega) (fun _ => by rw [em, ek0, ek]; omega)
          have t1 := hc3.2 (by omega)
          have t3 : decide (k < m) = false := by simp; omega
          clear hc hc3 hc4 em ek0 ek es hR hql hrl y0w u0w u1w y1w y1w' hQ1 hQ2 hR1 hR2
          have HPQ := Lib.hid hpq
          clear hpq
          go_wp2
          go_meet
          exact ⟨rfl, by rw [HPQ.out]⟩
    case rest =>
      obtain ⟨rfl, rfl⟩ := hcut
      clear hQ1 hQ2 y0w u0w u1w y1w y1w' hR1 hR2
      go_wp2
      go_ret2
      exact ⟨ret2 rfl (by rw [Hfin.out.2]), rfl⟩

theorem bitsDiv64 (hi lo y : Nat) (hy : y < Bw) (hhi : hi < y) (hlo : lo < Bw) (hc : hi = 0 ∨ Bw ≤ 2 * y) (w : World) :
    Calls Tryz.prog 237 #[.int .u64 hi, .int .u64 lo, .int .u64 y] w fun e w' => e = .returned (.tuple #[.int .u64 (divQ hi lo y : Int), .int .u64 (divR hi lo y : Int)]) ∧ ∃ n, w' = w.drewN n := by
  by_cases h0 : hi = 0
  · subst h0
    exact bitsDiv64_zero lo y hy hhi hlo w
  · exact (bitsDiv64_norm hi lo y hy (hc.resolve_left h0) (by omega) hhi hlo w).mono fun e w' h => ⟨h.1, 0, h.2.symm⟩

set_option maxRecDepth 100000 in
set_option maxHeartbeats 400000 in
theorem bitsDiv (hi lo y : Nat) (hy : y < Bw) (hhi : hi < y) (hlo : lo < Bw) (hc : hi = 0 ∨ Bw ≤ 2 * y) (w : World) :
    Calls Tryz.prog 220 #[.int .u64 hi, .int .u64 lo, .int .u64 y] w fun e w' => e = .returned (.tuple #[.int .u64 (divQ hi lo y : Int), .int .u64 (divR hi lo y : Int)]) ∧ ∃ n, w' = w.drewN n := by
  have hq := Lib.hid (bitsDiv64 hi lo y hy hhi hlo hc w)
  clear hc hlo hhi hy
  go_enter Tryz.func220, Tryz.ntmps220
  go_wp2_with (go_at_call 237; (with_reducible refine hq.out.mono ?_); rintro e w' ⟨rfl, n, rfl⟩)
  go_ret2
  exact ⟨rfl, n, rfl⟩

theorem bits_xor_max (d : Nat) (hd : d < Bw) : bits .xor .u64 IntKind.u64.max (d : Int) = ((Bw - 1 - d : Nat) : Int) := by
  have hm : IntKind.u64.max = ((Bw - 1 : Nat) : Int) := by
    rw [Bw_pow]; rfl
  rw [hm, u64_xor_nat _ _ (by have := Bw_eq; omega) (by rw [← Bw_eq]; exact hd)]
  congr 1
  rw [Bw_pow] at hd ⊢
  apply Nat.eq_of_testBit_eq
  intro i
  rw [Nat.testBit_xor, Nat.testBit_two_pow_sub_one, show 2 ^ 64 - 1 - d = 2 ^ 64 - (d + 1) by omega, Nat.testBit_two_pow_sub_succ hd]
  by_cases hi : i < 64
  · simp [hi]
  · simp [hi, Nat.testBit_lt_two_pow (Nat.lt_of_lt_of_le hd (Nat.pow_le_pow_right (by omega) (show 64 ≤ i by omega)))]

set_option maxRecDepth 100000 in
set_option maxHeartbeats 400000 in
theorem reciprocalWord (y : Nat) (hy : y < Bw) (h0 : 0 < y) (w : World) :
    Calls Tryz.prog 221 #[.int .u64 y] w fun e w' => e = .returned (.int .u64 (recW y : Int)) ∧ ∃ n, w' = w.drewN n := by
  obtain ⟨s1, s2, s3⟩ := nlzW_spec hy h0
  have e1 := kw_shl (Nat.le_of_lt s1) y
  have hd : shlW y (nlzW y) = y * 2 ^ nlzW y := by unfold shlW; rw [Nat.min_eq_left (Nat.le_of_lt s1), Nat.mod_eq_of_lt s3]
  have hrec : recW y = (Bw * Bw - 1) / (y * 2 ^ nlzW y) - Bw := rfl
  rw [hd] at e1
  generalize y * 2 ^ nlzW y = d at *
  have ex := bits_xor_max d s3
  have hB := Bw_pos
  have hc := bitsDiv (Bw - 1 - d) (Bw - 1) d s3 (by omega) (by omega) (.inr s2) w
  have hq : divQ (Bw - 1 - d) (Bw - 1) d = recW y := by
    rw [hrec]
    unfold divQ
    have e : (Bw - 1 - d) * Bw + (Bw - 1) = Bw * Bw - 1 - d * Bw := by
      obtain ⟨b, hb⟩ : ∃ b, Bw = b + 1 + d := ⟨Bw - 1 - d, by omega⟩
      rw [hb, show b + 1 + d - 1 - d = b by omega]
      have : b * (b + 1 + d) + (b + 1 + d - 1) + d * (b + 1 + d) + 1 = (b + 1 + d) * (b + 1 + d) := by
        rw [show b + 1 + d - 1 = b + d by omega]; grind
      omega
    rw [e, Nat.sub_mul_div]
  rw [hq, max_word] at hc
  generalize Bw - 1 - d = h at *
  have hc' := Lib.hid hc
  clear hc hq hrec hd s2 hB
  go_enter Tryz.func221, Tryz.ntmps221
  go_wp2_with (go_at_call 121; (with_reducible refine (nlz _ hy _).mono ?_); rintro e w' ⟨rfl, rfl⟩)
  (with_reducible refine hc'.out.mono ?_)
  rintro e w' ⟨rfl, n, rfl⟩
  go_wp2
  go_ret
  exact ⟨rfl, n, rfl⟩
end Go.Proofs.YtpmggjplfcjkkaaGreatDoor

/- Contract of the division of a row of words by one word. -/
set_option linter.unusedVariables false
set_option linter.unusedSimpArgs false
namespace Go.Proofs.YtpmggjplfcjkkaaGreatDoor
open Go.RowKit Nq

/-- divWVW hands back. -/
def DivWPost (w : World) (bz oz : Nat) (Z xs : List Nat) (y : Nat) (e : Ending) (w' : World) : Prop :=
  ∃ r zs, e = .returned (.int .u64 ((r : Nat) : Int)) ∧ r < y ∧ zs.length = xs.length ∧ Wd zs ∧ Blk w' bz (spl Z oz zs) ∧ Fr [bz] w w' ∧ vl zs * y + r = vl xs

theorem divW_step {x y r q r' : Nat} {zs T : List Nat} (h : vl zs * y + r = vl T) (hd : y * q + r' = r * Bw + x) : vl (q :: zs) * y + r' = vl (x :: T) := by
  rw [vl_cons, vl_cons]
  generalize Bw = B at *
  have : B * (vl zs * y + r) = B * vl T := by rw [h]
  grind

set_option maxRecDepth 100000 in
set_option maxHeartbeats 1000000 in
theorem divWVW_one (bz oz cz bx ox cx : Nat) (Z : List Nat) (x y : Nat) (w : World) (hZ : Blk w bz Z) (hX : w.cell? ⟨bx, ox, none⟩ = some (.int .u64 (x : Int))) (xw : x < Bw) (hz : oz + 1 ≤ Z.length) (hy : y < Bw) (hy0 : 0 < y) :
    Calls Tryz.prog 202 #[.slice (some ⟨bz, oz, none⟩) 1 cz, .int .u64 0, .slice (some ⟨bx, ox, none⟩) 1 cx, .int .u64 y] w (DivWPost w bz oz Z [x] y) := by
  have hz1 := hZ.cell oz (by omega)
  have hz2 := hZ.frozen oz
  have hc : ∀ w, Calls Tryz.prog 220 #[.int .u64 0, .int .u64 x, .int .u64 y] w fun e w' => e = .returned (.tuple #[.int .u64 (divQ 0 x y : Int), .int .u64 (divR 0 x y : Int)]) ∧ ∃ n, w' = w.drewN n := fun w => bitsDiv 0 x y hy hy0 xw (.inl rfl) w
  have hc' := Lib.hid hc
  have hq := divQ_lt hy0 xw
  have hr := divR_lt (x1 := 0) (x0 := x) hy0
  have he := div_eq 0 x y
  have hU := (Up.zero (oz := oz) hZ).step hq (by omega)
  simp only [Nat.add_zero, List.nil_append, Nat.zero_add] at hU
  have hfin : ∀ n, DivWPost w bz oz Z [x] y (.returned (.int .u64 ((divR 0 x y : Nat) : Int))) ((w.setCell ⟨bz, oz, none⟩ (.int .u64 (divQ 0 x y : Int))).drewN n) := by
    intro n
    refine ⟨_, [divQ 0 x y], rfl, hr, rfl, hU.wd, hU.blk.drewN n, hU.fr.drewN n, ?_⟩
    simp only [vl_cons, vl_nil, Nat.mul_zero, Nat.add_zero]
    rw [Nat.mul_comm (divQ 0 x y)]; omega
  clear hc he hU
  go_enter Tryz.func202, Tryz.ntmps202
  go_wp2_with (go_at_call 220; (with_reducible refine (hc'.out _).mono ?_); rintro e w' ⟨rfl, n, rfl⟩)
  go_ret
  exact hfin _

set_option maxRecDepth 100000 in
set_option maxHeartbeats 1000000 in
theorem divWVW_many (bz oz cz bx ox cx n : Nat) (Z xs : List Nat) (y : Nat) (w : World) (hZ : Blk w bz Z) (hX : Row w bx ox xs) (wX : Wd xs)
    (hl : xs.length ≤ n) (hl' : n ≤ xs.length) (hz : oz + n ≤ Z.length)
    (hn : n ≤ 1000000) (hn0 : 1 < n) (hover : bx = bz → ox ≤ oz ∨ oz + n ≤ ox) (hy : y < Bw) (hy0 : 0 < y) :
    Calls Tryz.prog 202 #[.slice (some ⟨bz, oz, none⟩) n cz, .int .u64 0, .slice (some ⟨bx, ox, none⟩) n cx, .int .u64 y] w (DivWPost w bz oz Z xs y) := by
  have hne2 : ((n : Int) == 1) = false := by simp; omega
  go_enter Tryz.func202, Tryz.ntmps202
  go_wp2_with (go_at_call 221; (with_reducible refine (reciprocalWord _ hy hy0 _).mono ?_); rintro e w' ⟨rfl, nq, rfl⟩)
  go_loopw [8, 12] (fun r i8 wr => ∃ k r0 : Nat, ∃ zs : List Nat, k ≤ n ∧ i8 = .int .i64 ((k : Int) - 1) ∧ r = .int .u64 (r0 : Int) ∧ r0 < y ∧ zs.length + k ≤ n ∧ n ≤ zs.length + k ∧ Down w bz (oz + k) Z zs wr ∧ RowTo wr bx ox xs k ∧ Hid (vl zs * y + r0 = vl (xs.drop k))) (fun _ i8 _ => (intOf i8 + 1).toNat)
  case atStart => exact ⟨n, 0, [], by omega, rfl, rfl, hy0, by simp, by simp, (Down.zero hZ).drewN nq, RowTo.start (hX.drewN nq) _, Lib.hid (by rw [List.drop_eq_nil_of_le (by omega)]; simp)⟩
  case round =>
    obtain ⟨k, r, zs, hk, rfl, rfl, hr, hlen, hlen', hD, hR, hE⟩ := hrel
    by_cases hlt : 0 < k
    · obtain ⟨j, rfl⟩ : ∃ j, k = j + 1 := ⟨k - 1, by omega⟩
      have ej : (((j + 1 : Nat) : Int) - 1) = (j : Int) := by omega
      have hx := hR j (by omega) (by omega)
      obtain ⟨v0, hz1⟩ := hD.cell (by omega) (oz + j) (by omega)
      have hz2 := hD.blk.frozen (oz + j)
      have xw := wX.getD j
      have hdc := drop_eq_cons (l := xs) (i := j) (by omega)
      generalize xs.getD j 0 = x at hx xw hdc
      have hs1 := Down.step (o := oz + j) hD (divQ_lt hr xw) (by omega)
      have hs2 := hR.step (bz := bz) (oz := oz) (n := n) hover (by omega) (.int .u64 (divQ r x y : Int))
      have hE2 := Lib.hid (divW_step hE.out (div_eq r x y))
      rw [← hdc] at hE2
      have hr2 := divR_lt (x1 := r) (x0 := x) hy0
      clear hdc
      rw [ej]
      clear ej
      go_wp2_with (go_at_call 222; (with_reducible refine (divWW _ _ _ hy hy0 hr xw _).mono ?_); rintro e w' ⟨rfl, rfl⟩)
      go_roundw
      case rel => exact ⟨j, _, _, by omega, by rfl, rfl, hr2, by simp; omega, by simp; omega, hs1, hs2, hE2⟩
      case measure => simp [intOf]
    · have hk0 : k = 0 := by omega
      subst hk0
      have hfin : DivWPost w bz oz Z xs y (.returned (.int .u64 (r : Int))) wr := by
        have h2 := hE.out
        rw [List.drop_zero] at h2
        exact ⟨r, zs, rfl, hr, by omega, hD.wd, hD.blk, hD.fr, h2⟩
      go_wp2
      go_ret
      exact hfin

theorem divWVW (bz oz cz bx ox cx n : Nat) (Z xs : List Nat) (y : Nat) (w : World) (hZ : Blk w bz Z) (hX : Row w bx ox xs) (wX : Wd xs)
    (hl : xs.length = n) (hz : oz + n ≤ Z.length) (hn : n ≤ 1000000) (hn0 : 0 < n) (hover : bx = bz → ox ≤ oz ∨ oz + n ≤ ox) (hy : y < Bw) (hy0 : 0 < y) :
    Calls Tryz.prog 202 #[.slice (some ⟨bz, oz, none⟩) n cz, .int .u64 0, .slice (some ⟨bx, ox, none⟩) n cx, .int .u64 y] w (DivWPost w bz oz Z xs y) := by
  by_cases h1 : n = 1
  · subst h1
    match xs, hl with
    | [x], _ =>
      have hx := hX 0 (by simp)
      exact divWVW_one bz oz cz bx ox cx Z x y w hZ hx wX.head hz hy hy0
  · exact divWVW_many bz oz cz bx ox cx n Z xs y w hZ hX wX (by omega) (by omega) hz hn (by omega) hover hy hy0
end Go.Proofs.YtpmggjplfcjkkaaGreatDoor

/- Contracts of nat's own small methods (make, norm, setWord, set, cmp), and of alias. -/
set_option linter.unusedVariables false
set_option linter.unusedSimpArgs false
namespace Go.Proofs.YtpmggjplfcjkkaaGreatDoor
open Go.RowKit Nq

/-- The value v is the nat whose words are ws: nil, or the first words of a block of its own. -/
def Own (w : World) (v : Value) (own : Option Nat) (ws : List Nat) : Prop :=
  (v = .slice none 0 0 ∧ own = none ∧ ws = []) ∨
  (∃ b Z, own = some b ∧ v = .slice (some ⟨b, 0, none⟩) ws.length Z.length ∧ Blk w b Z ∧ Z.take ws.length = ws ∧ ws.length ≤ Z.length ∧ 0 < Z.length ∧ Z.length ≤ 100000)

/-- A nat that came to be: in the block that was there, or in a new one. -/
def Later (w : World) (own own' : Option Nat) : Prop := own' = own ∨ ∃ b, own' = some b ∧ w.heap.size ≤ b

theorem Own.nil (w : World) : Own w (.slice none 0 0) none [] := .inl ⟨rfl, rfl, rfl⟩
theorem Own.lt {w : World} {v : Value} {own : Option Nat} {ws : List Nat} (h : Own w v own ws) {b : Nat} (hb : own = some b) : b < w.heap.size := by
  rcases h with ⟨_, h, _⟩ | ⟨c, Z, h, _, hZ, _⟩
  · rw [h] at hb; cases hb
  · rw [h] at hb; injection hb with hb; subst hb; exact hZ.lt
theorem Own.fr {S : List Nat} {w w' : World} {v : Value} {own : Option Nat} {ws : List Nat} (h : Own w v own ws) (hf : Fr S w w') (hb : ∀ b, own = some b → b ∉ S) : Own w' v own ws := by
  rcases h with h | ⟨b, Z, h1, h2, hZ, h3⟩
  · exact .inl h
  · exact .inr ⟨b, Z, h1, h2, hZ.fr hf (hb b h1), h3⟩
theorem Own.drewN {w : World} {v : Value} {own : Option Nat} {ws : List Nat} (h : Own w v own ws) (n : Nat) : Own (w.drewN n) v own ws := h
theorem Own.alloc {w : World} {v : Value} {own : Option Nat} {ws : List Nat} (h : Own w v own ws) (o : Obj) : Own (w.alloc o) v own ws :=
  h.fr ((Fr.refl [] w).alloc o) (by simp)
theorem Own.block {w : World} {v : Value} {own : Option Nat} {ws : List Nat} (h : Own w v own ws) (hne : ws ≠ []) : ∃ b Z, own = some b ∧ v = .slice (some ⟨b, 0, none⟩) ws.length Z.length ∧ Blk w b Z ∧ Z.take ws.length = ws ∧ ws.length ≤ Z.length ∧ Z.length ≤ 100000 := by
  rcases h with ⟨_, _, h⟩ | ⟨b, Z, h1, h2, h3, h4, h5, h6, h7⟩
  · exact absurd h hne
  · exact ⟨b, Z, h1, h2, h3, h4, h5, h7⟩
theorem Own.slice {w : World} {v : Value} {own : Option Nat} {ws : List Nat} (h : Own w v own ws) : ∃ a c, v = .slice a ws.length c := by
  rcases h with ⟨rfl, _, rfl⟩ | ⟨b, Z, _, rfl, _⟩
  · exact ⟨none, 0, rfl⟩
  · exact ⟨_, _, rfl⟩
theorem Own.length_le {w : World} {v : Value} {own : Option Nat} {ws : List Nat} (h : Own w v own ws) : ws.length ≤ 100000 := by
  rcases h with ⟨_, _, rfl⟩ | ⟨b, Z, _, _, _, _, h5, _, h7⟩
  · simp
  · omega
theorem Blk.row_take {w : World} {b : Nat} {Z ws : List Nat} (h : Blk w b Z) (ht : Z.take ws.length = ws) : Row w b 0 ws := by
  have := h.row 0 ws.length
  rw [List.drop_zero, ht] at this
  exact this

/-! ### make -/
theorem madeCells_words (n : Nat) : madeCells (Value.cells (.int .u64 0)) n = wds (List.replicate n 0) := by
  have hc : Value.cells (.int .u64 0) = #[.int .u64 0] := by rfl
  apply Array.ext
  · rw [size_madeCells]; simp [wds]
  · intro i h1 h2
    simp [madeCells, wds, Nat.mod_one, hc]

theorem run_make_words (w : World) (l c : Nat) (hlc : l ≤ c) (hc : c ≤ 1000000) :
    (Instr.makeSlice 97 (.int .i64 (l : Int)) (.int .i64 (c : Int))).run Tryz.prog w = .ok (.slice (some ⟨w.heap.size, 0, none⟩) l c) (w.alloc (.cells (wds (List.replicate c 0)) 168)) := by
  obtain ⟨i0, hi, hz0, hz1, hz2⟩ := info_parts wordInfo
  rw [run_make w 97 168 i0 (.int .u64 0) sliceNat' hi hz0 .i64 .i64 l c (by omega) (by omega) (by rw [hz2]; omega) (by omega), hz1]
  simp only [Int.toNat_natCast, Nat.mul_one, madeCells_words]

/-- make hands back: n words, in the block that was there or in a new one. -/
def MakeNew (w : World) (n : Nat) (e : Ending) (w' : World) : Prop :=
  ∃ c, e = .returned (.slice (some ⟨w.heap.size, 0, none⟩) n c) ∧ w' = w.alloc (.cells (wds (List.replicate c 0)) 168) ∧ n ≤ c ∧ 0 < c ∧ c ≤ n + 4

set_option maxRecDepth 100000 in
set_option maxHeartbeats 400000 in
theorem make_new (a : Option Addr) (l c n : Nat) (w : World) (hc : c < n) (hn : n ≤ 90000) :
    Calls Tryz.prog 96 #[.slice a l c, .int .i64 n] w (MakeNew w n) := by
  by_cases h1 : n = 1
  · subst h1
    have hm := run_make_words w 1 1 (by omega) (by omega)
    have hm' : (Instr.makeSlice 97 (.int .i64 1) (.int .i64 1)).run Tryz.prog w = .ok (.slice (some ⟨w.heap.size, 0, none⟩) 1 1) (w.alloc (.cells (wds (List.replicate 1 0)) 168)) := hm
    clear hm
    have hP : MakeNew w 1 (.returned (.slice (some ⟨w.heap.size, 0, none⟩) 1 1)) (w.alloc (.cells (wds [0]) 168)) := ⟨1, rfl, rfl, by omega, by omega, by omega⟩
    have HP := Lib.hid hP
    clear hP
    go_enter Tryz.func96, Tryz.ntmps96
    go_wp2
    go_ret
    exact HP.out
  · have hm := run_make_words w n (n + 4) (by omega) (by omega)
    have ew : ((n + 4 : Nat) : Int) = (n : Int) + 4 := by omega
    rw [ew] at hm
    clear ew
    have HP := Lib.hid (show MakeNew w n (.returned (.slice (some ⟨w.heap.size, 0, none⟩) n (n + 4))) (w.alloc (.cells (wds (List.replicate (n + 4) 0)) 168)) from ⟨n + 4, rfl, rfl, by omega, by omega, by omega⟩)
    go_enter Tryz.func96, Tryz.ntmps96
    go_wp2
    go_ret
    exact HP.out

set_option maxRecDepth 100000 in
set_option maxHeartbeats 400000 in
theorem make_old (a : Option Addr) (l c n : Nat) (w : World) (hc : n ≤ c) (hn : c ≤ 100000) (ha : a = none ∨ ∃ b, a = some ⟨b, 0, none⟩) :
    Calls Tryz.prog 96 #[.slice a l c, .int .i64 n] w fun e w' => e = .returned (.slice a n c) ∧ w' = w := by
  rcases ha with rfl | ⟨b, rfl⟩
  · go_enter Tryz.func96, Tryz.ntmps96
    go_wp2
    go_ret
    exact ⟨rfl, rfl⟩
  · go_enter Tryz.func96, Tryz.ntmps96
    go_wp2
    go_ret
    exact ⟨rfl, rfl⟩

/-- make, from a nat of its own: n words, in its block or in a new one. -/
def MakePost (w : World) (zo : Option Nat) (n : Nat) (e : Ending) (w' : World) : Prop :=
  ∃ bz Z c, e = .returned (.slice (some ⟨bz, 0, none⟩) n c) ∧ Z.length = c ∧ Blk w' bz Z ∧ n ≤ Z.length ∧ 0 < Z.length ∧ Z.length ≤ 100000 ∧ Fr [] w w' ∧ Later w zo (some bz)

theorem make_own {zv : Value} {zo : Option Nat} {zs : List Nat} {n : Nat} {w : World} (hz : Own w zv zo zs) (hn : n ≤ 90000) (h0 : 0 < n) :
    Calls Tryz.prog 96 #[zv, .int .i64 n] w (MakePost w zo n) := by
  have hnew : ∀ e w', MakeNew w n e w' → MakePost w zo n e w' := by
    rintro e w' ⟨c, rfl, rfl, h1, h2, h3⟩
    exact ⟨w.heap.size, List.replicate c 0, c, rfl, by simp, Blk.new w _, by simpa using h1, by simpa using h2, by simp; omega, (Fr.refl [] w).alloc _, .inr ⟨_, rfl, Nat.le_refl _⟩⟩
  rcases hz with ⟨rfl, rfl, rfl⟩ | ⟨b, Z, rfl, rfl, hZ, h4, h5, h6, h7⟩
  · exact (make_new none 0 0 n w h0 hn).mono hnew
  · by_cases hc : n ≤ Z.length
    · refine (make_old (some ⟨b, 0, none⟩) _ Z.length n w hc h7 (.inr ⟨b, rfl⟩)).mono ?_
      rintro e w' ⟨rfl, rfl⟩
      exact ⟨b, Z, _, rfl, rfl, hZ, hc, h6, h7, Fr.refl _ _, .inl rfl⟩
    · exact (make_new _ _ _ n w (by omega) hn).mono hnew

/-- make(0), from a nat of its own. -/
theorem make_zero {zv : Value} {zo : Option Nat} {zs : List Nat} {w : World} (hz : Own w zv zo zs) :
    Calls Tryz.prog 96 #[zv, .int .i64 0] w fun e w' => w' = w ∧ ∃ v, e = .returned v ∧ Own w v zo [] := by
  rcases hz with ⟨rfl, rfl, rfl⟩ | ⟨b, Z, rfl, rfl, hZ, h4, h5, h6, h7⟩
  · refine (make_old none 0 0 0 w (Nat.le_refl _) (by omega) (.inl rfl)).mono ?_
    rintro e w' ⟨rfl, rfl⟩
    exact ⟨rfl, _, rfl, Own.nil w'⟩
  · refine (make_old (some ⟨b, 0, none⟩) _ Z.length 0 w (by omega) h7 (.inr ⟨b, rfl⟩)).mono ?_
    rintro e w' ⟨rfl, rfl⟩
    exact ⟨rfl, _, rfl, .inr ⟨b, Z, rfl, rfl, hZ, rfl, by simp, h6, h7⟩⟩

/-! ### norm -/
theorem nrm_step {ws : List Nat} {k : Nat} (hk : k + 1 ≤ ws.length) (h : ws.getD k 0 = 0) : nrm (ws.take (k + 1)) = nrm (ws.take k) := by
  rw [take_succ_eq (by omega), h, nrm_snoc_zero]
theorem nrm_stop {ws : List Nat} {k : Nat} (hk : k + 1 ≤ ws.length) (h : ws.getD k 0 ≠ 0) : nrm (ws.take (k + 1)) = ws.take (k + 1) := by
  rw [take_succ_eq (by omega), nrm_snoc _ h]

set_option maxRecDepth 100000 in
set_option maxHeartbeats 400000 in
theorem norm_block (b c n : Nat) (ws : List Nat) (w : World) (hR : Row w b 0 ws) (hl : ws.length ≤ n) (hl' : n ≤ ws.length) (hn : n ≤ 100000) (hc : n ≤ c) (hc' : c ≤ 100000) :
    Calls Tryz.prog 98 #[.slice (some ⟨b, 0, none⟩) n c] w fun e w' => e = .returned (.slice (some ⟨b, 0, none⟩) (nrm ws).length c) ∧ w' = w := by
  go_enter Tryz.func98, Tryz.ntmps98
  go_wp2_with fail
  go_loop [3] (fun i3 => ∃ k : Nat, k ≤ n ∧ i3 = .int .i64 (k : Int) ∧ nrm (ws.take k) = nrm ws) (fun i3 => (intOf i3).toNat)
  case atStart => exact ⟨n, by omega, rfl, by rw [List.take_of_length_le hl]⟩
  case round =>
    obtain ⟨k, hk, rfl, hE⟩ := hrel
    by_cases h0 : 0 < k
    · obtain ⟨j, rfl⟩ : ∃ j, k = j + 1 := ⟨k - 1, by omega⟩
      have ej : (((j + 1 : Nat) : Int) - 1) = (j : Int) := by omega
      have hw : IntKind.i64.wrap (((j + 1 : Nat) : Int) - 1) = (j : Int) := by rw [IntKind.wrap_i64]; omega
      have hx := hR j (by omega)
      rw [Nat.zero_add] at hx
      have hs := nrm_step (ws := ws) (k := j) (by omega)
      have ht := nrm_stop (ws := ws) (k := j) (by omega)
      generalize ws.getD j 0 = x at hx hs ht
      by_cases hx0 : x = 0
      · have hE2 := Lib.hid ((hs hx0).symm.trans hE)
        subst hx0
        clear hs ht hE
        go_wp2
        go_round
        case rel => exact ⟨j, by omega, rfl, hE2.out⟩
        case measure => simp [intOf]
      · have hd : ((x : Int) == 0) = false := by simp; omega
        have hlen : (ws.take (j + 1)).length = j + 1 := by simp; omega
        have hE2 := (ht hx0).symm.trans hE
        rw [hE2] at hlen
        clear hE hE2 hs ht
        have HP := Lib.hid (show Value.slice (some ⟨b, 0, none⟩) (nrm ws).length c = Value.slice (some ⟨b, 0, none⟩) (j + 1) c by rw [hlen])
        clear hlen
        go_wp2
        go_ret
        exact ⟨congrArg Ending.returned HP.out.symm, rfl⟩
    · have hk0 : k = 0 := by omega
      subst hk0
      have hlen : (nrm ws).length = 0 := by rw [← hE]; simp [nrm_nil]
      have HP := Lib.hid (show Value.slice (some ⟨b, 0, none⟩) (nrm ws).length c = Value.slice (some ⟨b, 0, none⟩) 0 c by rw [hlen])
      clear hlen hE
      go_wp2
      go_ret
      exact ⟨congrArg Ending.returned HP.out.symm, rfl⟩

/-- What an operation on nats hands back: the value val, in the block of the receiver or in a new one. -/
def NatPost (w : World) (zo : Option Nat) (val : Nat) (e : Ending) (w' : World) : Prop :=
  ∃ v o ws, e = .returned v ∧ Own w' v o ws ∧ Wd ws ∧ Nz ws ∧ vl ws = val ∧ Fr zo.toList w w' ∧ Later w zo o

/-- norm, of the first words of a block. -/
theorem norm_own {b n : Nat} {Z ws : List Nat} {w : World} (hZ : Blk w b Z) (ht : Z.take ws.length = ws) (hl : ws.length = n) (hn : n ≤ Z.length) (h0 : 0 < Z.length) (hc : Z.length ≤ 100000) (hw : Wd ws) :
    Calls Tryz.prog 98 #[.slice (some ⟨b, 0, none⟩) n Z.length] w fun e w' => w' = w ∧ ∃ v, e = .returned v ∧ Own w v (some b) (nrm ws) ∧ Wd (nrm ws) ∧ Nz (nrm ws) ∧ vl (nrm ws) = vl ws := by
  refine (norm_block b Z.length n ws w (hZ.row_take ht) (by omega) (by omega) (by omega) hn hc).mono ?_
  rintro e w' ⟨rfl, rfl⟩
  obtain ⟨h1, h2, h3, h4⟩ := nrm_spec ws
  refine ⟨rfl, _, rfl, .inr ⟨b, Z, rfl, rfl, hZ, ?_, by omega, h0, hc⟩, nrm_Wd hw, h1, h2⟩
  rw [h3, ← ht, List.take_take]
  congr 1
  simp at h4 ⊢
  omega
theorem norm_nil {v : Value} (hv : v = .slice none 0 0) (w : World) : Calls Tryz.prog 98 #[v] w fun e w' => e = .returned (.slice none 0 0) ∧ w' = w := by
  subst hv
  go_enter Tryz.func98, Tryz.ntmps98
  go_wp2_with fail
  go_loop [3] (fun i3 => i3 = .int .i64 0) (fun i3 => 0)
  case atStart => rfl
  case round =>
    subst hrel
    go_wp2
    go_ret
    exact ⟨rfl, rfl⟩

theorem Later.refl (w : World) (o : Option Nat) : Later w o o := .inl rfl
theorem Own.of_blk {w : World} {b n : Nat} {Z ws : List Nat} (hZ : Blk w b Z) (hn : n = ws.length) (ht : Z.take ws.length = ws) (hl : ws.length ≤ Z.length) (h0 : 0 < Z.length) (hc : Z.length ≤ 100000) : Own w (.slice (some ⟨b, 0, none⟩) n Z.length) (some b) ws :=
  .inr ⟨b, Z, rfl, by rw [hn], hZ, ht, hl, h0, hc⟩
theorem Own.some_blk {w : World} {v : Value} {b : Nat} {ws : List Nat} (h : Own w v (some b) ws) : ∃ Z, v = .slice (some ⟨b, 0, none⟩) ws.length Z.length ∧ Blk w b Z ∧ Z.take ws.length = ws ∧ ws.length ≤ Z.length ∧ 0 < Z.length ∧ Z.length ≤ 100000 := by
  rcases h with ⟨_, h, _⟩ | ⟨c, Z, h1, h2, h3, h4, h5, h6, h7⟩
  · cases h
  · injection h1 with h1; subst h1; exact ⟨Z, h2, h3, h4, h5, h6, h7⟩

/-- What a run from a made block comes to, as seen from before. -/
theorem Fr.made {w w1 w2 : World} {zo : Option Nat} {b : Nat} (h1 : Fr [] w w1) (hl : Later w zo (some b)) (h2 : Fr [b] w1 w2) : Fr zo.toList w w2 := by
  refine Fr.trans_new (h1.mono (by simp)) h2 ?_
  intro x hx
  simp at hx
  subst hx
  rcases hl with h | ⟨c, h, hc⟩
  · left; rw [← h]; simp
  · right; injection h with h; subst h; exact hc

set_option maxRecDepth 100000 in
set_option maxHeartbeats 400000 in
theorem setWord {zv : Value} {zo : Option Nat} {zs : List Nat} {x : Nat} {w : World} (hz : Own w zv zo zs) (hx : x < Bw) :
    Calls Tryz.prog 70 #[zv, .int .u64 (x : Int)] w (NatPost w zo x) := by
  by_cases h0 : x = 0
  · subst h0
    have hfin : ∀ v, Own w v zo [] → NatPost w zo 0 (.returned v) w := fun v h => ⟨v, zo, [], rfl, h, Wd.nil, Nz.nil, rfl, Fr.refl _ _, Later.refl _ _⟩
    rcases hz with ⟨rfl, rfl, rfl⟩ | ⟨b, Z, rfl, rfl, hZ, h4, h5, h6, h7⟩
    · have HP := Lib.hid (hfin _ (Own.nil w))
      clear hfin
      go_enter Tryz.func70, Tryz.ntmps70
      go_wp2
      go_ret
      exact HP.out
    · have HP := Lib.hid (hfin _ (Own.of_blk (ws := []) hZ rfl rfl (by simp) h6 h7))
      clear hfin
      go_enter Tryz.func70, Tryz.ntmps70
      go_wp2
      go_ret
      exact HP.out
  · have hd : ((x : Int) == 0) = false := by simp; omega
    have hsl := hz.slice
    obtain ⟨za, zc, hzv⟩ := hsl
    have hcall : Calls Tryz.prog 96 #[zv, .int .i64 1] w (MakePost w zo 1) := make_own (n := 1) hz (by omega) (by omega)
    rw [hzv] at hcall ⊢
    have hset : ∀ (bz : Nat) (Z : List Nat) (c : Nat) (w1 : World), Z.length = c → Blk w1 bz Z → 1 ≤ Z.length → 0 < Z.length → Z.length ≤ 100000 → Fr [] w w1 → Later w zo (some bz) →
        Hid (NatPost w zo x (.returned (.slice (some ⟨bz, 0, none⟩) 1 c)) (w1.setCell ⟨bz, 0, none⟩ (.int .u64 (x : Int)))) := by
      intro bz Z c w1 hc hZ h1 h2 h3 h4 h5
      have hs := hZ.set 0 x
      have hf := (Fr.refl [bz] w1).set (c := bz) (.inl (by simp)) 0 (.int .u64 (x : Int))
      exact Lib.hid ⟨_, some bz, [x], rfl, by
        rw [← hc]
        have := Own.of_blk (n := 1) (ws := [x]) hs rfl (by cases Z with | nil => simp at h2 | cons a t => simp) (by simp; omega) (by simp; omega) (by simp; omega)
        simpa using this, Wd.one hx, by intro h; simpa using h0, by simp [vl], h4.made h5 hf, h5⟩
    go_enter Tryz.func70, Tryz.ntmps70
    go_wp2_with (go_at_call 96; (refine hcall.mono ?_); rintro e w1 ⟨bz, Z, c, rfl, hc, hZ, h1, h2, h3, h4, h5⟩; have HP := hset bz Z c w1 hc hZ h1 h2 h3 h4 h5; have hcell := hZ.cell 0 (by omega); generalize Z.getD 0 0 = x0 at hcell; have hfz := hZ.frozen 0; clear hc hZ hset)
    go_ret
    exact HP.out

theorem Own.of_spl {w : World} {b n : Nat} {Z zs : List Nat} (hZ : Blk w b (spl Z 0 zs)) (hn : n = zs.length) (hl : zs.length ≤ Z.length) (h0 : 0 < Z.length) (hc : Z.length ≤ 100000) : Own w (.slice (some ⟨b, 0, none⟩) n Z.length) (some b) zs := by
  have e := spl_length Z 0 zs (by omega)
  have := Own.of_blk (n := n) (ws := zs) hZ hn (spl_zero_take _ _) (by omega) (by omega) (by omega)
  rwa [e] at this

set_option maxRecDepth 100000 in
set_option maxHeartbeats 400000 in
theorem set_own {zv : Value} {zo : Option Nat} {zs : List Nat} {xv : Value} {xo : Option Nat} {xs : List Nat} {w : World} (hz : Own w zv zo zs) (hx : Own w xv xo xs) (wX : Wd xs) (nX : Nz xs) (hne : xs ≠ []) (hl : xs.length ≤ 90000) :
    Calls Tryz.prog 93 #[zv, xv] w (NatPost w zo (vl xs)) := by
  have h0 : 0 < xs.length := by cases xs with | nil => exact absurd rfl hne | cons a t => simp
  have hcall : Calls Tryz.prog 96 #[zv, .int .i64 (xs.length : Int)] w (MakePost w zo xs.length) := make_own hz (by omega) h0
  obtain ⟨za, zc, hzv⟩ := hz.slice
  obtain ⟨bx, X, hxo, rfl, hX, htX, hlX, hcX⟩ := hx.block hne
  have hset : ∀ (bz : Nat) (Z : List Nat) (c : Nat) (w1 : World), Z.length = c → Blk w1 bz Z → xs.length ≤ Z.length → 0 < Z.length → Z.length ≤ 100000 → Fr [] w w1 → Later w zo (some bz) →
      Hid (NatPost w zo (vl xs) (.returned (.slice (some ⟨bz, 0, none⟩) xs.length c)) (putW w1 bz (spl Z 0 xs))) := by
    intro bz Z c w1 hc hZ h1 h2 h3 h4 h5
    obtain ⟨k1, k2⟩ := putW_spec (vs := spl Z 0 xs) hZ
    rw [← hc]
    exact Lib.hid ⟨_, some bz, xs, rfl, Own.of_spl k1 rfl h1 h2 h3, wX, nX, rfl, h4.made h5 k2, h5⟩
  have hrun : ∀ (bz : Nat) (Z : List Nat) (c : Nat) (w1 : World), Z.length = c → Blk w1 bz Z → xs.length ≤ Z.length → Fr [] w w1 → ∀ ty : TypeId,
      (Builtin.copy_ #[97, 97] ty #[.slice (some ⟨bz, 0, none⟩) xs.length c, .slice (some ⟨bx, 0, none⟩) xs.length X.length]).run Tryz.prog w1 = .ok (.int .i64 (xs.length : Int)) (putW w1 bz (spl Z 0 xs)) := by
    intro bz Z c w1 hc hZ h1 h4 ty
    exact run_copy_words 97 97 ty sliceNat' wordSize w1 bz 0 xs.length c bx 0 xs.length X.length Z xs hZ ((hX.row_take htX).fr h4 (by simp)) (Nat.min_self _).symm (by omega)
  rw [hzv] at hcall ⊢
  generalize hxl : xs.length = n at *
  generalize X.length = cX at *
  clear htX hX hx
  go_enter Tryz.func93, Tryz.ntmps93
  go_wp2_with (go_at_call 96; (refine hcall.mono ?_); rintro e w1 ⟨bz, Z, c, rfl, hc, hZ, h1, h2, h3, h4, h5⟩; have HP := hset bz Z c w1 hc hZ h1 h2 h3 h4 h5; have hr := hrun bz Z c w1 hc hZ h1 h4; clear hc hZ hset hrun)
  go_ret
  exact HP.out
end Go.Proofs.YtpmggjplfcjkkaaGreatDoor
