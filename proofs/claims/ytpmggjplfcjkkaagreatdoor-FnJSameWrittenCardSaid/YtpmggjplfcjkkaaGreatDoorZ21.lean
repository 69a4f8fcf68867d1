/- expNN: the bits of the exponent. -/
import Derived.Laws.BitsAllLaws
import Derived.Test.YtpmggjplfcjkkaaGreatDoorZ12
import Derived.Defers
import Derived.Deep.QuietTactic
import Derived.BigQuiet
import Derived.Deep.LoopGhost
import Derived.Test.YtpmggjplfcjkkaaGreatDoorZ20
import Derived.Test.YtpmggjplfcjkkaaGreatDoorZ08
import Derived.Test.YtpmggjplfcjkkaaGreatDoorZ11
import Derived.Test.YtpmggjplfcjkkaaGreatDoorZ07
set_option linter.unusedVariables false
set_option linter.unusedSimpArgs false
namespace Go.Proofs.YtpmggjplfcjkkaaGreatDoor
open Go.RowKit Nq

theorem top_bit {v : Nat} (hv : v < Bw) : bits .and .u64 (v : Int) 9223372036854775808 = if 9223372036854775808 ≤ v then 9223372036854775808 else 0 := by
  rw [Bw_eq] at hv
  have h := u64_and_nat v 9223372036854775808 hv (by omega)
  have e : v &&& 9223372036854775808 = if 9223372036854775808 ≤ v then 9223372036854775808 else 0 := by
    have h2 : (9223372036854775808 : Nat) = 2 ^ 63 := by decide
    rw [h2]
    by_cases hb : 2 ^ 63 ≤ v
    · rw [if_pos hb]
      have h63 : v.testBit 63 = true := by
        rw [Nat.testBit_eq_decide_div_mod_eq]
        have : v / 2 ^ 63 = 1 := by omega
        rw [this]; decide
      apply Nat.eq_of_testBit_eq
      intro i
      rw [Nat.testBit_and, Nat.testBit_two_pow]
      by_cases hi : 63 = i
      · subst hi; simp [h63]
      · simp [hi]
    · rw [if_neg hb]
      apply Nat.eq_of_testBit_eq
      intro i
      rw [Nat.testBit_and, Nat.testBit_two_pow, Nat.zero_testBit]
      by_cases hi : 63 = i
      · subst hi; simp [Nat.testBit_lt_two_pow (show v < 2 ^ 63 by omega)]
      · simp [hi]
  rw [e] at h
  rw [show ((9223372036854775808 : Nat) : Int) = 9223372036854775808 from rfl] at h
  rw [h]
  split <;> rfl

/-- t bits of n are still to come; v bears them at its top; e is what has been read. -/
structure Ebits (n t v e : Nat) : Prop where
  tl : t ≤ 63
  ve : v = (n % 2 ^ t) * 2 ^ (64 - t)
  ee : e = n / 2 ^ t
theorem Ebits.lt {n t v e : Nat} (h : Ebits n t v e) : v < Bw := by
  have ht := h.tl
  rw [h.ve, Bw_split (s := 64 - t) (by omega), show 64 - (64 - t) = t by omega]
  exact Nat.mul_lt_mul_of_pos_right (Nat.mod_lt _ (Nat.two_pow_pos _)) (Nat.two_pow_pos _)
theorem Ebits.step {n t v e : Nat} (h : Ebits n (t + 1) v e) : (9223372036854775808 ≤ v → Ebits n t (shlW v 1) (2 * e + 1)) ∧ (v < 9223372036854775808 → Ebits n t (shlW v 1) (2 * e)) := by
  obtain ⟨ht, hv, he⟩ := h
  have h1 : n % 2 ^ (t + 1) = n % 2 ^ t + 2 ^ t * (n / 2 ^ t % 2) := by rw [Nat.pow_succ, Nat.mod_mul]
  have h2 : n / 2 ^ t = 2 * (n / 2 ^ (t + 1)) + n / 2 ^ t % 2 := by
    rw [Nat.pow_succ, ← Nat.div_div_eq_div_mul]; omega
  have h3 : 2 ^ (64 - t) = 2 * 2 ^ (64 - (t + 1)) := by rw [show 64 - t = (64 - (t + 1)) + 1 by omega, Nat.pow_succ, Nat.mul_comm]
  have h4 : 2 ^ t * 2 ^ (64 - (t + 1)) = 9223372036854775808 := by rw [← Nat.pow_add, show t + (64 - (t + 1)) = 63 by omega]
  have h5 : n % 2 ^ t < 2 ^ t := Nat.mod_lt _ (Nat.two_pow_pos _)
  have h6 : n % 2 ^ t * 2 ^ (64 - (t + 1)) < 9223372036854775808 := by rw [← h4]; exact Nat.mul_lt_mul_of_pos_right h5 (Nat.two_pow_pos _)
  have h7 : v = n % 2 ^ t * 2 ^ (64 - (t + 1)) + 9223372036854775808 * (n / 2 ^ t % 2) := by
    rw [hv, h1, ← h4]
    generalize n % 2 ^ t = a
    generalize n / 2 ^ t % 2 = b
    generalize 2 ^ t = p
    generalize 2 ^ (64 - (t + 1)) = q
    grind
  have h8 : shlW v 1 = n % 2 ^ t * 2 ^ (64 - t) := by
    unfold shlW
    rw [show min 1 64 = 1 from rfl, Nat.pow_one, h3, Bw_eq, h7]
    generalize n % 2 ^ t = lo at *
    generalize 2 ^ (64 - (t + 1)) = p at *
    have hb : n / 2 ^ t % 2 < 2 := Nat.mod_lt _ (by omega)
    generalize n / 2 ^ t % 2 = b at *
    have e9 : lo * (2 * p) = 2 * (lo * p) := by grind
    rw [e9]
    generalize lo * p = x at *
    have : b = 0 ∨ b = 1 := by omega
    rcases this with rfl | rfl <;> omega
  have hb : n / 2 ^ t % 2 < 2 := Nat.mod_lt _ (by omega)
  constructor
  · intro hge
    refine ⟨by omega, h8, ?_⟩
    have : n / 2 ^ t % 2 = 1 := by
      generalize n / 2 ^ t % 2 = b at *
      have : b = 0 ∨ b = 1 := by omega
      rcases this with rfl | rfl <;> omega
    omega
  · intro hlt
    refine ⟨by omega, h8, ?_⟩
    have : n / 2 ^ t % 2 = 0 := by
      generalize n / 2 ^ t % 2 = b at *
      have : b = 0 ∨ b = 1 := by omega
      rcases this with rfl | rfl <;> omega
    omega
/-- At the start: the leading bit is read. -/
theorem Ebits.start {n : Nat} (h0 : 0 < n) (hn : n < Bw) (h2 : nlzW n < 64) : Ebits n (64 - (nlzW n + 1)) (shlW n (nlzW n + 1)) 1 := by
  obtain ⟨s1, s2, s3⟩ := nlzW_spec hn h0
  generalize nlzW n = s at *
  obtain ⟨t, ht⟩ : ∃ t, t = 64 - (s + 1) := ⟨_, rfl⟩
  rw [← ht]
  have hB : Bw = 2 ^ t * 2 ^ (s + 1) := by rw [ht]; exact Bw_split (by omega)
  have hp : 0 < 2 ^ s := Nat.two_pow_pos s
  have e1 : 2 ^ (s + 1) = 2 * 2 ^ s := by rw [Nat.pow_succ, Nat.mul_comm]
  have lo : 2 ^ t ≤ n := by
    rw [hB, e1] at s2
    have : 2 ^ t * 2 ^ s ≤ n * 2 ^ s := by
      have e2 : 2 ^ t * (2 * 2 ^ s) = 2 * (2 ^ t * 2 ^ s) := by rw [Nat.mul_left_comm]
      omega
    exact Nat.le_of_mul_le_mul_right this hp
  have hi : n < 2 ^ t * 2 := by
    rw [hB, e1, ← Nat.mul_assoc] at s3
    exact Nat.lt_of_mul_lt_mul_right s3
  refine ⟨by omega, ?_, ?_⟩
  · unfold shlW
    rw [Nat.min_eq_left (by omega), hB, Nat.mul_mod_mul_right, show 64 - t = s + 1 by omega]
  · have := Nat.div_eq_of_lt_le (m := n) (n := 2 ^ t) (k := 1) (by omega) (by omega)
    omega
theorem pow_five_lt {e : Nat} (he : e ≤ 255) : 5 ^ e < Bw ^ 11 := by
  obtain ⟨k, hk⟩ : ∃ k, k = 85 := ⟨_, rfl⟩
  obtain ⟨m, hm⟩ : ∃ m, m = 11 := ⟨_, rfl⟩
  rw [← hm]
  have h1 : 5 ^ e ≤ 5 ^ (3 * k) := Nat.pow_le_pow_right (by omega) (by omega)
  have h2 : (5 ^ 3) ^ k ≤ (2 ^ 7) ^ k := Nat.pow_le_pow_left (by decide) k
  rw [← Nat.pow_mul, ← Nat.pow_mul] at h2
  have h3 : (2 : Nat) ^ (7 * k) < 2 ^ (64 * m) := Nat.pow_lt_pow_right (by omega) (by omega)
  rw [Nat.pow_mul 2 64 m, ← Bw_pow] at h3
  exact Nat.lt_of_le_of_lt h1 (Nat.lt_of_le_of_lt h2 h3)
end Go.Proofs.YtpmggjplfcjkkaaGreatDoor

/- expNN. -/
set_option linter.unusedVariables false
set_option linter.unusedSimpArgs false
namespace Go.Proofs.YtpmggjplfcjkkaaGreatDoor
open Go.RowKit Nq

/-- Between two rounds: z is 5 to the e; zz lies aside. -/
structure Ex (w0 w : World) (xv : Value) (xo : Option Nat) (zv zzv : Value) (e : Nat) : Prop where
  z : ∃ zo, IsN w zv zo (5 ^ e) ∧ (∃ b, zo = some b ∧ w0.heap.size ≤ b) ∧ ∃ zzo zzs, Own w zzv zzo zzs ∧ (zzo = none ∨ ∃ b, zzo = some b ∧ w0.heap.size ≤ b) ∧ ∀ b, zzo = some b → zo ≠ some b
  x : IsN w xv xo 5
  xl : ∀ b, xo = some b → b < w0.heap.size
  fr : Fr [] w0 w

theorem Ex.op {w0 w w' : World} {xv : Value} {xo : Option Nat} {zv zzv : Value} {e e2 : Nat} (h : Ex w0 w xv xo zv zzv e) {zzo : Option Nat} {zzs : List Nat} (ho : Own w zzv zzo zzs) (hn : zzo = none ∨ ∃ b, zzo = some b ∧ w0.heap.size ≤ b) {zo : Option Nat} (hz : IsN w zv zo (5 ^ e)) (hz0 : ∃ b, zo = some b ∧ w0.heap.size ≤ b) (hne : ∀ b, zzo = some b → zo ≠ some b)
    {v : Value} {o : Option Nat} (hv : IsN w' v o (5 ^ e2)) (hF : Fr zzo.toList w w') (hl : Later w zzo o) : Ex w0 w' xv xo v zv e2 := by
  have hF0 : Fr [] w0 w' := h.fr.trans_new hF (by
    intro x hx
    simp at hx
    right
    rcases hn with e | ⟨b, e, hb⟩
    · rw [e] at hx; cases hx
    · rw [e] at hx; injection hx with hx; omega)
  have hvo : v ≠ .slice none 0 0 := by
    obtain ⟨ws, h1, h2, h3, h4⟩ := hv
    intro hvn
    rcases h1 with ⟨_, _, e1⟩ | ⟨b, Z, e1, e2', _⟩
    · subst e1; have : 0 < 5 ^ e2 := Nat.pow_pos (by omega); simp at h4; omega
    · rw [e2'] at hvn; injection hvn with hvn; cases hvn
  have ho2 : ∃ b, o = some b ∧ w0.heap.size ≤ b := by
    have hsz := h.fr.size
    obtain ⟨ws, h1, h2, h3, h4⟩ := hv
    rcases h1 with ⟨e1, _, _⟩ | ⟨b, Z, e1, _⟩
    · exact absurd e1 hvo
    · refine ⟨b, e1, ?_⟩
      rcases hl with h' | ⟨c, h', hc⟩
      · rcases hn with e | ⟨d, e, hd⟩
        · rw [h', e] at e1; cases e1
        · rw [h', e] at e1; injection e1 with e1; omega
      · rw [h'] at e1; injection e1 with e1; omega
  have hzw : IsN w' zv zo (5 ^ e) := hz.fr hF (by
    intro b hb hin
    simp at hin
    exact hne b hin hb)
  obtain ⟨zs, hzo, _⟩ := hzw
  have hzl : ∀ b, zo = some b → b < w.heap.size := fun b hb => hz.lt hb
  refine ⟨⟨o, hv, ho2, zo, zs, hzo, ?_, ?_⟩, h.x.fr hF ?_, h.xl, hF0⟩
  · exact .inr hz0
  · intro b hb hob
    rcases hl with h' | ⟨c, h', hc⟩
    · rw [h'] at hob; exact hne b hob hb
    · rw [h'] at hob; injection hob with hob; have := hzl b hb; omega
  · intro b hb hin
    simp at hin
    have h1 := h.xl b hb
    rcases hn with e | ⟨d, e, hd⟩
    · rw [e] at hin; cases hin
    · rw [e] at hin; injection hin with hin; omega
theorem Ex.sqr {w0 w : World} {xv : Value} {xo : Option Nat} {zv zzv : Value} {e : Nat} (stk : Value) (h : Ex w0 w xv xo zv zzv e) (he : 2 * e ≤ 255) (hT : Th w0) :
    Calls Tryz.prog 122 #[zzv, stk, zv] w fun en w' => ∃ v, en = .returned v ∧ Hid (Ex w0 w' xv xo v zv (2 * e)) := by
  obtain ⟨zo, h1, h2, zzo, zzs, h3, h4, h5⟩ := h.z
  refine (sqr_N stk h3 h1 (pow_five_lt (by omega)) (hT.fr h.fr (by simp))).mono ?_
  intro en w' hp
  obtain ⟨v, o, rfl, k1, k2, k3⟩ := hp.isN
  rw [← Nat.pow_add, show e + e = 2 * e by omega] at k1
  exact ⟨v, rfl, Lib.hid (h.op h3 h4 h1 h2 h5 k1 k2 k3)⟩
theorem Ex.mul {w0 w : World} {xv : Value} {xo : Option Nat} {zv zzv : Value} {e : Nat} (stk : Value) (h : Ex w0 w xv xo zv zzv e) (he : e + 1 ≤ 255) (hT : Th w0) :
    Calls Tryz.prog 56 #[zzv, stk, zv, xv] w fun en w' => ∃ v, en = .returned v ∧ Hid (Ex w0 w' xv xo v zv (e + 1)) := by
  obtain ⟨zo, h1, h2, zzo, zzs, h3, h4, h5⟩ := h.z
  have hb := pow_mono (m := 11) (n := 39) (by decide)
  have h5' : 5 < Bw ^ 39 := Nat.lt_of_lt_of_le (show 5 < Bw ^ 11 from Nat.lt_of_le_of_lt (by decide) (pow_five_lt (e := 1) (by decide))) hb
  refine (mul_N stk h3 h1 h.x (Nat.lt_of_lt_of_le (pow_five_lt (by omega)) hb) h5' (hT.fr h.fr (by simp))).mono ?_
  intro en w' hp
  obtain ⟨v, o, rfl, k1, k2, k3⟩ := hp.isN
  rw [← Nat.pow_succ] at k1
  exact ⟨v, rfl, Lib.hid (h.op h3 h4 h1 h2 h5 k1 k2 k3)⟩
theorem Ex.slices {w0 w : World} {xv : Value} {xo : Option Nat} {zv zzv : Value} {e : Nat} (h : Ex w0 w xv xo zv zzv e) : (∃ a l c, zv = .slice a l c) ∧ ∃ a l c, zzv = .slice a l c := by
  obtain ⟨zo, h1, h2, zzo, zzs, h3, h4, h5⟩ := h.z
  obtain ⟨a, c, h6⟩ := h3.slice
  exact ⟨h1.slice, a, _, c, h6⟩
end Go.Proofs.YtpmggjplfcjkkaaGreatDoor

/- expNN: the walk. -/
set_option linter.unusedVariables false
set_option linter.unusedSimpArgs false
namespace Go.Proofs.YtpmggjplfcjkkaaGreatDoor
open Go.RowKit Nq

set_option maxRecDepth 100000 in
set_option maxHeartbeats 4000000 in
theorem expNN_one {xv yv : Value} {xo yo : Option Nat} (s : Addr) {w : World} (hx : IsN w xv xo 5) (hy : IsN w yv yo 1) :
    Calls Tryz.prog 68 #[.slice none 0 0, .pointer (some s), xv, yv, .slice none 0 0, .bool false] w (NatPost w none (5 ^ 1)) := by
  obtain ⟨xs, x1, wX, nX, eX⟩ := hx
  obtain ⟨ys, y1, wY, nY, eY⟩ := hy
  have h5w : 5 < Bw := by rw [Bw_eq]; omega
  have one : ∀ (zs : List Nat) (n : Nat), Wd zs → Nz zs → vl zs = n → 0 < n → n < Bw → zs = [n] := by
    intro zs n wz nz ez h0 hlt
    have hl : zs.length ≤ 1 := length_le_of_lt_pow nz (by rw [Nat.pow_one, ez]; exact hlt)
    match zs, hl with
    | [], _ => simp at ez; omega
    | [z], _ => simp [vl] at ez; rw [ez]
  have e1 := one xs 5 wX nX eX (by omega) h5w
  have e2 := one ys 1 wY nY eY (by omega) (by omega)
  subst e1 e2
  have ha : ∀ v o l, Own w v o l → ∀ k, Calls Tryz.prog 95 #[.slice none 0 0, v] (w.drewN k) fun e w' => e = .returned (.bool false) ∧ ∃ m, w' = (w.drewN k).drewN m := fun v o l h k => alias_own ((Own.nil w).drewN k) (h.drewN k)
  have ha1 : Calls Tryz.prog 95 #[.slice none 0 0, xv] w fun e w' => e = .returned (.bool false) ∧ ∃ m, w' = w.drewN m := alias_own (Own.nil w) x1
  have ha2 := ha _ _ _ y1
  have hset : ∀ k, Calls Tryz.prog 93 #[.slice none 0 0, xv] (w.drewN k) (NatPost w none 5) := fun k => by
    have := set_own (Own.nil (w.drewN k)) (x1.drewN k) wX nX (by simp) (by simp)
    rw [show vl [5] = 5 by simp [vl]] at this
    exact this.mono fun _ _ h => h.of_drewN
  have hfin : ∀ e w1, NatPost w none 5 e w1 → ∃ v, e = .returned v ∧ Hid (NatPost w none (5 ^ 1) (.returned v) w1) := by
    rintro e w1 ⟨v, o, ws, rfl, hp⟩
    exact ⟨v, rfl, Lib.hid ⟨v, o, ws, rfl, hp⟩⟩
  obtain ⟨bx, X, _, rfl, hX, tX, lX, _⟩ := x1.block (by simp)
  obtain ⟨by_, Y, _, rfl, hY, tY, lY, _⟩ := y1.block (by simp)
  have c1 : w.cell? ⟨bx, 0, none⟩ = some (.int .u64 5) := (hX.row_take tX) 0 (by simp)
  have c2 : w.cell? ⟨by_, 0, none⟩ = some (.int .u64 1) := (hY.row_take tY) 0 (by simp)
  simp only [List.length_singleton] at lX lY ha1 ha2 hset ⊢
  generalize X.length = cX at *
  generalize Y.length = cY at *
  clear x1 y1 hX hY tX tY wX nX wY nY eX eY one ha
  go_enter Tryz.func68, Tryz.ntmps68
  go_wp2_with (first | (go_at_call 95; (first | ((with_reducible refine ha1.mono ?_); rintro e w' ⟨rfl, k1, rfl⟩) | ((with_reducible refine (ha2 k1).mono ?_); rintro e w' ⟨rfl, k2, rfl⟩; rw [drewN_drewN]))) | (go_at_call 93; (with_reducible refine (hset _).mono ?_); rintro e w1 hp; obtain ⟨v, rfl, HP⟩ := hfin e w1 hp))
  go_ret
  exact HP.out
/-- norm of what is trimmed already. -/
theorem norm_N {v : Value} {o : Option Nat} {a : Nat} {w0 w : World} (h : IsN w v o a) (ha : 0 < a) (hF : Fr [] w0 w) (ho : ∃ b, o = some b ∧ w0.heap.size ≤ b) : Calls Tryz.prog 98 #[v] w fun e w' => ∃ v', e = .returned v' ∧ Hid (NatPost w0 none a (.returned v') w') := by
  obtain ⟨ws, h1, h2, h3, h4⟩ := h
  have hne : ws ≠ [] := by intro e; subst e; simp at h4; omega
  obtain ⟨b, Z, h5, rfl, h7, h8, h9, h10⟩ := h1.block hne
  have hp := pos_of_ne hne
  refine (norm_own h7 h8 rfl h9 (by omega) h10 h2).mono ?_
  rintro e w' ⟨rfl, v', rfl, k1, k2, k3, k4⟩
  obtain ⟨c, hc, hc2⟩ := ho
  refine ⟨v', rfl, Lib.hid ⟨v', some b, _, rfl, k1, k2, k3, by rw [k4, h4], hF, .inr ⟨b, rfl, ?_⟩⟩⟩
  rw [h5] at hc; injection hc with hc; omega

set_option maxRecDepth 100000 in
set_option maxHeartbeats 4000000 in
theorem expNN_more {xv yv : Value} {xo yo : Option Nat} {n : Nat} (s : Addr) {w : World} (hx : IsN w xv xo 5) (hy : IsN w yv yo n) (hn2 : 2 ≤ n) (hn : n ≤ 255) (hT : Th w) :
    Calls Tryz.prog 68 #[.slice none 0 0, .pointer (some s), xv, yv, .slice none 0 0, .bool false] w (NatPost w none (5 ^ n)) := by
  have hx' := hx
  obtain ⟨xs, x1, wX, nX, eX⟩ := hx
  obtain ⟨ys, y1, wY, nY, eY⟩ := hy
  have h5w : 5 < Bw := by rw [Bw_eq]; omega
  have hnw : n < Bw := by rw [Bw_eq]; omega
  have one : ∀ (zs : List Nat) (n : Nat), Wd zs → Nz zs → vl zs = n → 0 < n → n < Bw → zs = [n] := by
    intro zs n wz nz ez h0 hlt
    have hl : zs.length ≤ 1 := length_le_of_lt_pow nz (by rw [Nat.pow_one, ez]; exact hlt)
    match zs, hl with
    | [], _ => simp at ez; omega
    | [z], _ => simp [vl] at ez; rw [ez]
  have e1 := one xs 5 wX nX eX (by omega) h5w
  have e2 := one ys n wY nY eY (by omega) hnw
  subst e1 e2
  have ha1 : Calls Tryz.prog 95 #[.slice none 0 0, xv] w fun e w' => e = .returned (.bool false) ∧ ∃ m, w' = w.drewN m := alias_own (Own.nil w) x1
  have ha2 : ∀ k, Calls Tryz.prog 95 #[.slice none 0 0, yv] (w.drewN k) fun e w' => e = .returned (.bool false) ∧ ∃ m, w' = (w.drewN k).drewN m := fun k => alias_own ((Own.nil w).drewN k) (y1.drewN k)
  have hset : ∀ k, Calls Tryz.prog 93 #[.slice none 0 0, xv] (w.drewN k) (NatPost w none (5 ^ 1)) := fun k => by
    have := set_own (Own.nil (w.drewN k)) (x1.drewN k) wX nX (by simp) (by simp)
    rw [show vl [5] = 5 ^ 1 by simp [vl]] at this
    exact this.mono fun _ _ h => h.of_drewN
  obtain ⟨s1, s2, s3⟩ := nlzW_spec hnw (show 0 < n by omega)
  have hnl := nlz n hnw
  have hst := Ebits.start (n := n) (by omega) hnw s1
  obtain ⟨sh, hsh⟩ : ∃ sh, sh = nlzW n := ⟨_, rfl⟩
  rw [← hsh] at hst hnl s1
  obtain ⟨sh1, hsh1⟩ : ∃ sh1, sh1 = sh + 1 := ⟨_, rfl⟩
  obtain ⟨wb, hwb⟩ : ∃ wb, wb = 64 - sh1 := ⟨_, rfl⟩
  rw [← hsh1, ← hwb] at hst
  have q1 : (sh : Int) + 1 = (sh1 : Int) := by omega
  have q2 : IntKind.u64.wrap (sh1 : Int) = (sh1 : Int) := wrap_u64 sh1 (by rw [Bw_eq]; omega)
  have q3 : IntKind.i64.wrap (sh1 : Int) = (sh1 : Int) := by rw [IntKind.wrap_i64]; omega
  have q4 : (64 : Int) - (sh1 : Int) = (wb : Int) := by omega
  have q5 := kw_shl (show sh1 ≤ 64 by omega)
  have q6 : sh1 ≤ 64 := by omega
  have q7 : wb ≤ 64 := by omega
  have hd5 : ((5 : Int) == 1) = false := by decide
  have hdn : ((n : Int) == 1) = false := by rw [beq_eq_false_iff_ne]; omega
  have hcellY : ∀ w1, Fr [] w w1 → ∃ by_ cY, yv = .slice (some ⟨by_, 0, none⟩) 1 cY ∧ w1.cell? ⟨by_, 0, none⟩ = some (.int .u64 (n : Int)) := by
    intro w1 hF
    obtain ⟨by_, Y, _, e, hY, tY, lY, _⟩ := y1.block (by simp)
    have h1 : w.cell? ⟨by_, 0, none⟩ = some (.int .u64 (n : Int)) := (hY.row_take tY) 0 (by simp)
    exact ⟨by_, _, e, (cell_fr hF hY.lt (by simp)).trans h1⟩
  have hEx : ∀ v w1, NatPost w none (5 ^ 1) (.returned v) w1 → Ex w w1 xv xo v (.slice none 0 0) 1 := by
    intro v w1 hp
    obtain ⟨v', o, e, k1, k2, k3⟩ := hp.isN
    injection e with e
    subst e
    refine ⟨⟨o, k1, ?_, none, [], Own.nil w1, .inl rfl, by intro b hb; cases hb⟩, hx'.fr k2 (by simp), fun b hb => hx'.lt hb, k2⟩
    rcases k3 with h | ⟨b, h, hb⟩
    · subst h
      obtain ⟨ws, m1, m2, m3, m4⟩ := k1
      rcases m1 with ⟨_, _, e3⟩ | ⟨b, Z, e3, _⟩
      · subst e3; simp at m4
      · cases e3
    · exact ⟨b, h, hb⟩
  have HT := Lib.hid hT
  have hfin : ∀ w1 v, NatPost w none (5 ^ 1) (.returned v) w1 → ∃ a l c, v = .slice a l c ∧ (∃ by_ cY, yv = .slice (some ⟨by_, 0, none⟩) 1 cY ∧ w1.cell? ⟨by_, 0, none⟩ = some (.int .u64 (n : Int))) ∧ Hid (Ex w w1 xv xo v (.slice none 0 0) 1) := by
    intro w1 v hp
    have h1 := hEx v w1 hp
    obtain ⟨a, l, c, h2⟩ := h1.slices.1
    exact ⟨a, l, c, h2, hcellY w1 h1.fr, Lib.hid h1⟩
  obtain ⟨bx, X, _, rfl, hX, tX, lX, _⟩ := x1.block (by simp)
  obtain ⟨by_, Y, _, rfl, hY, tY, lY, _⟩ := y1.block (by simp)
  have c1 : w.cell? ⟨bx, 0, none⟩ = some (.int .u64 5) := (hX.row_take tX) 0 (by simp)
  have c2 : w.cell? ⟨by_, 0, none⟩ = some (.int .u64 (n : Int)) := (hY.row_take tY) 0 (by simp)
  simp only [List.length_singleton] at lX lY ha1 ha2 hset hfin ⊢
  generalize X.length = cX at *
  generalize Y.length = cY at *
  have Hst := Lib.hid hst
  have Hn2 := Lib.hid hn
  have Hn3 := Lib.hid hn2
  obtain ⟨V0, hV0⟩ : ∃ V0, V0 = shlW n sh1 := ⟨_, rfl⟩
  have q8 : IntKind.u64.wrap ((n : Int) * 2 ^ sh1) = (V0 : Int) := by rw [hV0]; exact q5 n
  rw [← hV0] at hst
  have HST := Lib.hid hst
  clear hx' x1 y1 hX hY tX tY wX nX wY nY eX eY one hcellY hEx hst Hst hT s1 s2 s3 hsh hsh1 hwb h5w hn hV0 q5
  go_enter Tryz.func68, Tryz.ntmps68
  go_wp2_with (first | (go_at_call 95; (first | ((with_reducible refine ha1.mono ?_); rintro e w' ⟨rfl, k1, rfl⟩) | ((with_reducible refine (ha2 k1).mono ?_); rintro e w' ⟨rfl, k2, rfl⟩; rw [drewN_drewN]))) | (go_at_call 93; (with_reducible refine (hset _).mono ?_); rintro e w1 ⟨v, o, ws, rfl, hp⟩; obtain ⟨va, vl, vc, rfl, ⟨by2, cY2, ey, hcy⟩, HE⟩ := hfin w1 v ⟨v, o, ws, rfl, hp⟩; injection ey with ey1 ey2 ey3; injection ey1 with ey1; injection ey1 with ey1; subst ey1; clear hp ey2 ey3 hset hfin c1 c2) | (go_at_call 121; (with_reducible refine (hnl _).mono ?_); rintro e w2 ⟨rfl, rfl⟩))
  go_loopg [0, 15, 19, 21] wb (fun g c0 c15 c19 c21 wr => ∃ (v e j : Nat) (a : Option Addr) (l c : Nat) (a' : Option Addr) (l' c' : Nat), c0 = .slice a l c ∧ c15 = .int .u64 (v : Int) ∧ c19 = .slice a' l' c' ∧ c21 = .int .i64 (j : Int) ∧ Hid (g + j = wb) ∧ Hid (Ebits n g v e) ∧ Hid (Ex w wr (.slice (some ⟨bx, 0, none⟩) 1 cX) xo (.slice a l c) (.slice a' l' c') e))
  case atStart => exact ⟨V0, 1, 0, _, _, _, _, _, _, rfl, rfl, rfl, rfl, Lib.hid rfl, HST, HE⟩
  case round =>
    obtain ⟨v, e, j, a, l, c, a', l', c', rfl, rfl, rfl, rfl, hg, hb, hx⟩ := hrel
    clear HE HST hcy hnl ha1 ha2
    have hle : e ≤ n := by rw [hb.out.ee]; exact Nat.div_le_self _ _
    by_cases h0 : gk = 0
    · subst h0
      have hj : j = wb := by have := hg.out; omega
      have he : e = n := by have := hb.out.ee; rw [this]; simp
      subst hj
      have hN : Calls Tryz.prog 98 #[.slice a l c] wr fun en w' => ∃ v', en = .returned v' ∧ Hid (NatPost w none (5 ^ n) (.returned v') w') := by
        have h := hx.out
        rw [he] at h
        obtain ⟨zo, h1, h2, _⟩ := h.z
        exact norm_N h1 (Nat.pow_pos (by omega)) h.fr h2
      clear he hle
      go_wp2_with fail
      go_loop [0, 22] (fun c0 c22 => c0 = .slice a l c ∧ c22 = .int .i64 (-1)) (fun _ _ => 0)
      case atStart => exact ⟨rfl, rfl⟩
      case round =>
        obtain ⟨rfl, rfl⟩ := hrel
        go_wp2_with (go_at_call 98; (with_reducible refine hN.mono ?_); rintro en w6 ⟨v6, rfl, HP⟩)
        go_ret
        exact HP.out
    · obtain ⟨t, rfl⟩ : ∃ t, gk = t + 1 := ⟨gk - 1, by omega⟩
      have hjw : j < wb := by have := hg.out; omega
      have h2e : 2 * e + 1 ≤ 255 ∨ 2 * e ≤ n := by
        right
        have h1 := hb.out.ee
        have h2 : n / 2 ^ (t + 1) = n / 2 / 2 ^ t := by rw [Nat.pow_succ, Nat.mul_comm, Nat.div_div_eq_div_mul]
        have h3 : n / 2 / 2 ^ t ≤ n / 2 := Nat.div_le_self _ _
        omega
      have h2e' : 2 * e ≤ 255 := by have := Hn2.out; omega
      have kS := (hx.out.sqr (.pointer (some s)) h2e' HT.out)
      obtain ⟨st1, st2⟩ := hb.out.step
      have hvl := hb.out.lt
      have tb := top_bit hvl
      obtain ⟨V2, hV2⟩ : ∃ V2, V2 = shlW v 1 := ⟨_, rfl⟩
      have r1 : IntKind.u64.wrap ((v : Int) * 2) = (V2 : Int) := by rw [hV2]; have := kw_shl (s := 1) (by omega) v; simpa using this
      rw [← hV2] at st1 st2
      have hj1 : Hid (t + (j + 1) = wb) := Lib.hid (by have := hg.out; omega)
      by_cases hbit : 9223372036854775808 ≤ v
      · rw [if_pos hbit] at tb
        have hs1 := Lib.hid (st1 hbit)
        have h3e : 2 * e + 1 ≤ 255 := by
          have h1 := hs1.out.ee
          have h2 : n / 2 ^ t ≤ n := Nat.div_le_self _ _
          have := Hn2.out
          omega
        have hM : ∀ w1 v1, Ex w w1 (.slice (some ⟨bx, 0, none⟩) 1 cX) xo v1 (.slice a l c) (2 * e) → ∃ a1 l1 c1, v1 = .slice a1 l1 c1 ∧ Calls Tryz.prog 56 #[.slice a l c, .pointer (some s), v1, .slice (some ⟨bx, 0, none⟩) 1 cX] w1 fun en w' => ∃ a2 l2 c2, en = .returned (.slice a2 l2 c2) ∧ Hid (Ex w w' (.slice (some ⟨bx, 0, none⟩) 1 cX) xo (.slice a2 l2 c2) v1 (2 * e + 1)) := by
          intro w1 v1 h
          obtain ⟨a1, l1, c1, h1⟩ := h.slices.1
          refine ⟨a1, l1, c1, h1, (h.mul (.pointer (some s)) h3e HT.out).mono ?_⟩
          rintro en w' ⟨v2, rfl, h2⟩
          obtain ⟨a2, l2, c2, h3⟩ := h2.out.slices.1
          subst h3
          exact ⟨a2, l2, c2, rfl, h2⟩
        clear st1 st2 hV2 h2e h2e' hle hvl hbit hb hx hg h3e h0
        go_wp2_with (first | (go_at_call 122; (with_reducible refine kS.mono ?_); rintro en w4 ⟨v1, rfl, h4⟩; obtain ⟨a1, l1, c1, rfl, kM⟩ := hM w4 v1 h4.out; clear kS hM) | (go_at_call 56; (with_reducible refine kM.mono ?_); rintro en w5 ⟨a2, l2, c2, rfl, h5⟩; clear kM))
        go_roundg t
        case measure => omega
        case rel => exact ⟨V2, 2 * e + 1, j + 1, a2, l2, c2, a1, l1, c1, rfl, rfl, rfl, by go_num, hj1, hs1, h5⟩
      · rw [if_neg hbit] at tb
        have hs1 := Lib.hid (st2 (by omega))
        have hM : ∀ w1 v1, Ex w w1 (.slice (some ⟨bx, 0, none⟩) 1 cX) xo v1 (.slice a l c) (2 * e) → ∃ a1 l1 c1, v1 = .slice a1 l1 c1 := fun w1 v1 h => h.slices.1
        clear st1 st2 hV2 h2e h2e' hle hvl hbit hb hx hg h0
        go_wp2_with (first | (go_at_call 122; (with_reducible refine kS.mono ?_); rintro en w4 ⟨v1, rfl, h4⟩; obtain ⟨a1, l1, c1, rfl⟩ := hM w4 v1 h4.out; clear kS hM))
        go_roundg t
        case measure => omega
        case rel => exact ⟨V2, 2 * e, j + 1, a1, l1, c1, a, l, c, rfl, rfl, rfl, by go_num, hj1, hs1, h4⟩

/-- 5 to the n. -/
theorem expNN_five {xv yv : Value} {xo yo : Option Nat} {n : Nat} (s : Addr) {w : World} (hx : IsN w xv xo 5) (hy : IsN w yv yo n) (hn1 : 1 ≤ n) (hn : n ≤ 255) (hT : Th w) :
    Calls Tryz.prog 68 #[.slice none 0 0, .pointer (some s), xv, yv, .slice none 0 0, .bool false] w (NatPost w none (5 ^ n)) := by
  by_cases h : n = 1
  · subst h; exact expNN_one s hx hy
  · exact expNN_more s hx hy (by omega) hn hT
end Go.Proofs.YtpmggjplfcjkkaaGreatDoor

/- Rat.SetString: what lies in memory on the way. -/
set_option linter.unusedVariables false
set_option linter.unusedSimpArgs false
namespace Go.Proofs.YtpmggjplfcjkkaaGreatDoor
open Go.RowKit Nq

/-- Between two steps: the rational n / d in block rb, a fresh stack. -/
structure Sp (w0 w : World) (rb : Nat) (ao bo : Option Nat) (n d s : Nat) : Prop where
  r : RatIs w rb ao bo false false n d
  st : StkK w s 0 [s]
  fr : Fr [rb] w0 w
  ka : ∀ x, ao = some x → w0.heap.size ≤ x ∧ x ≠ s
  kb : ∀ x, bo = some x → w0.heap.size ≤ x ∧ x ≠ s
  gs : w0.heap.size ≤ s
  r0 : rb < w0.heap.size
  r14 : 14 ≤ rb
  t : Th w0

theorem Sp.fr0 {w0 w w' : World} {rb : Nat} {ao bo : Option Nat} {n d s : Nat} (h : Sp w0 w rb ao bo n d s) (hF : Fr [] w w') : Sp w0 w' rb ao bo n d s :=
  ⟨h.r.fr hF (by simp) (by simp) (by simp), h.st.fr hF (by simp), h.fr.trans (hF.mono (by simp)), h.ka, h.kb, h.gs, h.r0, h.r14, h.t⟩
theorem Sp.th {w0 w : World} {rb : Nat} {ao bo : Option Nat} {n d s : Nat} (h : Sp w0 w rb ao bo n d s) : Th w := h.t.fr h.fr (by intro b hb; simp at hb; have := h.r14; omega)

theorem Sp.putA {w0 w w1 : World} {rb : Nat} {ao bo o : Option Nat} {n d s n2 : Nat} (h : Sp w0 w rb ao bo n d s) (hF : Fr ao.toList w w1) {v : Value} (hv : IsN w1 v o n2) (hl : Later w ao o) :
    (∃ x, w1.cell? ⟨rb, 1, none⟩ = some x) ∧ w1.frozen? ⟨rb, 1, none⟩ = false ∧ Sp w0 (w1.setCell ⟨rb, 1, none⟩ v) rb o bo n2 d s := by
  have hs := h.st.lt s (by simp)
  have hsz := h.fr.size
  have hr := h.r.lt
  obtain ⟨_, _, _, _, _, hd⟩ := id h.r
  have na : rb ∉ ao.toList := by intro hin; simp at hin; exact (hr.2.1 _ hin).2 rfl
  have nb : ∀ x, bo = some x → x ∉ ao.toList := by intro x hx hin; simp at hin; exact hd x hin hx
  have ns : s ∉ ao.toList := by intro hin; simp at hin; exact (h.ka _ hin).2 rfl
  obtain ⟨c1, c2, c3⟩ := h.r.putA hF na nb hv hl
  have f3 : Fr [rb] w1 (w1.setCell ⟨rb, 1, none⟩ v) := (Fr.refl _ _).set (.inl (by simp)) _ _
  have hsr : s ≠ rb := by have := h.r0; have := h.gs; omega
  refine ⟨c1, c2, c3, (h.st.fr hF (by simpa using ns)).fr f3 (by simpa using hsr), (h.fr.trans_new hF (fun x hx => by simp at hx; exact .inr (h.ka x hx).1)).trans f3, ?_, h.kb, h.gs, h.r0, h.r14, h.t⟩
  intro x hx
  rcases hl with e | ⟨y, e, hy⟩
  · rw [e] at hx; exact h.ka x hx
  · rw [e] at hx; injection hx with hx; exact ⟨by omega, by omega⟩
theorem Sp.putB {w0 w w1 : World} {rb : Nat} {ao bo o : Option Nat} {n d s d2 : Nat} (h : Sp w0 w rb ao bo n d s) (hF : Fr bo.toList w w1) {v : Value} (hv : IsN w1 v o d2) (hl : Later w bo o) :
    (∃ x, w1.cell? ⟨rb, 3, none⟩ = some x) ∧ w1.frozen? ⟨rb, 3, none⟩ = false ∧ Sp w0 (w1.setCell ⟨rb, 3, none⟩ v) rb ao o n d2 s := by
  have hs := h.st.lt s (by simp)
  have hsz := h.fr.size
  have hr := h.r.lt
  obtain ⟨_, _, _, _, _, hd⟩ := id h.r
  have na : rb ∉ bo.toList := by intro hin; simp at hin; exact (hr.2.2 _ hin).2 rfl
  have nb : ∀ x, ao = some x → x ∉ bo.toList := by intro x hx hin; simp at hin; exact hd x hx hin
  have ns : s ∉ bo.toList := by intro hin; simp at hin; exact (h.kb _ hin).2 rfl
  obtain ⟨c1, c2, c3⟩ := h.r.putB hF na nb hv hl
  have f3 : Fr [rb] w1 (w1.setCell ⟨rb, 3, none⟩ v) := (Fr.refl _ _).set (.inl (by simp)) _ _
  have hsr : s ≠ rb := by have := h.r0; have := h.gs; omega
  refine ⟨c1, c2, c3, (h.st.fr hF (by simpa using ns)).fr f3 (by simpa using hsr), (h.fr.trans_new hF (fun x hx => by simp at hx; exact .inr (h.kb x hx).1)).trans f3, h.ka, ?_, h.gs, h.r0, h.r14, h.t⟩
  intro x hx
  rcases hl with e | ⟨y, e, hy⟩
  · rw [e] at hx; exact h.kb x hx
  · rw [e] at hx; injection hx with hx; exact ⟨by omega, by omega⟩

/-- What a call leaves whose result goes into cell j of the rational. -/
def SpTo (w0 : World) (rb j : Nat) (u : Value) (P : World → Prop) (e : Ending) (w' : World) : Prop :=
  ∃ v p q r, v = .slice p q r ∧ e = .returned v ∧ w'.cell? ⟨rb, j, none⟩ = some u ∧ w'.frozen? ⟨rb, j, none⟩ = false ∧ Hid (P (w'.setCell ⟨rb, j, none⟩ v))
theorem SpTo.a {w0 w : World} {rb : Nat} {ao bo : Option Nat} {n d s n2 : Nat} (h : Sp w0 w rb ao bo n d s) {u : Value} (hu : w.cell? ⟨rb, 1, none⟩ = some u) {e : Ending} {w' : World} (hp : NatPost w ao n2 e w') : SpTo w0 rb 1 u (fun w' => ∃ ao', Sp w0 w' rb ao' bo n2 d s) e w' := by
  obtain ⟨v, o, rfl, k1, k2, k3⟩ := hp.isN
  obtain ⟨p, q, r, hv⟩ := k1.slice
  obtain ⟨c1, c2, c3⟩ := h.putA k2 k1 k3
  have hr := h.r.lt
  have na : rb ∉ ao.toList := by intro hin; simp at hin; exact (hr.2.1 _ hin).2 rfl
  exact ⟨v, p, q, r, hv, rfl, (cell_fr k2 hr.1 na).trans hu, c2, Lib.hid ⟨o, c3⟩⟩
theorem SpTo.b {w0 w : World} {rb : Nat} {ao bo : Option Nat} {n d s d2 : Nat} (h : Sp w0 w rb ao bo n d s) {u : Value} (hu : w.cell? ⟨rb, 3, none⟩ = some u) {e : Ending} {w' : World} (hp : NatPost w bo d2 e w') : SpTo w0 rb 3 u (fun w' => ∃ bo', Sp w0 w' rb ao bo' n d2 s) e w' := by
  obtain ⟨v, o, rfl, k1, k2, k3⟩ := hp.isN
  obtain ⟨p, q, r, hv⟩ := k1.slice
  obtain ⟨c1, c2, c3⟩ := h.putB k2 k1 k3
  have hr := h.r.lt
  have na : rb ∉ bo.toList := by intro hin; simp at hin; exact (hr.2.2 _ hin).2 rfl
  exact ⟨v, p, q, r, hv, rfl, (cell_fr k2 hr.1 na).trans hu, c2, Lib.hid ⟨o, c3⟩⟩

/-- b = 1 -/
theorem Sp.one {w0 w : World} {rb : Nat} {ao bo : Option Nat} {n d s : Nat} (h : Sp w0 w rb ao bo n d s) :
    ∃ a l c, w.cell? ⟨rb, 3, none⟩ = some (.slice a l c) ∧ Calls Tryz.prog 70 #[.slice a l c, .int .u64 1] w (SpTo w0 rb 3 (.slice a l c) (fun w' => ∃ bo', Sp w0 w' rb ao bo' n 1 s)) := by
  obtain ⟨a, l, c, a', l', c', c0, c1, c2, c3, i1, i2, -⟩ := h.r.cells
  obtain ⟨zs, jz⟩ := i2.own
  have hcall : Calls Tryz.prog 70 #[.slice a' l' c', .int .u64 1] w (NatPost w bo 1) := setWord (x := 1) jz (by rw [Bw_eq]; omega)
  exact ⟨a', l', c', c3, hcall.mono fun e w' hp => SpTo.b h c3 hp⟩
/-- a = a * p -/
theorem Sp.mulA {w0 w : World} {rb : Nat} {ao bo : Option Nat} {n d s : Nat} (h : Sp w0 w rb ao bo n d s) {pv : Value} {po : Option Nat} {p : Nat} (hp : IsN w pv po p) (ln : n < Bw ^ 39) (lp : p < Bw ^ 39) :
    ∃ a l c, w.cell? ⟨rb, 1, none⟩ = some (.slice a l c) ∧ Calls Tryz.prog 56 #[.slice a l c, .pointer (some ⟨s, 0, none⟩), .slice a l c, pv] w.drew (SpTo w0 rb 1 (.slice a l c) (fun w' => ∃ ao', Sp w0 w' rb ao' bo (n * p) d s)) := by
  have h' : Sp w0 w.drew rb ao bo n d s := h.fr0 ((Fr.refl [] w).drewN 1)
  obtain ⟨a, l, c, a', l', c', c0, c1, c2, c3, i1, i2, -⟩ := h'.r.cells
  obtain ⟨zs, jz⟩ := i1.own
  exact ⟨a, l, c, c1, (mul_N (.pointer (some ⟨s, 0, none⟩)) jz i1 (hp.fr ((Fr.refl [] w).drewN 1) (by simp)) ln lp h'.th).mono fun e w' hp => SpTo.a h' c1 hp⟩
/-- a = a << k -/
theorem Sp.lshA {w0 w : World} {rb : Nat} {ao bo : Option Nat} {n d s k : Nat} (h : Sp w0 w rb ao bo n d s) (ln : n < Bw ^ 1000) (n0 : 0 < n) (k0 : 0 < k) (hk : k ≤ 1000) :
    ∃ a l c, w.cell? ⟨rb, 1, none⟩ = some (.slice a l c) ∧ Calls Tryz.prog 71 #[.slice a l c, .slice a l c, .int .u64 (k : Int)] w.drew (SpTo w0 rb 1 (.slice a l c) (fun w' => ∃ ao', Sp w0 w' rb ao' bo (n * 2 ^ k) d s)) := by
  have h' : Sp w0 w.drew rb ao bo n d s := h.fr0 ((Fr.refl [] w).drewN 1)
  obtain ⟨a, l, c, a', l', c', c0, c1, c2, c3, i1, i2, -⟩ := h'.r.cells
  obtain ⟨zs, jz⟩ := i1.own
  exact ⟨a, l, c, c1, (lsh_N jz i1 ln n0 k0 (by omega)).mono fun e w' hp => SpTo.a h' c1 hp⟩
/-- b = b << k -/
theorem Sp.lshB {w0 w : World} {rb : Nat} {ao bo : Option Nat} {n d s k : Nat} (h : Sp w0 w rb ao bo n d s) (ld : d < Bw ^ 1000) (d0 : 0 < d) (k0 : 0 < k) (hk : k ≤ 1000) :
    ∃ a l c, w.cell? ⟨rb, 3, none⟩ = some (.slice a l c) ∧ Calls Tryz.prog 71 #[.slice a l c, .slice a l c, .int .u64 (k : Int)] w.drew (SpTo w0 rb 3 (.slice a l c) (fun w' => ∃ bo', Sp w0 w' rb ao bo' n (d * 2 ^ k) s)) := by
  have h' : Sp w0 w.drew rb ao bo n d s := h.fr0 ((Fr.refl [] w).drewN 1)
  obtain ⟨a, l, c, a', l', c', c0, c1, c2, c3, i1, i2, -⟩ := h'.r.cells
  obtain ⟨zs, jz⟩ := i2.own
  exact ⟨a', l', c', c3, (lsh_N jz i2 ld d0 k0 (by omega)).mono fun e w' hp => SpTo.b h' c3 hp⟩

/-- Five to the k, as the region makes it: in any order. -/
structure Five (w0 w : World) (rb : Nat) (ao : Option Nat) (n s k : Nat) (v : Value) : Prop where
  sp : Sp w0 w rb ao none n 0 s
  nil : w.cell? ⟨rb, 3, none⟩ = some (.slice none 0 0)
  is : ∃ po, IsN w v po (5 ^ k) ∧ ∀ x, po = some x → w0.heap.size ≤ x ∧ x ≠ s ∧ ao ≠ some x
theorem Sp.five {w0 w : World} {rb : Nat} {ao : Option Nat} {n s k : Nat} (h : Sp w0 w rb ao none n 0 s) (hnil : w.cell? ⟨rb, 3, none⟩ = some (.slice none 0 0)) (hk : 1 ≤ k) (hk' : k ≤ 255) {w3 : World} {xv yv : Value} {xo yo : Option Nat} (hx : IsN w3 xv xo 5) (hy : IsN w3 yv yo k) (hF : Fr [] w w3) :
    Calls Tryz.prog 68 #[.slice none 0 0, .pointer (some ⟨s, 0, none⟩), xv, yv, .slice none 0 0, .bool false] w3 fun e w' => ∃ v p q r, v = .slice p q r ∧ e = .returned v ∧ Hid (Five w0 w' rb ao n s k v) := by
  have h3 := h.fr0 hF
  refine (expNN_five ⟨s, 0, none⟩ hx hy hk hk' h3.th).mono ?_
  intro e w' hp
  obtain ⟨v, o, rfl, k1, k2, k3⟩ := hp.isN
  obtain ⟨p, q, r, hv⟩ := k1.slice
  have hs := h3.st.lt s (by simp)
  have hsz := h3.fr.size
  refine ⟨v, p, q, r, hv, rfl, Lib.hid ⟨h3.fr0 k2, ?_, o, k1, ?_⟩⟩
  · have hr := h.r.lt.1
    rw [cell_fr k2 (Nat.lt_of_lt_of_le hr hF.size) (by simp), cell_fr hF hr (by simp)]; exact hnil
  · intro x hx
    rcases k3 with e | ⟨y, e, hy⟩
    · rw [e] at hx; cases hx
    · rw [e] at hx; injection hx with hx
      refine ⟨by omega, by omega, ?_⟩
      intro ha
      have := (h3.r.lt.2.1 x ha).1
      omega
/-- b = five to the k -/
theorem Five.put {w0 w : World} {rb : Nat} {ao : Option Nat} {n s k : Nat} {v : Value} (h : Five w0 w rb ao n s k v) :
    w.frozen? ⟨rb, 3, none⟩ = false ∧ Hid (∃ bo, Sp w0 (w.setCell ⟨rb, 3, none⟩ v) rb ao bo n (5 ^ k) s) := by
  obtain ⟨po, h1, h2⟩ := h.is
  have hs := h.sp
  have hlt := hs.r.lt
  have hz := hs.r.frozen 3
  obtain ⟨av, bv, k1, k2, k3, k4⟩ := id hs.r
  have f : Fr [rb] w (w.setCell ⟨rb, 3, none⟩ v) := (Fr.refl _ _).set (.inl (by simp)) _ _
  have hsr : s ≠ rb := by have := hs.r0; have := hs.gs; omega
  refine ⟨hz, Lib.hid ⟨po, ⟨⟨av, v, k1.set 3 v, k2.fr f (fun x hx => by simpa using (hlt.2.1 x hx).2), h1.fr f (fun x hx => by simpa using h1.ne_cells k1 (by decide) hx), fun x hx hy => (h2 x hy).2.2 hx⟩, hs.st.fr f (by simpa using hsr), hs.fr.trans f, hs.ka, fun x hx => ⟨(h2 x hx).1, (h2 x hx).2.1⟩, hs.gs, hs.r0, hs.r14, hs.t⟩⟩⟩

/-- What SetString hands back. -/
def SetPost (w : World) (rb : Nat) (neg : Bool) (n d : Nat) (e : Ending) (w' : World) : Prop :=
  e = .returned (.tuple #[.pointer (some ⟨rb, 0, none⟩), .bool true]) ∧ ∃ ao bo nb, RatIs w' rb ao bo neg nb n d ∧ Fr [rb] w w' ∧ (∀ x, ao = some x → w.heap.size ≤ x) ∧ ∀ x, bo = some x → w.heap.size ≤ x

/-- The sign, and norm. -/
theorem Sp.fin {w0 w : World} {rb : Nat} {ao bo : Option Nat} {n d s : Nat} (h : Sp w0 w rb ao bo n d s) (n0 : 0 < n) (d0 : 0 < d) (ln : n < Bw ^ 39) (ld : d < Bw ^ 39) (neg : Bool) :
    (∃ x, w.cell? ⟨rb, 0, none⟩ = some x) ∧ w.frozen? ⟨rb, 0, none⟩ = false ∧ (∃ a l c, w.cell? ⟨rb, 1, none⟩ = some (.slice a l c) ∧ 0 < l ∧ l ≤ 100000) ∧
    Calls Tryz.prog 65 #[.pointer (some ⟨rb, 0, none⟩)] (w.setCell ⟨rb, 0, none⟩ (.bool neg)) fun e w' => e = .returned (.pointer (some ⟨rb, 0, none⟩)) ∧ StkK w' s 0 [s] ∧ Hid (∀ w5, Fr [s] w' w5 → SetPost w0 rb neg (n / Nat.gcd n d) (d / Nat.gcd n d) (.returned (.tuple #[.pointer (some ⟨rb, 0, none⟩), .bool true])) w5) := by
  obtain ⟨a, l, c, a', l', c', c0, c1, c2, c3, i1, i2, e1, -, l1, -⟩ := h.r.cells
  have hsz := h.t.size
  have hsr : s ≠ rb := by have := h.r0; have := h.gs; omega
  obtain ⟨hr, hF⟩ := h.r.signA neg
  have hT : Th (w.setCell ⟨rb, 0, none⟩ (.bool neg)) := h.th.fr hF (by intro b hb; simp at hb; have := h.r14; omega)
  have hst := h.st.fr hF (by simpa using hsr)
  refine ⟨⟨_, c0⟩, h.r.frozen 0, ⟨a, l, c, c1, ?_, l1⟩, ?_⟩
  · rcases Nat.eq_zero_or_pos l with e | e
    · have := e1.1 e; omega
    · exact e
  · refine (norm_main hr n0 d0 ln ld (fun x hx => by have := (h.ka x hx).1; omega) (fun x hx => by have := (h.kb x hx).1; omega) h.r14 hT).mono ?_
    intro e w' hp
    obtain ⟨rfl, ao', bo', nb, h1, h2, h3, h4⟩ := hp
    have hsn : s ∉ rb :: (ao.toList ++ bo.toList) := by
      intro hin
      simp at hin
      rcases hin with e | e | e
      · exact hsr e
      · exact (h.ka _ e).2 rfl
      · exact (h.kb _ e).2 rfl
    have hssz : s < (w.setCell ⟨rb, 0, none⟩ (.bool neg)).heap.size := hst.lt s (by simp)
    have hw : w0.heap.size ≤ (w.setCell ⟨rb, 0, none⟩ (.bool neg)).heap.size := Nat.le_trans h.fr.size hF.size
    have la : ∀ x, ao' = some x → w0.heap.size ≤ x ∧ x ≠ s := by
      intro x hx
      rcases h3 with e | ⟨y, e, hy⟩
      · rw [e] at hx; exact h.ka x hx
      · rw [e] at hx; injection hx with hx; exact ⟨by omega, by omega⟩
    have lb : ∀ x, bo' = some x → w0.heap.size ≤ x ∧ x ≠ s := by
      intro x hx
      rcases h4 with e | ⟨y, e, hy⟩
      · rw [e] at hx; exact h.kb x hx
      · rw [e] at hx; injection hx with hx; exact ⟨by omega, by omega⟩
    refine ⟨rfl, hst.fr h2 (by simpa using hsn), Lib.hid fun w5 h5 => ⟨rfl, ao', bo', nb, h1.fr h5 (by simpa using fun e => hsr e.symm) (fun x hx => by simpa using (la x hx).2) (fun x hx => by simpa using (lb x hx).2), ?_, fun x hx => (la x hx).1, fun x hx => (lb x hx).1⟩⟩
    refine ((h.fr.trans hF).trans_new h2 ?_).trans_new h5 (fun x hx => by simp at hx; subst hx; exact .inr h.gs)
    intro x hx
    simp at hx
    rcases hx with e | e | e
    · left; simp [e]
    · right; exact (h.ka x e).1
    · right; exact (h.kb x e).1
end Go.Proofs.YtpmggjplfcjkkaaGreatDoor

/- maxPow(10) and the small powers of ten. -/
set_option linter.unusedVariables false
set_option linter.unusedSimpArgs false
namespace Go.Proofs.YtpmggjplfcjkkaaGreatDoor
open Go.RowKit Nq

def mpF : Nat → Int → Int → Int → Int → Option (Int × Int)
  | 0, _, _, _, _ => none
  | k + 1, b, p, n, m => if p ≤ m then mpF k b (IntKind.u64.wrap (p * b)) (wrap64 (n + 1)) m else some (p, n)
theorem mpF_ten : mpF 25 10 10 1 (IntKind.u64.wrap ((18446744073709551615 : Int) / 10)) = some (10000000000000000000, 19) := by decide +kernel
def pwF : Nat → Int → Int → Int → Option Int
  | 0, _, _, _ => none
  | k + 1, x, n, p => if n > 0 then (if (Go.bits .and .i64 n 1) = 0 then pwF k (IntKind.u64.wrap (x * x)) (n / 2) p else pwF k (IntKind.u64.wrap (x * x)) (n / 2) (IntKind.u64.wrap (p * x))) else some p
theorem pwF_ten : ∀ n : Fin 19, pwF 8 10 (n.1 : Int) 1 = some ((10 ^ n.1 : Nat) : Int) := by decide +kernel

set_option maxHeartbeats 8000000 in
set_option maxRecDepth 100000 in
theorem maxPow_ten (w : World) : Calls Tryz.prog 107 #[.int .u64 10] w fun e w' => e = .returned (.tuple #[.int .u64 10000000000000000000, .int .i64 19]) ∧ w' = w := by
  have H' := Lib.hid mpF_ten
  obtain ⟨R, hR⟩ : ∃ R : Int, R = 10000000000000000000 := ⟨_, rfl⟩
  obtain ⟨M, hM⟩ : ∃ M : Int, M = IntKind.u64.wrap ((18446744073709551615 : Int) / 10) := ⟨_, rfl⟩
  have hM2 : M = 1844674407370955161 := by rw [hM]; decide
  rw [← hR, ← hM] at H'
  rw [← hR]
  subst hM2
  clear hR hM
  go_enter Tryz.func107, Tryz.ntmps107
  go_wp2
  go_loopg [2, 3] 25 (fun kq v2 v3 w' => ∃ (p n : Int), v2 = .int .u64 p ∧ v3 = .int .i64 n ∧ Hid (mpF kq 10 p n 1844674407370955161 = some (R, 19)) ∧ w' = w)
  case atStart => exact ⟨10, 1, rfl, rfl, H', rfl⟩
  case round =>
    clear H'
    obtain ⟨p, n, rfl, rfl, HA, rfl⟩ := hrel
    cases gk with
    | zero => exact absurd HA.out (by simp [mpF])
    | succ k1 =>
      have H := HA.out
      clear HA
      simp only [mpF] at H
      by_cases c : p ≤ 1844674407370955161
      · rw [if_pos c] at H
        have c0 : decide (p ≤ 1844674407370955161) = true := decide_eq_true c
        clear c
        have H' := Lib.hid H
        clear H
        go_wp2
        go_roundg k1
        case measure => omega
        case rel => exact ⟨_, _, rfl, rfl, H', rfl⟩
      · rw [if_neg c] at H
        have c0 : decide (p ≤ 1844674407370955161) = false := decide_eq_false c
        clear c
        simp only [Option.some.injEq, Prod.mk.injEq] at H
        obtain ⟨rfl, rfl⟩ := H
        go_wp2
        go_ret2
        exact ⟨rfl, rfl⟩
set_option maxHeartbeats 8000000 in
set_option maxRecDepth 100000 in
theorem pow_ten (n : Nat) (hn : n < 19) (w : World) : Calls Tryz.prog 108 #[.int .u64 10, .int .i64 n] w fun e w' => e = .returned (.int .u64 (10 ^ n : Nat)) ∧ w' = w := by
  have H' := Lib.hid (pwF_ten ⟨n, hn⟩)
  simp only [] at H'
  generalize ((10 ^ n : Nat) : Int) = r at *
  generalize (n : Int) = n at *
  go_enter Tryz.func108, Tryz.ntmps108
  go_wp2
  go_loopg [0, 1, 4] 8 (fun kq v0 v1 v4 w' => ∃ (x y z : Int), v0 = .int .u64 x ∧ v1 = .int .i64 y ∧ v4 = .int .u64 z ∧ Hid (pwF kq x y z = some r) ∧ w' = w)
  case atStart => exact ⟨10, n, 1, rfl, rfl, rfl, H', rfl⟩
  case round =>
    clear H'
    obtain ⟨x, y, z, rfl, rfl, rfl, HA, rfl⟩ := hrel
    cases gk with
    | zero => exact absurd HA.out (by simp [pwF])
    | succ k1 =>
      have H := HA.out
      clear HA
      simp only [pwF] at H
      by_cases c : y > 0
      · rw [if_pos c] at H
        by_cases d : (Go.bits .and .i64 y 1) = 0
        · rw [if_pos d] at H
          have d0 : (Go.bits .and .i64 y 1 != 0) = false := by rw [d]; rfl
          have H' := Lib.hid H
          clear H d
          go_wp2
          go_roundg k1
          case measure => omega
          case rel => exact ⟨_, _, _, rfl, rfl, rfl, H', rfl⟩
        · rw [if_neg d] at H
          have d0 : (Go.bits .and .i64 y 1 != 0) = true := bne_iff_ne.mpr d
          have H' := Lib.hid H
          clear H d
          go_wp2
          go_roundg k1
          case measure => omega
          case rel => exact ⟨_, _, _, rfl, rfl, rfl, H', rfl⟩
      · rw [if_neg c] at H
        have c0 : decide (y > 0) = false := decide_eq_false c
        simp only [Option.some.injEq] at H
        obtain rfl := H
        go_wp2
        go_ret
        exact ⟨rfl, rfl⟩
end Go.Proofs.YtpmggjplfcjkkaaGreatDoor

/- nat.scan: between two rounds. -/
set_option linter.unusedVariables false
set_option linter.unusedSimpArgs false
namespace Go.Proofs.YtpmggjplfcjkkaaGreatDoor
open Go.RowKit Nq

def boolN : Value → Nat
  | .bool true => 1
  | _ => 0

/-- Between two rounds: m digits read, the point passed or not; the number is z * 10^i + w2. -/
structure Sn (w0 w : World) (b a : Nat) (S : ByteArray) (I F : List Nat) (dot past : Bool) (ev : Value) (m z i w2 : Nat) (zv c er : Value) (zo : Option Nat) : Prop where
  zn : IsN w zv zo z
  zl : ∀ x, zo = some x → w0.heap.size ≤ x
  fr : Fr [b] w0 w
  cur : Cur w b S (a + m + if past then 1 else 0) ev c er
  val : dval ((I ++ F).take m) = z * 10 ^ i + w2
  wl : w2 < 10 ^ i
  il : i < 19
  ml : m ≤ I.length + F.length
  np : past = false → m ≤ I.length
  pp : past = true → dot = true ∧ I.length ≤ m

/-- What the byte at hand is. -/
theorem Txt.kind {S : ByteArray} {a m : Nat} {I F : List Nat} {dot past : Bool} (T : Txt S a I F dot) (ml : m ≤ I.length + F.length) (np : past = false → m ≤ I.length) (pp : past = true → dot = true ∧ I.length ≤ m) (hs : a + m + (if past then 1 else 0) < S.size) :
    (∃ h : m < (I ++ F).length, (I ++ F)[m] < 10 ∧ byteAt S (a + m + if past then 1 else 0) = 48 + (I ++ F)[m] ∧ (past = false → m < I.length)) ∨
    (past = false ∧ dot = true ∧ m = I.length ∧ byteAt S (a + m + if past then 1 else 0) = 46) ∨
    (past = dot ∧ m = I.length + F.length ∧ (byteAt S (a + m + if past then 1 else 0) = 69 ∨ byteAt S (a + m + if past then 1 else 0) = 101)) := by
  cases past with
  | false =>
    have h1 := np rfl
    simp only [Bool.false_eq_true, if_false, Nat.add_zero] at hs ⊢
    by_cases h : m < I.length
    · left
      refine ⟨by simp; omega, ?_, ?_, fun _ => h⟩
      · rw [List.getElem_append_left h]; exact T.di _ (List.getElem_mem h)
      · rw [List.getElem_append_left h]; exact T.hi m h
    · obtain rfl : m = I.length := by omega
      right
      cases hd : dot with
      | true => left; exact ⟨trivial, rfl, rfl, T.hp hd⟩
      | false =>
        right
        have hF := T.nf hd
        have hx := T.hx
        rw [hd] at hx
        simp only [Bool.false_eq_true, if_false, Nat.add_zero] at hx
        exact ⟨rfl, by rw [hF]; rfl, hx hs⟩
  | true =>
    obtain ⟨hd, h1⟩ := pp rfl
    simp only [if_true] at hs ⊢
    by_cases h : m < I.length + F.length
    · left
      have hk := T.hf (m - I.length) (by omega)
      have e : a + I.length + 1 + (m - I.length) = a + m + 1 := by omega
      rw [e] at hk
      refine ⟨by simp; omega, ?_, ?_, fun h => by cases h⟩
      · rw [List.getElem_append_right h1]; exact T.df _ (List.getElem_mem (by omega))
      · rw [List.getElem_append_right h1]; exact hk
    · right; right
      obtain rfl : m = I.length + F.length := by omega
      have hx := T.hx
      rw [hd] at hx
      simp only [if_true] at hx
      have e : a + I.length + (1 + F.length) = a + (I.length + F.length) + 1 := by omega
      rw [e] at hx
      exact ⟨hd.symm, rfl, hx hs⟩

/-- At the text's end. -/
theorem Txt.fin {S : ByteArray} {a m : Nat} {I F : List Nat} {dot past : Bool} (T : Txt S a I F dot) (ml : m ≤ I.length + F.length) (np : past = false → m ≤ I.length) (pp : past = true → dot = true ∧ I.length ≤ m) (hs : a + m + (if past then 1 else 0) = S.size) : past = dot ∧ m = I.length + F.length := by
  have he := T.he
  cases past with
  | false =>
    have h1 := np rfl
    simp only [Bool.false_eq_true, if_false, Nat.add_zero] at hs
    cases hd : dot with
    | true => rw [hd] at he; simp only [if_true] at he; omega
    | false =>
      rw [hd] at he
      simp only [Bool.false_eq_true, if_false, Nat.add_zero] at he
      have := T.nf hd
      exact ⟨rfl, by rw [this]; simp; omega⟩
  | true =>
    obtain ⟨hd, h1⟩ := pp rfl
    rw [hd] at he ⊢
    simp only [if_true] at hs he
    exact ⟨rfl, by omega⟩
end Go.Proofs.YtpmggjplfcjkkaaGreatDoor

/- nat.scan: what a digit does, and what stands at the end. -/
set_option linter.unusedVariables false
set_option linter.unusedSimpArgs false
namespace Go.Proofs.YtpmggjplfcjkkaaGreatDoor
open Go.RowKit Nq

/-- What scan leaves: the number, the reader behind it. -/
structure ScanEnd (w : World) (b : Nat) (S : ByteArray) (pe n : Nat) (v : Value) (o : Option Nat) (w' : World) : Prop where
  is : IsN w' v o n
  new : ∀ x, o = some x → w.heap.size ≤ x
  rdr : Rdr w' b S pe
  fr : Fr [b] w w'

theorem Sn.take_all {w0 w : World} {b a : Nat} {S : ByteArray} {I F : List Nat} {dot past : Bool} {ev : Value} {m z i w2 : Nat} {zv c er : Value} {zo : Option Nat} (h : Sn w0 w b a S I F dot past ev m z i w2 zv c er zo) (hm : m = I.length + F.length) : dval (I ++ F) = z * 10 ^ i + w2 := by
  have := h.val
  rwa [List.take_of_length_le (by simp; omega)] at this

theorem ten_lt {i : Nat} (h : i < 20) : 10 ^ i < Bw := by
  refine Nat.lt_of_le_of_lt (Nat.pow_le_pow_right (by decide) (by omega : i ≤ 19)) ?_
  rw [Bw_eq]; decide

set_option exponentiation.threshold 1000 in
theorem dval_Bw {D : List Nat} (h : ∀ d ∈ D, d < 10) (hl : D.length ≤ 700) : dval D < Bw ^ 39 := by
  have h1 := dval_lt h
  have h2 : 10 ^ D.length ≤ 10 ^ 700 := Nat.pow_le_pow_right (by decide) hl
  have h3 : 10 ^ 700 < Bw ^ 39 := by rw [Bw_eq]; decide +kernel
  exact Nat.lt_of_lt_of_le h1 (Nat.le_trans h2 (Nat.le_of_lt h3))
theorem dval_take_le {D : List Nat} (m : Nat) (h : ∀ d ∈ D, d < 10) (hl : D.length ≤ 700) : dval (D.take m) < Bw ^ 39 :=
  dval_Bw (fun d hd => h d (List.mem_of_mem_take hd)) (by simp; omega)
theorem Txt.dig {S : ByteArray} {a : Nat} {I F : List Nat} {dot : Bool} (T : Txt S a I F dot) : ∀ d ∈ I ++ F, d < 10 := by
  intro d hd
  rcases List.mem_append.1 hd with h | h
  · exact T.di d h
  · exact T.df d h

/-- The number at hand grown by a group of digits. -/
theorem Sn.grow {w0 w w1 : World} {b a : Nat} {S : ByteArray} {I F : List Nat} {dot past : Bool} {ev : Value} {m z i w2 : Nat} {zv c er : Value} {zo : Option Nat} (h : Sn w0 w b a S I F dot past ev m z i w2 zv c er zo) (T : Txt S a I F dot) (hlen : I.length + F.length ≤ 700) (hb : b < w0.heap.size)
    (hf : Fr [b] w w1) {pe : Nat} (hr : Rdr w1 b S pe) {y r : Nat} (hy : y < Bw) (hr' : r < Bw) :
    Calls Tryz.prog 94 #[zv, zv, .int .u64 (y : Int), .int .u64 (r : Int)] w1 fun e w' => ∃ v o, e = .returned v ∧ (∃ p q s, v = .slice p q s) ∧ Hid (ScanEnd w0 b S pe (z * y + r) v o w') := by
  have hzl := h.zl
  have hff := h.fr
  have hd := dval_take_le m T.dig (by simpa using hlen)
  have hz : z < Bw ^ 39 := by
    have h1 := h.val
    have h2 : z ≤ z * 10 ^ i := Nat.le_mul_of_pos_right z (Nat.pow_pos (by decide))
    omega
  have hzn : IsN w1 zv zo z := h.zn.fr hf (fun x hx hin => by simp at hin; have := hzl x hx; omega)
  obtain ⟨ws, z1, z2, z3, z4⟩ := hzn
  have hll := len_of_lt z3 z4 hz
  have hmul := mulAddWW_own z1 z1 z2 (by omega) hy hr'
  rw [z4] at hmul
  refine hmul.mono ?_
  intro e w' hp
  obtain ⟨v, o, rfl, k1, k2, k3⟩ := hp.isN
  have hs1 : w0.heap.size ≤ w1.heap.size := Nat.le_trans hff.size hf.size
  refine ⟨v, o, rfl, k1.slice, Lib.hid ⟨k1, ?_, hr.fr k2 ?_, (hff.trans hf).trans_new k2 (fun x hx => by simp at hx; exact .inr (hzl x hx))⟩⟩
  · intro x hx
    rcases k3 with e | ⟨y, e, hy⟩
    · rw [e] at hx; exact hzl x hx
    · rw [e] at hx; injection hx with hx; omega
  · intro hin; simp at hin; have := hzl _ hin; omega

/-- A digit behind a group that is not full. -/
theorem Sn.push {w0 w w1 : World} {b a : Nat} {S : ByteArray} {I F : List Nat} {dot past : Bool} {ev : Value} {m z i w2 : Nat} {zv c er c' er' : Value} {zo : Option Nat} (h : Sn w0 w b a S I F dot past ev m z i w2 zv c er zo) (hm : m < (I ++ F).length) (hd : (I ++ F)[m] < 10) (hp : past = false → m < I.length) (hi : i + 1 < 19) (hb : b < w0.heap.size)
    (hf : Fr [b] w w1) (hc : Cur w1 b S (a + (m + 1) + if past then 1 else 0) ev c' er') : Sn w0 w1 b a S I F dot past ev (m + 1) z (i + 1) (w2 * 10 + (I ++ F)[m]) zv c' er' zo := by
  refine ⟨h.zn.fr hf (fun x hx hin => by simp at hin; have := h.zl x hx; omega), h.zl, h.fr.trans hf, hc, ?_, ?_, hi, by simp at hm; omega, fun e => hp e, fun e => ?_⟩
  · rw [dval_take hm, h.val, Nat.pow_succ, Nat.add_mul, Nat.mul_assoc]; omega
  · have := h.wl; rw [Nat.pow_succ]; omega
  · have := h.pp e; exact ⟨this.1, by omega⟩
/-- A digit that fills its group. -/
theorem Sn.full {w0 w w1 w2' : World} {b a : Nat} {S : ByteArray} {I F : List Nat} {dot past : Bool} {ev : Value} {m z w2 pe : Nat} {zv c er c' er' v : Value} {zo o : Option Nat} (h : Sn w0 w b a S I F dot past ev m z 18 w2 zv c er zo) (hm : m < (I ++ F).length) (hp : past = false → m < I.length) (hb : b < w0.heap.size)
    (he : ScanEnd w0 b S pe (z * 10 ^ 19 + (w2 * 10 + (I ++ F)[m])) v o w1) (hf : Fr [b] w1 w2') (hc : Cur w2' b S (a + (m + 1) + if past then 1 else 0) ev c' er') : Sn w0 w2' b a S I F dot past ev (m + 1) (z * 10 ^ 19 + (w2 * 10 + (I ++ F)[m])) 0 0 v c' er' o := by
  refine ⟨he.is.fr hf (fun x hx hin => by simp at hin; have := he.new x hx; omega), he.new, he.fr.trans hf, hc, ?_, by decide, by decide, by simp at hm; omega, fun e => hp e, fun e => ?_⟩
  · rw [dval_take hm, h.val]; simp only [Nat.pow_zero]; omega
  · have := h.pp e; exact ⟨this.1, by omega⟩
/-- The point. -/
theorem Sn.point {w0 w w1 : World} {b a : Nat} {S : ByteArray} {I F : List Nat} {dot : Bool} {ev : Value} {m z i w2 : Nat} {zv c er c' er' : Value} {zo : Option Nat} (h : Sn w0 w b a S I F dot false ev m z i w2 zv c er zo) (hd : dot = true) (hm : m = I.length) (hb : b < w0.heap.size)
    (hf : Fr [b] w w1) (hc : Cur w1 b S (a + m + 1) ev c' er') : Sn w0 w1 b a S I F dot true ev m z i w2 zv c' er' zo :=
  ⟨h.zn.fr hf (fun x hx hin => by simp at hin; have := h.zl x hx; omega), h.zl, h.fr.trans hf, hc, h.val, h.wl, h.il, h.ml, (fun e => by cases e), fun _ => ⟨hd, by omega⟩⟩
/-- All digits are in full groups. -/
theorem Sn.done {w0 w w1 : World} {b a : Nat} {S : ByteArray} {I F : List Nat} {dot past : Bool} {ev : Value} {m z w2 pe : Nat} {zv c er : Value} {zo : Option Nat} (h : Sn w0 w b a S I F dot past ev m z 0 w2 zv c er zo) (hm : m = I.length + F.length) (hb : b < w0.heap.size) (hf : Fr [b] w w1) (hr : Rdr w1 b S pe) : Hid (ScanEnd w0 b S pe (dval (I ++ F)) zv zo w1) := by
  have hw0 : w2 = 0 := by have := h.wl; simpa using this
  have hv := h.take_all hm
  rw [hw0] at hv
  have e : dval (I ++ F) = z := by simpa using hv
  rw [e]
  exact Lib.hid ⟨h.zn.fr hf (fun x hx hin => by simp at hin; have := h.zl x hx; omega), h.zl, hr, h.fr.trans hf⟩
end Go.Proofs.YtpmggjplfcjkkaaGreatDoor
