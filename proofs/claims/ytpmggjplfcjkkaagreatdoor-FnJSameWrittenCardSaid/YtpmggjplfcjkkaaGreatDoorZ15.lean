/- lehmerUpdate, euclidUpdate. -/
import Derived.Test.YtpmggjplfcjkkaaGreatDoorZ13
import Derived.Test.YtpmggjplfcjkkaaGreatDoorZ14
import Derived.Deep.CutBlock
import Derived.Deep.DeepCutAuto
import Derived.Deep.LoopGhost
set_option linter.unusedVariables false
set_option linter.unusedSimpArgs false
namespace Go.Proofs.YtpmggjplfcjkkaaGreatDoor
open Go.RowKit Nq

/-- Four numbers, of which only F and what came later may have changed. -/
structure S4F (w0 : World) (F : List Nat) (w : World) (a b c d : Ent) : Prop where
  s : S4 w a b c d
  fr : Fr F w0 w
  new : ∀ x ∈ a.foot ++ b.foot ++ c.foot ++ d.foot, x ∈ F ∨ w0.heap.size ≤ x
theorem S4F.start {w : World} {a b c d : Ent} (h : S4 w a b c d) : S4F w (a.foot ++ b.foot ++ c.foot ++ d.foot) w a b c d := ⟨h, Fr.refl _ _, fun x hx => .inl hx⟩
theorem S4F.swap {w0 w : World} {F : List Nat} {a b c d : Ent} (h : S4F w0 F w a b c d) : S4F w0 F w b a c d := ⟨h.s.swap, h.fr, fun x hx => h.new x (by simp only [List.mem_append] at hx ⊢; rcases hx with ((h | h) | h) | h <;> simp [h])⟩
theorem S4F.rot {w0 w : World} {F : List Nat} {a b c d : Ent} (h : S4F w0 F w a b c d) : S4F w0 F w b c d a := ⟨h.s.rot, h.fr, fun x hx => h.new x (by simp only [List.mem_append] at hx ⊢; rcases hx with ((h | h) | h) | h <;> simp [h])⟩
theorem S4F.drewN {w0 w : World} {F : List Nat} {a b c d : Ent} (h : S4F w0 F w a b c d) (k : Nat) : S4F w0 F (w.drewN k) a b c d := ⟨h.s.drewN k, h.fr.drewN k, h.new⟩
theorem S4F.upd {w0 w w' : World} {F : List Nat} {a b c d a' : Ent} (h : S4F w0 F w a b c d) (u : Upd w a a' w') : S4F w0 F w' a' b c d := by
  refine ⟨h.s.upd u, h.fr.trans_new u.fr (fun x hx => h.new x (by simp [hx])), ?_⟩
  intro x hx
  simp only [List.mem_append] at hx
  rcases hx with ((hx | hx) | hx) | hx
  · rcases u.new x hx with h1 | h1
    · exact h.new x (by simp [h1])
    · right; have := h.fr.size; omega
  · exact h.new x (by simp [hx])
  · exact h.new x (by simp [hx])
  · exact h.new x (by simp [hx])
theorem Apart.rd {z x : Ent} (h : Apart z x) : x.b = z.b ∨ (x.b ≠ z.b ∧ ∀ t, z.o = some t → t ≠ x.b) :=
  .inr ⟨fun e => h _ z.foot_b (e ▸ x.foot_b), fun t ht e => h t (z.foot_o ht) (e ▸ x.foot_b)⟩
theorem mul_bound {a m k : Nat} (ha : a < Bw ^ k) (hm : m < Bw) : a * m < Bw ^ (k + 1) := by
  rw [Nat.pow_succ]
  exact Nat.mul_lt_mul_of_lt_of_le ha (Nat.le_of_lt hm) (by have := Bw_pos; omega)
theorem up1000 {a : Nat} (h : a < Bw ^ 101) : a < Bw ^ 1000 := Nat.lt_of_lt_of_le h (pow_mono (m := 101) (n := 1000) (by decide))
theorem up1000' {a : Nat} (h : a < Bw ^ 100) : a < Bw ^ 1000 := Nat.lt_of_lt_of_le h (pow_mono (m := 100) (n := 1000) (by decide))

set_option maxRecDepth 100000 in
set_option maxHeartbeats 2000000 in
theorem lehmerUpdate {w0 w : World} {F : List Nat} {A B q r : Ent} {u0 u1 v0 v1 : Nat} {even : Bool} (h : S4F w0 F w A B q r) (hA : A.neg = false) (hB : B.neg = false) (hf : Fac A.n B.n u0 u1 v0 v1 even)
    (bA : A.n < Bw ^ 100) (bB : B.n < Bw ^ 100) (b1 : u0 < Bw) (b2 : u1 < Bw) (b3 : v0 < Bw) (b4 : v1 < Bw) :
    Calls Tryz.prog 163 #[.pointer (some ⟨A.b, 0, none⟩), .pointer (some ⟨B.b, 0, none⟩), .pointer (some ⟨q.b, 0, none⟩), .pointer (some ⟨r.b, 0, none⟩), .int .u64 (u0 : Int), .int .u64 (u1 : Int), .int .u64 (v0 : Int), .int .u64 (v1 : Int), .bool even] w fun e w' =>
      e = .returned (.tuple #[]) ∧ ∃ oA oB q' r', q'.b = q.b ∧ r'.b = r.b ∧ S4F w0 F w' ⟨A.b, oA, false, newA A.n B.n u0 v0 even⟩ ⟨B.b, oB, false, newB A.n B.n u1 v1 even⟩ q' r' := by
  have rd : ∀ {w : World} {e : Ent}, e.isAt w → e.neg = false → IntRd w e.b 0 e.o false e.n := fun h hn => hn ▸ h.rd
  have k1 := mulW (z := q) (m := v0) even h.s.ic (rd h.s.ib hB) b3 (up1000' bB) h.s.bc.symm.rd
  have hN : ∀ w4 oq or oA oB, S4F w0 F w4 ⟨A.b, oA, !even, A.n * u0⟩ ⟨B.b, oB, !even, B.n * v1⟩ ⟨q.b, oq, even, B.n * v0⟩ ⟨r.b, or, even, A.n * u1⟩ →
      Calls Tryz.prog 150 #[.pointer (some ⟨A.b, 0, none⟩), .pointer (some ⟨A.b, 0, none⟩), .pointer (some ⟨q.b, 0, none⟩)] w4 fun e w5 => e = .returned (.pointer (some ⟨A.b, 0, none⟩)) ∧ ∃ oA2, S4F w0 F w5 ⟨A.b, oA2, false, newA A.n B.n u0 v0 even⟩ ⟨B.b, oB, !even, B.n * v1⟩ ⟨q.b, oq, even, B.n * v0⟩ ⟨r.b, or, even, A.n * u1⟩ := by
    intro w4 oq or oA oB h4
    have := intAdd h4.s.ia h4.s.ic h4.s.ac (by simp) (by
      cases even with
      | true => simp only [Bool.not_true, Bool.false_eq_true, if_false]; have := hf.ev0 rfl; rw [Nat.mul_comm, Nat.mul_comm A.n]; exact this
      | false => simp only [Bool.not_false, if_true]; have := hf.od0 rfl; rw [Nat.mul_comm, Nat.mul_comm B.n]; exact this) (up1000 (mul_bound bA b1)) (up1000 (mul_bound bB b3))
    refine this.mono ?_
    rintro e w5 ⟨rfl, o', hu⟩
    refine ⟨rfl, o', ?_⟩
    have h5 := h4.upd hu
    have e1 : (if (!even) = true then B.n * v0 - A.n * u0 else A.n * u0 - B.n * v0) = newA A.n B.n u0 v0 even := by
      unfold newA
      cases even <;> simp [Nat.mul_comm]
    simp only [e1] at h5
    exact h5
  have hM : ∀ w4 oq or oA oB, S4F w0 F w4 ⟨A.b, oA, false, newA A.n B.n u0 v0 even⟩ ⟨B.b, oB, !even, B.n * v1⟩ ⟨q.b, oq, even, B.n * v0⟩ ⟨r.b, or, even, A.n * u1⟩ →
      Calls Tryz.prog 150 #[.pointer (some ⟨B.b, 0, none⟩), .pointer (some ⟨B.b, 0, none⟩), .pointer (some ⟨r.b, 0, none⟩)] w4 fun e w5 => e = .returned (.pointer (some ⟨B.b, 0, none⟩)) ∧ ∃ oB2, S4F w0 F w5 ⟨A.b, oA, false, newA A.n B.n u0 v0 even⟩ ⟨B.b, oB2, false, newB A.n B.n u1 v1 even⟩ ⟨q.b, oq, even, B.n * v0⟩ ⟨r.b, or, even, A.n * u1⟩ := by
    intro w4 oq or oA oB h4
    have := intAdd h4.s.ib h4.s.id h4.s.bd (by simp) (by
      cases even with
      | true => simp only [Bool.not_true, Bool.false_eq_true, if_false]; have := hf.ev1 rfl; rw [Nat.mul_comm, Nat.mul_comm B.n]; exact this
      | false => simp only [Bool.not_false, if_true]; have := hf.od1 rfl; rw [Nat.mul_comm, Nat.mul_comm A.n]; exact this) (up1000 (mul_bound bB b4)) (up1000 (mul_bound bA b2))
    refine this.mono ?_
    rintro e w5 ⟨rfl, o', hu⟩
    refine ⟨rfl, o', ?_⟩
    have h5 := (h4.swap.upd hu).swap
    have e1 : (if (!even) = true then A.n * u1 - B.n * v1 else B.n * v1 - A.n * u1) = newB A.n B.n u1 v1 even := by
      unfold newB
      cases even <;> simp [Nat.mul_comm]
    simp only [e1] at h5
    exact h5
  have hev : (even = true ∧ (!even) = false) ∨ (even = false ∧ (!even) = true) := by cases even <;> simp
  have step2 : ∀ w1 oq, Upd w q ⟨q.b, oq, even, B.n * v0⟩ w1 → S4F w0 F w1 A B ⟨q.b, oq, even, B.n * v0⟩ r ∧ Calls Tryz.prog 165 #[.pointer (some ⟨r.b, 0, none⟩), .pointer (some ⟨A.b, 0, none⟩), .bool even, .int .u64 (u1 : Int)] w1 fun e w' => e = .returned (.tuple #[]) ∧ ∃ o', S4F w0 F w' A B ⟨q.b, oq, even, B.n * v0⟩ ⟨r.b, o', even, A.n * u1⟩ := by
    intro w1 oq hu
    have h1 := (h.rot.rot.upd hu).rot.rot
    refine ⟨h1, (mulW (z := r) (m := u1) even h1.s.id (rd h1.s.ia hA) b2 (up1000' bA) h1.s.ad.symm.rd).mono ?_⟩
    rintro e w2 ⟨rfl, o', hu2⟩
    exact ⟨rfl, o', (h1.rot.rot.rot.upd hu2).rot⟩
  have step3 : ∀ w1 oq or, S4F w0 F w1 A B ⟨q.b, oq, even, B.n * v0⟩ ⟨r.b, or, even, A.n * u1⟩ → Calls Tryz.prog 165 #[.pointer (some ⟨A.b, 0, none⟩), .pointer (some ⟨A.b, 0, none⟩), .bool (!even), .int .u64 (u0 : Int)] w1 fun e w' => e = .returned (.tuple #[]) ∧ ∃ o', S4F w0 F w' ⟨A.b, o', !even, A.n * u0⟩ B ⟨q.b, oq, even, B.n * v0⟩ ⟨r.b, or, even, A.n * u1⟩ := by
    intro w1 oq or h1
    refine (mulW (z := A) (m := u0) (!even) h1.s.ia (rd h1.s.ia hA) b1 (up1000' bA) (.inl rfl)).mono ?_
    rintro e w2 ⟨rfl, o', hu2⟩
    exact ⟨rfl, o', h1.upd hu2⟩
  have step4 : ∀ w1 oA oq or, S4F w0 F w1 ⟨A.b, oA, !even, A.n * u0⟩ B ⟨q.b, oq, even, B.n * v0⟩ ⟨r.b, or, even, A.n * u1⟩ → Calls Tryz.prog 165 #[.pointer (some ⟨B.b, 0, none⟩), .pointer (some ⟨B.b, 0, none⟩), .bool (!even), .int .u64 (v1 : Int)] w1 fun e w' => e = .returned (.tuple #[]) ∧ ∃ o', S4F w0 F w' ⟨A.b, oA, !even, A.n * u0⟩ ⟨B.b, o', !even, B.n * v1⟩ ⟨q.b, oq, even, B.n * v0⟩ ⟨r.b, or, even, A.n * u1⟩ := by
    intro w1 oA oq or h1
    refine (mulW (z := B) (m := v1) (!even) h1.s.ib (rd h1.s.ib hB) b4 (up1000' bB) (.inl rfl)).mono ?_
    rintro e w2 ⟨rfl, o', hu2⟩
    exact ⟨rfl, o', (h1.swap.upd hu2).swap⟩
  have hfin : ∀ w' oq or oA oB, S4F w0 F w' ⟨A.b, oA, false, newA A.n B.n u0 v0 even⟩ ⟨B.b, oB, false, newB A.n B.n u1 v1 even⟩ ⟨q.b, oq, even, B.n * v0⟩ ⟨r.b, or, even, A.n * u1⟩ →
      Hid (∃ oA oB q' r', q'.b = q.b ∧ r'.b = r.b ∧ S4F w0 F w' ⟨A.b, oA, false, newA A.n B.n u0 v0 even⟩ ⟨B.b, oB, false, newB A.n B.n u1 v1 even⟩ q' r') := fun w' oq or oA oB hh => Lib.hid ⟨oA, oB, ⟨q.b, oq, even, B.n * v0⟩, ⟨r.b, or, even, A.n * u1⟩, rfl, rfl, hh⟩
  clear hf bA bB b1 b2 b3 b4 h hA hB rd
  rcases hev with ⟨e1, e2⟩ | ⟨e1, e2⟩
  all_goals
    rw [e2] at step3 step4 hN hM
    rw [e1] at step2 step3 step4 hN hM hfin k1 ⊢
    clear e1 e2
    generalize newA A.n B.n u0 v0 _ = nA at *
    generalize newB A.n B.n u1 v1 _ = nB at *
    go_enter Tryz.func163, Tryz.ntmps163
    go_wp2_with (first | (go_at_call 165; (with_reducible refine k1.mono ?_); rintro e w1 ⟨rfl, oq, hu⟩; obtain ⟨-, k2⟩ := step2 w1 oq hu; clear k1 step2 hu) | (go_at_call 165; (with_reducible refine k2.mono ?_); rintro e w2 ⟨rfl, or, hs2⟩; have k3 := step3 w2 oq or hs2; clear k2 step3 hs2) | (go_at_call 165; (with_reducible refine k3.mono ?_); rintro e w3 ⟨rfl, oA, hs3⟩; have k4 := step4 w3 oA oq or hs3; clear k3 step4 hs3) | (go_at_call 165; (with_reducible refine k4.mono ?_); rintro e w4 ⟨rfl, oB, hs4⟩; have k5 := hN w4 oq or oA oB hs4; clear k4 hN hs4) | (go_at_call 150; (with_reducible refine k5.mono ?_); rintro e w5 ⟨rfl, oA2, hs5⟩; have k6 := hM w5 oq or oA2 oB hs5; clear k5 hM hs5) | (go_at_call 150; (with_reducible refine k6.mono ?_); rintro e w6 ⟨rfl, oB2, hs6⟩; have HP := hfin w6 oq or oA2 oB2 hs6; clear k6 hfin hs6))
    exact ⟨rfl, .tuple #[], results_none rfl _ _ _, rfl, HP.out⟩
end Go.Proofs.YtpmggjplfcjkkaaGreatDoor

/- lehmerSimulate: the leading words. -/
set_option linter.unusedVariables false
set_option linter.unusedSimpArgs false
namespace Go.Proofs.YtpmggjplfcjkkaaGreatDoor
open Go.RowKit Nq

/-- What the leading words are taken of. -/
noncomputable def ldS (n h : Nat) : Nat := Bw ^ (n - 2) * 2 ^ (64 - h)
theorem ldS_pos (n h : Nat) : 0 < ldS n h := Nat.mul_pos (pow_pos' _) (Nat.two_pow_pos _)

theorem two_words {k h t x : Nat} (hh : h ≤ 64) : (t * Bw + x) / 2 ^ (64 - h) = t * 2 ^ h + x / 2 ^ (64 - h) := by
  rw [Bw_split hh, show 2 ^ (64 - h) * 2 ^ h = 2 ^ h * 2 ^ (64 - h) by rw [Nat.mul_comm], ← Nat.mul_assoc, Nat.add_comm, Nat.add_mul_div_right _ _ (Nat.two_pow_pos _), Nat.add_comm]

/-- Two leading words. -/
theorem lead_two {ws : List Nat} {n h : Nat} (hl : ws.length = n) (hn : 2 ≤ n) (wd : Wd ws) (hh : h ≤ 64) : vl ws / ldS n h = ws.getD (n - 1) 0 * 2 ^ h + ws.getD (n - 2) 0 / 2 ^ (64 - h) := by
  obtain ⟨k, rfl⟩ : ∃ k, n = k + 2 := ⟨n - 2, by omega⟩
  have h1 := two_split hl
  have h2 := vl_lt (wd.take k)
  rw [List.length_take, Nat.min_eq_left (by omega)] at h2
  unfold ldS
  rw [show k + 2 - 2 = k by omega, show k + 2 - 1 = k + 1 by omega, ← Nat.div_div_eq_div_mul, h1, Nat.add_comm, Nat.add_mul_div_right _ _ (pow_pos' k), Nat.div_eq_of_lt h2, Nat.zero_add, two_words (k := 0) hh]
/-- One. -/
theorem lead_one {ws : List Nat} {n h : Nat} (hl : ws.length + 1 = n) (hn : 2 ≤ n) (wd : Wd ws) : vl ws / ldS n h = ws.getD (n - 2) 0 / 2 ^ (64 - h) := by
  obtain ⟨k, rfl⟩ : ∃ k, n = k + 2 := ⟨n - 2, by omega⟩
  have h1 := vl_take_succ (l := ws) (i := k) (by omega)
  rw [show k + 1 = ws.length by omega, List.take_length] at h1
  have h2 := vl_lt (wd.take k)
  rw [List.length_take, Nat.min_eq_left (by omega)] at h2
  unfold ldS
  rw [show k + 2 - 2 = k by omega, ← Nat.div_div_eq_div_mul, h1, Nat.add_mul_div_left _ _ (pow_pos' k), Nat.div_eq_of_lt h2, Nat.zero_add]
/-- None. -/
theorem lead_none {ws : List Nat} {n h : Nat} (hl : ws.length + 1 < n) (wd : Wd ws) : vl ws / ldS n h = 0 := by
  apply Nat.div_eq_of_lt
  have h1 := vl_lt wd
  have h2 := pow_mono (m := ws.length) (n := n - 2) (by omega)
  have h3 : Bw ^ (n - 2) * 1 ≤ ldS n h := Nat.mul_le_mul_left _ (Nat.two_pow_pos _)
  omega
theorem or_lead {x y h : Nat} (hh : h < 64) (hy : y < Bw) (hx : x * 2 ^ h < Bw) : bits .or .u64 (shlW x h : Int) (shrW y (64 - h) : Int) = ((x * 2 ^ h + y / 2 ^ (64 - h) : Nat) : Int) ∧ x * 2 ^ h + y / 2 ^ (64 - h) < Bw := by
  have h1 := shrW_small hy (Nat.le_of_lt hh)
  have h2 : shlW x h = x * 2 ^ h := by unfold shlW; rw [Nat.min_eq_left (Nat.le_of_lt hh), Nat.mod_eq_of_lt hx]
  have h3 : shrW y (64 - h) = y / 2 ^ (64 - h) := by unfold shrW; rw [Nat.min_eq_left (by omega)]
  have h4 := shl_add_lt (x := x) (Nat.le_of_lt hh) h1
  rw [or_join (Nat.le_of_lt hh) h1, h2, h3]
  rw [h2, h3] at h4
  exact ⟨rfl, h4⟩

/-- What lehmerSimulate knows at the head of a round. -/
structure Sm (A B a b : Nat) (S : Nat) (u0 u1 u2 v0 v1 v2 a1 a2 : Nat) (even : Bool) : Prop where
  sim : Sim a b a1 a2 u1 u2 v1 v2 even
  out : Sim.Out A B u0 u1 v0 v1 even
  w0 : u0 < Bw
  w1 : u1 < Bw
  w2 : u2 < Bw
  x0 : v0 < Bw
  x1 : v1 < Bw
  x2 : v2 < Bw
theorem Sm.start {A B S : Nat} (h : B / S ≤ A / S) : Sm A B (A / S) (B / S) S 0 1 0 0 0 1 (A / S) (B / S) false := by
  have : 1 < Bw := by rw [Bw_eq]; omega
  have h0 := Bw_pos
  exact ⟨Sim.start h, .inl rfl, h0, this, h0, h0, h0, this⟩
theorem Sm.next {A B S u0 u1 u2 v0 v1 v2 a1 a2 : Nat} {even : Bool} (hS : 0 < S) (ha : A / S < Bw) (hb : B / S < Bw) (h : Sm A B (A / S) (B / S) S u0 u1 u2 v0 v1 v2 a1 a2 even) (h2 : v2 ≤ a2) (h3 : v1 + v2 ≤ a1 - a2) :
    Sm A B (A / S) (B / S) S u1 u2 (u1 + a1 / a2 * u2) v1 v2 (v1 + a1 / a2 * v2) a2 (a1 % a2) (!even) := by
  obtain ⟨s1, s2, s3⟩ := h.sim.step h2
  refine ⟨s1, ?_, h.w1, h.w2, by omega, h.x1, h.x2, by omega⟩
  exact h.sim.out_step h2 h3 (S := S) (x := A % S) (y := B % S) (by rw [Nat.mul_comm]; exact (Nat.div_add_mod A S).symm) (by rw [Nat.mul_comm]; exact (Nat.div_add_mod B S).symm) (Nat.mod_lt _ hS) (Nat.mod_lt _ hS)
end Go.Proofs.YtpmggjplfcjkkaaGreatDoor

/- lehmerSimulate: the walk. -/
set_option linter.unusedVariables false
set_option linter.unusedSimpArgs false
namespace Go.Proofs.YtpmggjplfcjkkaaGreatDoor
open Go.RowKit Nq

/-- What lehmerSimulate hands back. -/
def SimPost (A B : Nat) (w : World) (e : Ending) (w' : World) : Prop :=
  ∃ (u0 u1 v0 v1 : Nat) (even : Bool), e = .returned (.tuple #[.int .u64 (u0 : Int), .int .u64 (u1 : Int), .int .u64 (v0 : Int), .int .u64 (v1 : Int), .bool even]) ∧ u0 < Bw ∧ u1 < Bw ∧ v0 < Bw ∧ v1 < Bw ∧ Sim.Out A B u0 u1 v0 v1 even ∧ DrewOf w w'

theorem wrap_mul_lt {a b : Nat} (h : a * b < Bw) : IntKind.u64.wrap ((a : Int) * (b : Int)) = ((a * b : Nat) : Int) := by
  rw [← wrap_u64 (a * b) h]; rfl

/-- One round in numbers. -/
theorem Sm.round {A B S u0 u1 u2 v0 v1 v2 a1 a2 : Nat} {even : Bool} (hS : 0 < S) (ha : A / S < Bw) (hb : B / S < Bw) (h : Sm A B (A / S) (B / S) S u0 u1 u2 v0 v1 v2 a1 a2 even) (h2 : v2 ≤ a2) :
    IntKind.u64.wrap ((a1 : Int) - (a2 : Int)) = ((a1 - a2 : Nat) : Int) ∧ IntKind.u64.wrap ((v1 : Int) + (v2 : Int)) = ((v1 + v2 : Nat) : Int) ∧
    (v1 + v2 ≤ a1 - a2 → ∃ q r u3 v3 p1 p2 : Nat, ((a2 : Int) == 0) = false ∧ (a1 : Int) / (a2 : Int) = (q : Int) ∧ IntKind.u64.wrap (q : Int) = (q : Int) ∧ (a1 : Int) % (a2 : Int) = (r : Int) ∧ IntKind.u64.wrap ((q : Int) * (u2 : Int)) = (p1 : Int) ∧ IntKind.u64.wrap ((u1 : Int) + (p1 : Int)) = (u3 : Int) ∧ IntKind.u64.wrap ((q : Int) * (v2 : Int)) = (p2 : Int) ∧ IntKind.u64.wrap ((v1 : Int) + (p2 : Int)) = (v3 : Int) ∧ r < a2 ∧
      Hid (Sm A B (A / S) (B / S) S u1 u2 u3 v1 v2 v3 a2 r (!even))) := by
  have hw := h.sim.words h2
  have hle := h.sim.le
  have hone := h.sim.one
  refine ⟨wrap_sub_ge hle (by omega), wrap_add _ _ (by omega), ?_⟩
  intro h3
  have hn := h.next hS ha hb h2 h3
  have e1 := hn.w2
  have e2 := hn.x2
  refine ⟨a1 / a2, a1 % a2, u1 + a1 / a2 * u2, v1 + a1 / a2 * v2, a1 / a2 * u2, a1 / a2 * v2, ?_, by simp, wrap_u64 _ (Nat.lt_of_le_of_lt (Nat.div_le_self _ _) (by omega)), by simp, wrap_mul_lt (by omega), wrap_add _ _ e1, wrap_mul_lt (by omega), wrap_add _ _ e2, Nat.mod_lt _ (by omega), Lib.hid hn⟩
  rw [beq_eq_false_iff_ne]; omega

set_option maxRecDepth 100000 in
set_option maxHeartbeats 4000000 in
theorem lehmerSimulate {A B : Ent} {w : World} (hA : A.isAt w) (hB : B.isAt w) (hb : Bw ≤ B.n) (hba : B.n ≤ A.n) : Calls Tryz.prog 162 #[.pointer (some ⟨A.b, 0, none⟩), .pointer (some ⟨B.b, 0, none⟩)] w (SimPost A.n B.n w) := by
  obtain ⟨av, a1, xs, a2, wA, nA, eA⟩ := hA
  obtain ⟨bv, b1, ys, b2, wB, nB, eB⟩ := hB
  have ca := a1.cell 1 rfl
  have cb := b1.cell 1 rfl
  have hlb : 2 ≤ ys.length := by
    apply Nat.le_of_not_lt
    intro h
    have h1 := vl_lt wB
    have h2 := pow_mono (m := ys.length) (n := 1) (by omega)
    rw [Nat.pow_one] at h2
    omega
  have hab := length_le_of_vl nB wA (by omega)
  obtain ⟨xa, XA, hoA, rfl, hXA, tXA, lXA, cXA⟩ := a2.block (len_of_vl (c := 1) (by omega))
  obtain ⟨xb, XB, hoB, rfl, hXB, tXB, lXB, cXB⟩ := b2.block (len_of_vl (c := 1) (by omega))
  have rA := hXA.row_take tXA
  have rB := hXB.row_take tXB
  obtain ⟨n, hn⟩ : ∃ n, n = xs.length := ⟨_, rfl⟩
  obtain ⟨m, hm⟩ : ∃ m, m = ys.length := ⟨_, rfl⟩
  obtain ⟨n1, hn1⟩ : ∃ n1, n1 = n - 1 := ⟨_, rfl⟩
  obtain ⟨n2, hn2⟩ : ∃ n2, n2 = n - 2 := ⟨_, rfl⟩
  have t1 := rA n1 (by omega)
  have t2 := rA n2 (by omega)
  rw [Nat.zero_add] at t1 t2
  have tw := wA.getD n1
  have t0 : 0 < xs.getD n1 0 := by
    have h := nA (len_of_vl (c := 1) (by omega))
    rw [List.getLast_eq_getElem] at h
    rw [List.getD_eq_getElem?_getD, List.getElem?_eq_getElem (by omega)]
    simp only [Option.getD_some]
    have : xs.length - 1 = n1 := by omega
    simp only [this] at h
    omega
  obtain ⟨s1, s2, s3⟩ := nlzW_spec tw t0
  have hnl := nlz (xs.getD n1 0) tw
  obtain ⟨h, hh⟩ : ∃ h, h = nlzW (xs.getD n1 0) := ⟨_, rfl⟩
  rw [← hh] at s1 s2 s3 hnl
  obtain ⟨t, ht⟩ : ∃ t, t = 64 - h := ⟨_, rfl⟩
  have o1 := or_lead (x := xs.getD n1 0) (y := xs.getD n2 0) s1 (wA.getD n2) s3
  have lA := lead_two (h := h) hn.symm (by omega) wA (Nat.le_of_lt s1)
  rw [← hn1, ← hn2] at lA
  rw [eA] at lA
  have hS := ldS_pos n h
  obtain ⟨S, eS⟩ : ∃ S, S = ldS n h := ⟨_, rfl⟩
  rw [← eS] at lA hS
  obtain ⟨aw, eaw⟩ : ∃ aw, aw = A.n / S := ⟨_, rfl⟩
  obtain ⟨bw, ebw⟩ : ∃ bw, bw = B.n / S := ⟨_, rfl⟩
  have hbaw : bw ≤ aw := by rw [eaw, ebw]; exact Nat.div_le_div_right hba
  rw [← eaw] at lA
  rw [← lA] at o1
  obtain ⟨o1, haw⟩ := o1
  rw [← ht] at o1
  have hbw : bw < Bw := by omega
  -- the second leading word
  have hB2 : (n = m ∧ bits .or .u64 (shlW (ys.getD n1 0) h : Int) (shrW (ys.getD n2 0) t : Int) = (bw : Int) ∧ n1 < m ∧ n2 < m) ∨ (n = m + 1 ∧ shrW (ys.getD n2 0) t = bw ∧ n2 < m) ∨ (m + 1 < n ∧ bw = 0) := by
    rcases Nat.lt_trichotomy n (m + 1) with h1 | h1 | h1
    · left
      have e : n = m := by omega
      have lB := lead_two (h := h) (ws := ys) (n := n) (by omega) (by omega) wB (Nat.le_of_lt s1)
      rw [← hn1, ← hn2, eB, ← eS, ← ebw] at lB
      have hlt : ys.getD n1 0 * 2 ^ h < Bw := Nat.lt_of_le_of_lt (Nat.le_add_right _ (ys.getD n2 0 / 2 ^ (64 - h))) (by rw [← lB]; exact hbw)
      have o2 := or_lead (x := ys.getD n1 0) (y := ys.getD n2 0) s1 (wB.getD n2) hlt
      rw [← lB, ← ht] at o2
      exact ⟨e, o2.1, by omega, by omega⟩
    · right; left
      have lB := lead_one (h := h) (ws := ys) (n := n) (by omega) (by omega) wB
      rw [← hn2, eB, ← eS, ← ebw, ← ht] at lB
      refine ⟨by omega, ?_, by omega⟩
      rw [lB]; unfold shrW; rw [Nat.min_eq_left (by omega)]
    · right; right
      refine ⟨h1, ?_⟩
      rw [ebw, eS, ← eB]
      exact lead_none (by omega) wB
  have hstart : Hid (Sm A.n B.n aw bw S 0 1 0 0 0 1 aw bw false) := by rw [eaw, ebw]; exact Lib.hid (Sm.start (by rw [← eaw, ← ebw]; exact hbaw))
  have hround : Hid (∀ (u0 u1 u2 v0 v1 v2 a1 a2 : Nat) (even : Bool), Sm A.n B.n aw bw S u0 u1 u2 v0 v1 v2 a1 a2 even → v2 ≤ a2 → _) := Lib.hid (fun u0 u1 u2 v0 v1 v2 a1 a2 even (hsm : Sm A.n B.n aw bw S u0 u1 u2 v0 v1 v2 a1 a2 even) h2 => by
    rw [eaw, ebw] at hsm
    exact hsm.round hS (by rw [← eaw]; exact haw) (by rw [← ebw]; exact hbw) h2)
  rw [← eaw, ← ebw] at hround
  have q1 : (n : Int) - 1 = (n1 : Int) := by omega
  have q2 : (n : Int) - 2 = (n2 : Int) := by omega
  have q3 : n1 < n := by omega
  have q4 : n2 < n := by omega
  have q5 : (64 : Int) - (h : Int) = (t : Int) := by omega
  have q6 : t ≤ 64 := by omega
  have q7 : n ≤ 100000 := by omega
  have q8 : m ≤ 100000 := by omega
  have u1 := rB n1
  have u2 := rB n2
  rw [Nat.zero_add] at u1 u2
  rw [← hn] at ca
  rw [← hm] at cb u1 u2
  have k1 := kw_shl (Nat.le_of_lt s1)
  have k2 := kw_shr q6
  generalize xs.getD n1 0 = X1 at *
  generalize xs.getD n2 0 = X2 at *
  generalize ys.getD n1 0 = Y1 at *
  generalize ys.getD n2 0 = Y2 at *
  generalize A.b = ab at *
  generalize B.b = bb at *
  generalize XA.length = cA at *
  generalize XB.length = cB at *
  rw [← hn] at lXA
  rw [← hm] at lXB
  clear hXA tXA hXB tXB rA rB a1 a2 b1 b2 wA nA eA wB nB eB hlb hab hn hm hn1 hn2 hh ht lA hS eS eaw ebw tw t0 s2 s3 hbaw hoA hoB cXA cXB
  go_enter Tryz.func162, Tryz.ntmps162
  go_wp2_with (go_at_call 121; (with_reducible refine (hnl _).mono ?_); rintro e w1 ⟨rfl, rfl⟩)
  go_quiet (fail)
  clear hnl ca t1 t2 o1
  rcases hB2 with ⟨e, hb1, hb2, hb3⟩ | ⟨e, hb1, hb2⟩ | ⟨e, hb1⟩
  · subst e
    have u1 := u1 hb2
    have u2 := u2 hb3
    go_wp2_with fail
    go_quiet (fail)
    clear cb u1 u2 hb1 hb2 hb3 q1 q2 q3 q4 q5 q6 q7 q8 k1 k2 s1 lXA lXB
    go_wp2_with fail
    go_loopw [4, 5, 6, 7, 8, 9, 10, 11, 12] (fun c4 c5 c6 c7 c8 c9 c10 c11 c12 wr => ∃ (u0 u1 v0 v1 : Nat) (even : Bool) (a1 a2 u2 v2 : Nat), c4 = .int .u64 (u0 : Int) ∧ c5 = .int .u64 (u1 : Int) ∧ c6 = .int .u64 (v0 : Int) ∧ c7 = .int .u64 (v1 : Int) ∧ c8 = .bool even ∧ c9 = .int .u64 (a1 : Int) ∧ c10 = .int .u64 (a2 : Int) ∧ c11 = .int .u64 (u2 : Int) ∧ c12 = .int .u64 (v2 : Int) ∧ Hid (Sm A.n B.n aw bw S u0 u1 u2 v0 v1 v2 a1 a2 even) ∧ DrewOf w wr) (fun _ _ _ _ _ _ c10 _ _ _ => (intOf c10).toNat)
    case atStart => exact ⟨0, 1, 0, 0, false, aw, bw, 0, 1, rfl, rfl, rfl, rfl, rfl, rfl, rfl, rfl, rfl, hstart, (DrewOf.mk _ _).drewN _⟩
    case round =>
      obtain ⟨u0, u1, v0, v1, even, a1, a2, u2, v2, rfl, rfl, rfl, rfl, rfl, rfl, rfl, rfl, rfl, hsm, hd⟩ := hrel
      have hout : Hid (SimPost A.n B.n w (.returned (.tuple #[.int .u64 (u0 : Int), .int .u64 (u1 : Int), .int .u64 (v0 : Int), .int .u64 (v1 : Int), .bool even])) wr) := Lib.hid ⟨u0, u1, v0, v1, even, rfl, hsm.out.w0, hsm.out.w1, hsm.out.x0, hsm.out.x1, hsm.out.out, hd⟩
      have HD := Lib.hid hd
      clear hd
      by_cases h2 : v2 ≤ a2
      · obtain ⟨x1, x2, x3⟩ := hround.out u0 u1 u2 v0 v1 v2 a1 a2 even hsm.out h2
        have d1 : decide (v2 ≤ a2) = true := by simp; omega
        obtain ⟨D, hD⟩ : ∃ D, D = a1 - a2 := ⟨_, rfl⟩
        obtain ⟨V, hV⟩ : ∃ V, V = v1 + v2 := ⟨_, rfl⟩
        rw [← hD] at x1
        rw [← hV] at x2
        by_cases h3 : v1 + v2 ≤ a1 - a2
        · obtain ⟨q, r, u3, v3, p1, p2, y0, y1, y2, y3, y4, y5, y6, y7, y8, y9⟩ := x3 h3
          have d2 : decide (V ≤ D) = true := by simp; omega
          have y0n : ¬ a2 = 0 := by omega
          have M : Hid ((r : Int).toNat < (a2 : Int).toNat) := Lib.hid (by omega)
          clear x3 h2 h3 hD hV hout y8 hround hstart hsm
          have Y1 := Lib.hid y1
          have Y2 := Lib.hid y2
          have Y3 := Lib.hid y3
          clear y1 y2 y3
          go_wp2_with fail
          go_quiet (fail)
          have y1 := Y1.out
          have y2 := Y2.out
          have y3 := Y3.out
          go_wp2_with fail
          go_roundw
          case rel => exact ⟨u1, u2, v1, v2, !even, a2, r, u3, v3, rfl, rfl, rfl, rfl, rfl, rfl, by rw [Y3.out], rfl, rfl, y9, HD.out.drewN _⟩
          case measure => simp only [intOf]; rw [Y3.out]; exact M.out
        · have d2 : decide (V ≤ D) = false := by simp; omega
          clear x3 h2 h3 hD hV hround hstart hsm
          go_wp2
          exact ⟨rfl, .tuple #[.int .u64 (u0 : Int), .int .u64 (u1 : Int), .int .u64 (v0 : Int), .int .u64 (v1 : Int), .bool even], by simp [results, Tryz.results162, go_sem], hout.out⟩
      · have d1 : decide (v2 ≤ a2) = false := by simp; omega
        clear h2 hround hstart hsm
        go_wp2
        exact ⟨rfl, .tuple #[.int .u64 (u0 : Int), .int .u64 (u1 : Int), .int .u64 (v0 : Int), .int .u64 (v1 : Int), .bool even], by simp [results, Tryz.results162, go_sem], hout.out⟩
  · have e1 : (m : Int) + 1 = (n : Int) := by omega
    have e2 : ((n : Int) == (m : Int)) = false := by rw [beq_eq_false_iff_ne]; omega
    have e3 : IntKind.i64.wrap (n : Int) = (n : Int) := by rw [IntKind.wrap_i64]; omega
    have u2 := u2 hb2
    have hb1' : (shrW Y2 t : Int) = (bw : Int) := by rw [hb1]
    clear u1 hb1 e
    go_wp2_with fail
    clear cb u2 hb1' hb2 q1 q2 q3 q4 q5 q6 q7 q8 k1 k2 s1 lXA lXB e1 e2 e3
    go_loopw [4, 5, 6, 7, 8, 9, 10, 11, 12] (fun c4 c5 c6 c7 c8 c9 c10 c11 c12 wr => ∃ (u0 u1 v0 v1 : Nat) (even : Bool) (a1 a2 u2 v2 : Nat), c4 = .int .u64 (u0 : Int) ∧ c5 = .int .u64 (u1 : Int) ∧ c6 = .int .u64 (v0 : Int) ∧ c7 = .int .u64 (v1 : Int) ∧ c8 = .bool even ∧ c9 = .int .u64 (a1 : Int) ∧ c10 = .int .u64 (a2 : Int) ∧ c11 = .int .u64 (u2 : Int) ∧ c12 = .int .u64 (v2 : Int) ∧ Hid (Sm A.n B.n aw bw S u0 u1 u2 v0 v1 v2 a1 a2 even) ∧ DrewOf w wr) (fun _ _ _ _ _ _ c10 _ _ _ => (intOf c10).toNat)
    case atStart => exact ⟨0, 1, 0, 0, false, aw, bw, 0, 1, rfl, rfl, rfl, rfl, rfl, rfl, rfl, rfl, rfl, hstart, DrewOf.mk _ _⟩
    case round =>
      obtain ⟨u0, u1, v0, v1, even, a1, a2, u2, v2, rfl, rfl, rfl, rfl, rfl, rfl, rfl, rfl, rfl, hsm, hd⟩ := hrel
      have hout : Hid (SimPost A.n B.n w (.returned (.tuple #[.int .u64 (u0 : Int), .int .u64 (u1 : Int), .int .u64 (v0 : Int), .int .u64 (v1 : Int), .bool even])) wr) := Lib.hid ⟨u0, u1, v0, v1, even, rfl, hsm.out.w0, hsm.out.w1, hsm.out.x0, hsm.out.x1, hsm.out.out, hd⟩
      have HD := Lib.hid hd
      clear hd
      by_cases h2 : v2 ≤ a2
      · obtain ⟨x1, x2, x3⟩ := hround.out u0 u1 u2 v0 v1 v2 a1 a2 even hsm.out h2
        have d1 : decide (v2 ≤ a2) = true := by simp; omega
        obtain ⟨D, hD⟩ : ∃ D, D = a1 - a2 := ⟨_, rfl⟩
        obtain ⟨V, hV⟩ : ∃ V, V = v1 + v2 := ⟨_, rfl⟩
        rw [← hD] at x1
        rw [← hV] at x2
        by_cases h3 : v1 + v2 ≤ a1 - a2
        · obtain ⟨q, r, u3, v3, p1, p2, y0, y1, y2, y3, y4, y5, y6, y7, y8, y9⟩ := x3 h3
          have d2 : decide (V ≤ D) = true := by simp; omega
          have y0n : ¬ a2 = 0 := by omega
          have M : Hid ((r : Int).toNat < (a2 : Int).toNat) := Lib.hid (by omega)
          clear x3 h2 h3 hD hV hout y8 hround hstart hsm
          have Y1 := Lib.hid y1
          have Y2 := Lib.hid y2
          have Y3 := Lib.hid y3
          clear y1 y2 y3
          go_wp2_with fail
          go_quiet (fail)
          have y1 := Y1.out
          have y2 := Y2.out
          have y3 := Y3.out
          go_wp2_with fail
          go_roundw
          case rel => exact ⟨u1, u2, v1, v2, !even, a2, r, u3, v3, rfl, rfl, rfl, rfl, rfl, rfl, by rw [Y3.out], rfl, rfl, y9, HD.out.drewN _⟩
          case measure => simp only [intOf]; rw [Y3.out]; exact M.out
        · have d2 : decide (V ≤ D) = false := by simp; omega
          clear x3 h2 h3 hD hV hround hstart hsm
          go_wp2
          exact ⟨rfl, .tuple #[.int .u64 (u0 : Int), .int .u64 (u1 : Int), .int .u64 (v0 : Int), .int .u64 (v1 : Int), .bool even], by simp [results, Tryz.results162, go_sem], hout.out⟩
      · have d1 : decide (v2 ≤ a2) = false := by simp; omega
        clear h2 hround hstart hsm
        go_wp2
        exact ⟨rfl, .tuple #[.int .u64 (u0 : Int), .int .u64 (u1 : Int), .int .u64 (v0 : Int), .int .u64 (v1 : Int), .bool even], by simp [results, Tryz.results162, go_sem], hout.out⟩
  · obtain ⟨p, hp⟩ : ∃ p, p = m + 1 := ⟨_, rfl⟩
    have e1 : (m : Int) + 1 = (p : Int) := by omega
    have e2 : ((n : Int) == (m : Int)) = false := by rw [beq_eq_false_iff_ne]; omega
    have e3 : IntKind.i64.wrap (p : Int) = (p : Int) := by rw [IntKind.wrap_i64]; omega
    have e4 : ((n : Int) == (p : Int)) = false := by rw [beq_eq_false_iff_ne]; omega
    subst hb1
    clear u1 u2 hp e
    go_wp2_with fail
    clear cb q1 q2 q3 q4 q5 q6 q7 q8 k1 k2 s1 lXA lXB e1 e2 e3 e4
    go_loopw [4, 5, 6, 7, 8, 9, 10, 11, 12] (fun c4 c5 c6 c7 c8 c9 c10 c11 c12 wr => ∃ (u0 u1 v0 v1 : Nat) (even : Bool) (a1 a2 u2 v2 : Nat), c4 = .int .u64 (u0 : Int) ∧ c5 = .int .u64 (u1 : Int) ∧ c6 = .int .u64 (v0 : Int) ∧ c7 = .int .u64 (v1 : Int) ∧ c8 = .bool even ∧ c9 = .int .u64 (a1 : Int) ∧ c10 = .int .u64 (a2 : Int) ∧ c11 = .int .u64 (u2 : Int) ∧ c12 = .int .u64 (v2 : Int) ∧ Hid (Sm A.n B.n aw 0 S u0 u1 u2 v0 v1 v2 a1 a2 even) ∧ DrewOf w wr) (fun _ _ _ _ _ _ c10 _ _ _ => (intOf c10).toNat)
    case atStart => exact ⟨0, 1, 0, 0, false, aw, 0, 0, 1, rfl, rfl, rfl, rfl, rfl, rfl, rfl, rfl, rfl, hstart, DrewOf.mk _ _⟩
    case round =>
      obtain ⟨u0, u1, v0, v1, even, a1, a2, u2, v2, rfl, rfl, rfl, rfl, rfl, rfl, rfl, rfl, rfl, hsm, hd⟩ := hrel
      have hout : Hid (SimPost A.n B.n w (.returned (.tuple #[.int .u64 (u0 : Int), .int .u64 (u1 : Int), .int .u64 (v0 : Int), .int .u64 (v1 : Int), .bool even])) wr) := Lib.hid ⟨u0, u1, v0, v1, even, rfl, hsm.out.w0, hsm.out.w1, hsm.out.x0, hsm.out.x1, hsm.out.out, hd⟩
      have HD := Lib.hid hd
      clear hd
      by_cases h2 : v2 ≤ a2
      · obtain ⟨x1, x2, x3⟩ := hround.out u0 u1 u2 v0 v1 v2 a1 a2 even hsm.out h2
        have d1 : decide (v2 ≤ a2) = true := by simp; omega
        obtain ⟨D, hD⟩ : ∃ D, D = a1 - a2 := ⟨_, rfl⟩
        obtain ⟨V, hV⟩ : ∃ V, V = v1 + v2 := ⟨_, rfl⟩
        rw [← hD] at x1
        rw [← hV] at x2
        by_cases h3 : v1 + v2 ≤ a1 - a2
        · obtain ⟨q, r, u3, v3, p1, p2, y0, y1, y2, y3, y4, y5, y6, y7, y8, y9⟩ := x3 h3
          have d2 : decide (V ≤ D) = true := by simp; omega
          have y0n : ¬ a2 = 0 := by omega
          have M : Hid ((r : Int).toNat < (a2 : Int).toNat) := Lib.hid (by omega)
          clear x3 h2 h3 hD hV hout y8 hround hstart hsm
          have Y1 := Lib.hid y1
          have Y2 := Lib.hid y2
          have Y3 := Lib.hid y3
          clear y1 y2 y3
          go_wp2_with fail
          go_quiet (fail)
          have y1 := Y1.out
          have y2 := Y2.out
          have y3 := Y3.out
          go_wp2_with fail
          go_roundw
          case rel => exact ⟨u1, u2, v1, v2, !even, a2, r, u3, v3, rfl, rfl, rfl, rfl, rfl, rfl, by rw [Y3.out], rfl, rfl, y9, HD.out.drewN _⟩
          case measure => simp only [intOf]; rw [Y3.out]; exact M.out
        · have d2 : decide (V ≤ D) = false := by simp; omega
          clear x3 h2 h3 hD hV hround hstart hsm
          go_wp2
          exact ⟨rfl, .tuple #[.int .u64 (u0 : Int), .int .u64 (u1 : Int), .int .u64 (v0 : Int), .int .u64 (v1 : Int), .bool even], by simp [results, Tryz.results162, go_sem], hout.out⟩
      · have d1 : decide (v2 ≤ a2) = false := by simp; omega
        clear h2 hround hstart hsm
        go_wp2
        exact ⟨rfl, .tuple #[.int .u64 (u0 : Int), .int .u64 (u1 : Int), .int .u64 (v0 : Int), .int .u64 (v1 : Int), .bool even], by simp [results, Tryz.results162, go_sem], hout.out⟩
end Go.Proofs.YtpmggjplfcjkkaaGreatDoor

/- euclidUpdate; one round of lehmerGCD. -/
set_option linter.unusedVariables false
set_option linter.unusedSimpArgs false
namespace Go.Proofs.YtpmggjplfcjkkaaGreatDoor
open Go.RowKit Nq

/-- What stands between the rounds of lehmerGCD: A, B, two numbers aside. -/
structure GI (w0 w : World) (an bn : Nat) (A B q r : Ent) : Prop where
  s : S4F w0 [] w A B q r
  na : A.neg = false
  nb : B.neg = false
  a0 : 0 < A.n
  le : B.n ≤ A.n
  g : Nat.gcd A.n B.n = Nat.gcd an bn
  lt : A.n < Bw ^ 39
theorem GI.drewN {w0 w : World} {an bn : Nat} {A B q r : Ent} (h : GI w0 w an bn A B q r) (k : Nat) : GI w0 (w.drewN k) an bn A B q r := ⟨h.s.drewN k, h.na, h.nb, h.a0, h.le, h.g, h.lt⟩
theorem S4F.feet {w0 w : World} {a b c d : Ent} (h : S4F w0 [] w a b c d) (hT : Th w0) : ∀ x ∈ a.foot ++ b.foot ++ c.foot ++ d.foot, 14 ≤ x := by
  intro x hx
  have := hT.size
  rcases h.new x hx with h1 | h1
  · simp at h1
  · omega

set_option maxRecDepth 100000 in
set_option maxHeartbeats 1000000 in
theorem GI.euclid {w0 w : World} {an bn : Nat} {A B q r : Ent} (h : GI w0 w an bn A B q r) (hT : Th w0) (hb : 0 < B.n) :
    Calls Tryz.prog 164 #[.pointer (some ⟨A.b, 0, none⟩), .pointer (some ⟨B.b, 0, none⟩), .pointer none, .pointer none, .pointer (some ⟨q.b, 0, none⟩), .pointer (some ⟨r.b, 0, none⟩), .bool false] w fun e w' =>
      e = .returned (.tuple #[.pointer (some ⟨B.b, 0, none⟩), .pointer (some ⟨r.b, 0, none⟩), .pointer (some ⟨A.b, 0, none⟩), .pointer none, .pointer none]) ∧ ∃ q' r', q'.b = q.b ∧ r'.b = r.b ∧ r'.n = A.n % B.n ∧ GI w0 w' an bn B r' q' A := by
  have hs := h.s.s
  have hp : S4 w q A B r := ⟨hs.ic, hs.ia, hs.ib, hs.id, hs.ac.symm, hs.bc.symm, hs.cd, hs.ab, hs.ad, hs.bd⟩
  have hf14 := h.s.feet hT
  have hcall := quoRem hp h.na h.nb hb h.le (Nat.lt_of_lt_of_le h.lt (pow_mono (m := 39) (n := 200) (by decide))) (Nat.lt_of_le_of_lt h.le h.lt) (hT.fr h.s.fr (by simp)) (by
    intro t ht
    apply hf14
    simp only [List.mem_append] at ht ⊢
    rcases ht with ht | ht
    · exact .inl (.inr ht)
    · exact .inr ht)
  have hfin : ∀ w', (∃ qo ro, QR w q A B r ⟨q.b, qo, false, A.n / B.n⟩ ⟨r.b, ro, false, A.n % B.n⟩ w') → Hid (∃ q' r', q'.b = q.b ∧ r'.b = r.b ∧ r'.n = A.n % B.n ∧ GI w0 w' an bn B r' q' A) := by
    rintro w' ⟨qo, ro, hq⟩
    have k := hq.s
    refine Lib.hid ⟨⟨q.b, qo, false, A.n / B.n⟩, ⟨r.b, ro, false, A.n % B.n⟩, rfl, rfl, rfl, ⟨⟨⟨k.ic, k.id, k.ia, k.ib, k.cd, k.ac.symm, k.bc.symm, k.ad.symm, k.bd.symm, k.ab⟩, ?_, ?_⟩, h.nb, rfl, hb, ?_, ?_, Nat.lt_of_le_of_lt h.le h.lt⟩⟩
    · refine h.s.fr.trans_new hq.fr ?_
      intro x hx
      apply h.s.new
      simp only [List.mem_append] at hx ⊢
      rcases hx with hx | hx
      · exact .inl (.inr hx)
      · exact .inr hx
    · intro x hx
      have hsz := h.s.fr.size
      have hn : ∀ y ∈ q.foot ++ r.foot, y ∈ ([] : List Nat) ∨ w0.heap.size ≤ y := by
        intro y hy
        apply h.s.new
        simp only [List.mem_append] at hy ⊢
        rcases hy with hy | hy
        · exact .inl (.inr hy)
        · exact .inr hy
      have hqn : ∀ y, y ∈ (Ent.mk q.b qo false (A.n / B.n)).foot ++ (Ent.mk r.b ro false (A.n % B.n)).foot → y ∈ ([] : List Nat) ∨ w0.heap.size ≤ y := by
        intro y hy
        rcases hq.new y hy with h1 | h1
        · exact hn y h1
        · right; omega
      simp only [List.mem_append] at hx
      rcases hx with ((hx | hx) | hx) | hx
      · exact h.s.new x (by simp [hx])
      · exact hqn x (by simp [hx])
      · exact hqn x (by simp [hx])
      · exact h.s.new x (by simp [hx])
    · exact Nat.le_of_lt (Nat.mod_lt _ hb)
    · rw [← h.g, Nat.gcd_comm A.n B.n, Nat.gcd_rec B.n A.n, Nat.gcd_comm]
  clear hs hp hf14 hT h
  generalize A.b = ab at *
  generalize B.b = bb at *
  generalize q.b = qb at *
  generalize r.b = rb at *
  go_enter Tryz.func164, Tryz.ntmps164
  go_wp2_with (go_at_call 201; (with_reducible refine hcall.mono ?_); rintro e w1 ⟨rfl, hp⟩; have HP := hfin w1 hp)
  exact ⟨rfl, .tuple #[.pointer (some ⟨bb, 0, none⟩), .pointer (some ⟨rb, 0, none⟩), .pointer (some ⟨ab, 0, none⟩), .pointer none, .pointer none], by simp [results, Tryz.results164, go_sem], rfl, HP.out⟩

/-- A step by the simulation. -/
theorem GI.update {w0 w : World} {an bn : Nat} {A B q r : Ent} (h : GI w0 w an bn A B q r) {u0 u1 v0 v1 : Nat} {even : Bool} (hf : Fac A.n B.n u0 u1 v0 v1 even) (h0 : 1 ≤ v0) (h1 : 1 ≤ v1) (hb : 0 < B.n) (b1 : u0 < Bw) (b2 : u1 < Bw) (b3 : v0 < Bw) (b4 : v1 < Bw) :
    Calls Tryz.prog 163 #[.pointer (some ⟨A.b, 0, none⟩), .pointer (some ⟨B.b, 0, none⟩), .pointer (some ⟨q.b, 0, none⟩), .pointer (some ⟨r.b, 0, none⟩), .int .u64 (u0 : Int), .int .u64 (u1 : Int), .int .u64 (v0 : Int), .int .u64 (v1 : Int), .bool even] w fun e w' =>
      e = .returned (.tuple #[]) ∧ ∃ A' B' q' r', A'.b = A.b ∧ B'.b = B.b ∧ q'.b = q.b ∧ r'.b = r.b ∧ A'.n + B'.n < A.n + B.n ∧ GI w0 w' an bn A' B' q' r' := by
  have hA : A.n < Bw ^ 100 := Nat.lt_of_lt_of_le h.lt (pow_mono (m := 39) (n := 100) (by decide))
  refine (lehmerUpdate h.s h.na h.nb hf hA (Nat.lt_of_le_of_lt h.le hA) b1 b2 b3 b4).mono ?_
  rintro e w' ⟨rfl, oA, oB, q', r', e1, e2, hs⟩
  obtain ⟨f1, f2, f3⟩ := hf.back
  have f4 := hf.less h0 h1
  have f5 := hf.gcd
  refine ⟨rfl, ⟨A.b, oA, false, newA A.n B.n u0 v0 even⟩, ⟨B.b, oB, false, newB A.n B.n u1 v1 even⟩, q', r', rfl, rfl, e1, e2, ?_, ⟨hs, rfl, rfl, ?_, f3, by rw [← h.g]; exact f5, ?_⟩⟩
  · show newA A.n B.n u0 v0 even + newB A.n B.n u1 v1 even < A.n + B.n
    omega
  · show 0 < newA A.n B.n u0 v0 even
    rcases Nat.eq_zero_or_pos (newA A.n B.n u0 v0 even) with e | e
    · have e' : newB A.n B.n u1 v1 even = 0 := by omega
      rw [e, e'] at f1
      have := h.a0
      simp at f1
      omega
    · exact e
  · show newA A.n B.n u0 v0 even < Bw ^ 39
    have := h.lt
    omega
theorem GI.lens {w0 w : World} {an bn : Nat} {A B q r : Ent} (h : GI w0 w an bn A B q r) :
    ∃ a l c a' l' c', w.cell? ⟨A.b, 1, none⟩ = some (.slice a l c) ∧ w.cell? ⟨B.b, 1, none⟩ = some (.slice a' l' c') ∧ (l ≤ 1 ↔ A.n < Bw) ∧ (l' ≤ 1 ↔ B.n < Bw) ∧ (l' = 0 ↔ B.n = 0) ∧ l ≤ 100000 ∧ l' ≤ 100000 ∧ 0 < l := by
  obtain ⟨v, h1, h2⟩ := h.s.s.ia
  obtain ⟨u, k1, k2⟩ := h.s.s.ib
  obtain ⟨a, l, c, rfl, e1, e2, e3⟩ := h2.len
  obtain ⟨a', l', c', rfl, f1, f2, f3⟩ := k2.len
  refine ⟨a, l, c, a', l', c', h1.cell 1 rfl, k1.cell 1 rfl, e2, f2, f1, e3, f3, ?_⟩
  have := h.a0
  rcases Nat.eq_zero_or_pos l with e | e
  · have := e1.1 e; omega
  · exact e
end Go.Proofs.YtpmggjplfcjkkaaGreatDoor

/- lehmerGCD. -/
set_option linter.unusedVariables false
set_option linter.unusedSimpArgs false
namespace Go.Proofs.YtpmggjplfcjkkaaGreatDoor
open Go.RowKit Nq

/-- A new number. -/
abbrev intNew : Obj := .cells #[.bool false, .slice none 0 0] 99
theorem Ent.new (w : World) : (Ent.mk w.heap.size none false 0).isAt (w.alloc intNew) := ⟨_, Cells.new w _ 99, IsN.nil _⟩
theorem Fr.new (w : World) : Fr [] w (w.alloc intNew) := (Fr.refl _ _).alloc _
/-- Abs into a new number. -/
theorem abs_new {w : World} {rb ro : Nat} {xo : Option Nat} {xneg : Bool} {xn : Nat} (hx : IntRd w rb ro xo xneg xn) (h0 : 0 < xn) (hb : xn < Bw ^ 39) :
    Calls Tryz.prog 160 #[.pointer (some ⟨w.heap.size, 0, none⟩), .pointer (some ⟨rb, ro, none⟩)] (w.alloc intNew) fun e w' => e = .returned (.pointer (some ⟨w.heap.size, 0, none⟩)) ∧ ∃ A : Ent, A.b = w.heap.size ∧ A.neg = false ∧ A.n = xn ∧ A.isAt w' ∧ Fr [] w w' ∧ ∀ x ∈ A.foot, w.heap.size ≤ x := by
  have hlt := hx.lt
  have hx' := hx.fr (Fr.new w) (by simp) (by simp)
  have := intAbs (Ent.new w) hx' (by show w.heap.size ≠ rb; omega) h0 (Nat.lt_of_lt_of_le hb (pow_mono (m := 39) (n := 1000) (by decide))) (by intro x hx; cases hx)
  refine this.mono ?_
  rintro e w' ⟨rfl, o', hu⟩
  refine ⟨rfl, ⟨w.heap.size, o', false, xn⟩, rfl, rfl, rfl, hu.at_, (Fr.new w).trans_new hu.fr ?_, ?_⟩
  · intro x hx
    simp [Ent.foot] at hx
    right; omega
  · intro x hx
    rcases hu.new x hx with h | h
    · simp [Ent.foot] at h; omega
    · rw [size_alloc] at h; omega

/-- What stands when the numbers are made. -/
theorem gcd_start {w w1 w2 : World} {an bn : Nat} {A B : Ent} (hA : A.isAt w1) (hB : B.isAt w2) (fA : Fr [] w w1) (fB : Fr [] w1 w2) (nA : ∀ x ∈ A.foot, w.heap.size ≤ x) (nB : ∀ x ∈ B.foot, w1.heap.size ≤ x) (eA : A.n = an) (eB : B.n = bn) (gA : A.neg = false) (gB : B.neg = false) (a0 : 0 < an) (b0 : 0 < bn) (la : an < Bw ^ 39) (lb : bn < Bw ^ 39) :
    (bn ≤ an → GI w ((w2.alloc intNew).alloc intNew) an bn A B ⟨w2.heap.size, none, false, 0⟩ ⟨(w2.alloc intNew).heap.size, none, false, 0⟩) ∧ (an ≤ bn → GI w ((w2.alloc intNew).alloc intNew) an bn B A ⟨w2.heap.size, none, false, 0⟩ ⟨(w2.alloc intNew).heap.size, none, false, 0⟩) := by
  have f2 : Fr [] w2 ((w2.alloc intNew).alloc intNew) := (Fr.new w2).trans (Fr.new _)
  have hA2 := hA.fr fB (by simp)
  have lA := hA2.lt
  have lB := hB.lt
  have s1 := fA.size
  have s2 := fB.size
  have e1 := size_alloc w2 intNew
  have iA := hA2.fr f2 (by simp)
  have iB := hB.fr f2 (by simp)
  have iq := (Ent.new w2).fr (Fr.new (w2.alloc intNew)) (by simp)
  have ir := Ent.new (w2.alloc intNew)
  have lA1 := hA.lt
  have hAB : Apart A B := by
    intro x h1 h2
    have := lA1 x h1
    have := nB x h2
    omega
  have hq : ∀ e : Ent, e.isAt w2 → Apart e ⟨w2.heap.size, none, false, 0⟩ := by
    intro e he x h1 h2
    have := he.lt x h1
    simp [Ent.foot] at h2
    omega
  have hr : ∀ e : Ent, e.isAt w2 → Apart e ⟨(w2.alloc intNew).heap.size, none, false, 0⟩ := by
    intro e he x h1 h2
    have := he.lt x h1
    simp [Ent.foot] at h2
    omega
  have hqr : Apart ⟨w2.heap.size, none, false, 0⟩ ⟨(w2.alloc intNew).heap.size, none, false, 0⟩ := by
    intro x h1 h2
    simp [Ent.foot] at h1 h2
    omega
  have hF : Fr [] w ((w2.alloc intNew).alloc intNew) := (fA.trans fB).trans f2
  have hn : ∀ x, x ∈ A.foot ∨ x ∈ B.foot ∨ x ∈ (Ent.mk w2.heap.size none false 0).foot ∨ x ∈ (Ent.mk (w2.alloc intNew).heap.size none false 0).foot → x ∈ ([] : List Nat) ∨ w.heap.size ≤ x := by
    intro x hx
    right
    rcases hx with h | h | h | h
    · exact nA x h
    · have := nB x h; omega
    · simp [Ent.foot] at h; omega
    · simp [Ent.foot] at h; omega
  constructor
  · intro hle
    refine ⟨⟨⟨iA, iB, iq, ir, hAB, hq A hA2, hr A hA2, hq B hB, hr B hB, hqr⟩, hF, ?_⟩, gA, gB, by omega, by omega, by rw [eA, eB], by omega⟩
    intro x hx
    simp only [List.mem_append] at hx
    apply hn
    rcases hx with ((h | h) | h) | h
    · exact .inl h
    · exact .inr (.inl h)
    · exact .inr (.inr (.inl h))
    · exact .inr (.inr (.inr h))
  · intro hle
    refine ⟨⟨⟨iB, iA, iq, ir, hAB.symm, hq B hB, hr B hB, hq A hA2, hr A hA2, hqr⟩, hF, ?_⟩, gB, gA, by omega, by omega, by rw [eA, eB, Nat.gcd_comm], by omega⟩
    intro x hx
    simp only [List.mem_append] at hx
    apply hn
    rcases hx with ((h | h) | h) | h
    · exact .inr (.inl h)
    · exact .inl h
    · exact .inr (.inr (.inl h))
    · exact .inr (.inr (.inr h))

/-- The number that lehmerGCD comes to, ahead of the last Set. -/
structure GF (w wc : World) (g : Nat) (A : Ent) : Prop where
  a : A.isAt wc
  n : A.neg = false
  e : A.n = g
  f : Fr [] w wc
  new : ∀ x ∈ A.foot, w.heap.size ≤ x
theorem GI.done {w0 w : World} {an bn : Nat} {A B q r : Ent} (h : GI w0 w an bn A B q r) (hb : B.n = 0) : GF w0 w (Nat.gcd an bn) A := by
  refine ⟨h.s.s.ia, h.na, ?_, h.s.fr, ?_⟩
  · rw [← h.g, hb, Nat.gcd_zero_right]
  · intro x hx
    rcases h.s.new x (by simp [hx]) with h1 | h1
    · simp at h1
    · exact h1
theorem GF.drewN {w wc : World} {g : Nat} {A : Ent} (h : GF w wc g A) (k : Nat) : GF w (wc.drewN k) g A := ⟨h.a, h.n, h.e, h.f.drewN k, h.new⟩
/-- Both numbers are words: their cells, and what the store of the last word makes. -/
theorem GI.words {w0 w : World} {an bn : Nat} {A B q r : Ent} (h : GI w0 w an bn A B q r) (ha : A.n < Bw) (hb0 : 0 < B.n) :
    ∃ xa ca xb cb, w.cell? ⟨A.b, 1, none⟩ = some (.slice (some ⟨xa, 0, none⟩) 1 ca) ∧ w.cell? ⟨B.b, 1, none⟩ = some (.slice (some ⟨xb, 0, none⟩) 1 cb) ∧ w.cell? ⟨xa, 0, none⟩ = some (.int .u64 (A.n : Int)) ∧ w.cell? ⟨xb, 0, none⟩ = some (.int .u64 (B.n : Int)) ∧ w.frozen? ⟨xa, 0, none⟩ = false ∧ ca ≤ 100000 ∧ cb ≤ 100000 ∧ 1 ≤ ca ∧ 1 ≤ cb ∧
      ∀ g : Nat, g = Nat.gcd an bn → g < Bw → Hid (GF w0 (w.setCell ⟨xa, 0, none⟩ (.int .u64 (g : Int))) g ⟨A.b, some xa, false, g⟩) := by
  obtain ⟨v, a1, xs, a2, wA, nA, eA⟩ := h.s.s.ia
  obtain ⟨u, b1, ys, b2, wB, nB, eB⟩ := h.s.s.ib
  have one : ∀ (zs : List Nat) (n : Nat), Wd zs → Nz zs → vl zs = n → 0 < n → n < Bw → zs = [n] := by
    intro zs n wz nz ez h0 hlt
    have hl : zs.length ≤ 1 := length_le_of_lt_pow nz (by rw [Nat.pow_one, ez]; exact hlt)
    match zs, hl with
    | [], _ => simp at ez; omega
    | [z], _ => simp [vl] at ez; rw [ez]
  have e1 := one xs A.n wA nA eA h.a0 ha
  have e2 := one ys B.n wB nB eB hb0 (by have := h.le; omega)
  subst e1 e2
  obtain ⟨xa, XA, hoA, rfl, hXA, tXA, lXA, cXA⟩ := a2.block (by simp)
  obtain ⟨xb, XB, hoB, rfl, hXB, tXB, lXB, cXB⟩ := b2.block (by simp)
  have c1 := (hXA.row_take tXA) 0 (by simp)
  have c2 := (hXB.row_take tXB) 0 (by simp)
  simp only [List.length_singleton] at lXA lXB
  refine ⟨xa, _, xb, _, a1.cell 1 rfl, b1.cell 1 rfl, c1, c2, hXA.frozen 0, cXA, cXB, lXA, lXB, ?_⟩
  intro g hg hgw
  have hg0 : 0 < g := by rw [hg, ← h.g]; exact Nat.gcd_pos_of_pos_left _ h.a0
  have hne : xa ≠ A.b := a2.ne_cells a1 (by decide) hoA
  have hf : Fr [xa] w (w.setCell ⟨xa, 0, none⟩ (.int .u64 (g : Int))) := (Fr.refl _ _).set (.inl (by simp)) _ _
  have hs := hXA.set 0 g
  have hlen : (XA.set 0 g).length = XA.length := by simp
  have hfoot : ∀ x, x ∈ A.foot → w0.heap.size ≤ x := by
    intro x hx
    rcases h.s.new x (by simp [hx]) with h1 | h1
    · simp at h1
    · exact h1
  have hxa := hfoot xa (A.foot_o hoA)
  have a3 := a1.fr hf (by simpa using fun e => hne e.symm)
  rw [h.na] at a3
  have hI : IsN (w.setCell ⟨xa, 0, none⟩ (.int .u64 (g : Int))) (.slice (some ⟨xa, 0, none⟩) 1 XA.length) (some xa) g := by
    refine ⟨[g], ?_, Wd.one hgw, ?_, by simp [vl]⟩
    · rw [← hlen]
      refine Own.of_blk (n := 1) (ws := [g]) hs rfl ?_ (by simp; omega) (by simp; omega) (by simp; omega)
      cases XA with
      | nil => simp at lXA
      | cons a t => simp
    · intro _; simp; omega
  refine Lib.hid ⟨⟨_, a3, hI⟩, rfl, rfl, h.s.fr.trans_new hf (by intro x hx; simp at hx; right; omega), ?_⟩
  · intro x hx
    rcases Ent.mem_foot.1 hx with h1 | h1
    · rw [h1]; exact hfoot _ A.foot_b
    · simp only [Option.some.injEq] at h1; omega
end Go.Proofs.YtpmggjplfcjkkaaGreatDoor

/- Small numbers made; Cmp. -/
set_option linter.unusedVariables false
set_option linter.unusedSimpArgs false
namespace Go.Proofs.YtpmggjplfcjkkaaGreatDoor
open Go.RowKit Nq

theorem new_word (w : World) (x : Nat) (hx : x < Bw) (h0 : 0 < x) : IsN (w.alloc (.cells #[.int .u64 (x : Int)] 168)) (.slice (some ⟨w.heap.size, 0, none⟩) 1 1) (some w.heap.size) x := by
  have hB : Blk (w.alloc (.cells #[.int .u64 (x : Int)] 168)) w.heap.size [x] := Blk.new w [x]
  exact ⟨[x], Own.of_blk (n := 1) hB rfl (by simp) (by simp) (by simp) (by simp), Wd.one hx, by intro _; simp; omega, by simp [vl]⟩

set_option maxRecDepth 100000 in
theorem natOne (w : World) : Calls Tryz.prog 168 #[] w fun e w' => e = .returned (.slice (some ⟨w.heap.size, 0, none⟩) 1 1) ∧ w' = w.alloc (.cells #[.int .u64 1] 168) := by
  go_enter Tryz.func168, Tryz.ntmps168
  go_wp2
  go_ret
  exact ⟨rfl, rfl⟩
set_option maxRecDepth 100000 in
theorem natFive (w : World) : Calls Tryz.prog 69 #[] w fun e w' => e = .returned (.slice (some ⟨w.heap.size, 0, none⟩) 1 1) ∧ w' = w.alloc (.cells #[.int .u64 5] 168) := by
  go_enter Tryz.func69, Tryz.ntmps69
  go_wp2
  go_ret
  exact ⟨rfl, rfl⟩
set_option maxRecDepth 100000 in
theorem newInt0 (w : World) : Calls Tryz.prog 111 #[.int .i64 0] w fun e w' => e = .returned (.pointer (some ⟨w.heap.size, 0, none⟩)) ∧ w' = w.alloc intNew := by
  go_enter Tryz.func111, Tryz.ntmps111
  go_wp2
  go_ret
  exact ⟨rfl, rfl⟩
/-- intOne() -/
def OnePost (w : World) (e : Ending) (w' : World) : Prop := ∃ E : Ent, e = .returned (.pointer (some ⟨E.b, 0, none⟩)) ∧ E.isAt w' ∧ E.neg = false ∧ E.n = 1 ∧ Fr [] w w' ∧ ∀ x ∈ E.foot, w.heap.size ≤ x
set_option maxRecDepth 100000 in
theorem intOne (w : World) : Calls Tryz.prog 113 #[] w (OnePost w) := by
  have h1 := natOne w
  have hfin : Hid (OnePost w (.returned (.pointer (some ⟨w.heap.size + 1, 0, none⟩))) ((w.alloc (.cells #[.int .u64 1] 168)).alloc (.cells #[.bool false, .slice (some ⟨w.heap.size, 0, none⟩) 1 1] 99))) := by
    have hw := new_word w 1 (by rw [Bw_eq]; omega) (by omega)
    have hs := size_alloc w (.cells #[.int .u64 1] 168)
    have f1 : Fr [] w (w.alloc (.cells #[.int .u64 1] 168)) := (Fr.refl _ _).alloc _
    have f2 : Fr [] (w.alloc (.cells #[.int .u64 1] 168)) ((w.alloc (.cells #[.int .u64 1] 168)).alloc (.cells #[.bool false, .slice (some ⟨w.heap.size, 0, none⟩) 1 1] 99)) := (Fr.refl _ _).alloc _
    refine Lib.hid ⟨⟨w.heap.size + 1, some w.heap.size, false, 1⟩, rfl, ⟨_, ?_, hw.fr f2 (by simp)⟩, rfl, rfl, f1.trans f2, ?_⟩
    · have := Cells.new (w.alloc (.cells #[.int .u64 1] 168)) #[.bool false, .slice (some ⟨w.heap.size, 0, none⟩) 1 1] 99
      rw [hs] at this
      exact this
    · intro x hx
      simp [Ent.foot] at hx
      omega
  go_enter Tryz.func113, Tryz.ntmps113
  go_wp2_with (go_at_call 168; (with_reducible refine h1.mono ?_); rintro e w1 ⟨rfl, rfl⟩)
  go_ret
  exact hfin.out

/-- How two numbers with signs compare. -/
def icmp (xneg : Bool) (a : Nat) (yneg : Bool) (b : Nat) : Int := match xneg, yneg with
  | false, false => cmpW a b
  | true, true => -cmpW a b
  | true, false => -1
  | false, true => 1

theorem run_eql_int_other (w : World) {b c o p : Nat} {vs us : Array Value} {T U : TypeId} (hne : b ≠ c ∨ o ≠ p) (ha : Cells w b vs T) (hb : Cells w c us U) : (binOp .eql 110 (.pointer (some ⟨b, o, none⟩)) (.pointer (some ⟨c, p, none⟩))).run Tryz.prog w = .ok (.bool false) w := by
  have h := run_equalIn_int_other 9999 w (a := ⟨b, o, none⟩) (b := ⟨c, p, none⟩) (by intro e; injection e with e1 e2; rcases hne with h | h <;> contradiction) ha hb
  simp only [binOp]
  simp [Op.equal, Op.maxDepth, h]
theorem cmpW_small (a b : Nat) : -1 ≤ cmpW a b ∧ cmpW a b ≤ 1 := by
  unfold cmpW
  split
  · omega
  · split <;> omega

set_option maxRecDepth 100000 in
set_option maxHeartbeats 2000000 in
theorem intCmp {bx ox by_ oy : Nat} {xo yo : Option Nat} {xneg yneg : Bool} {a b : Nat} {w : World} (hx : IntRd w bx ox xo xneg a) (hy : IntRd w by_ oy yo yneg b) (hne : bx ≠ by_) :
    Calls Tryz.prog 43 #[.pointer (some ⟨bx, ox, none⟩), .pointer (some ⟨by_, oy, none⟩)] w fun e w' => e = .returned (.int .i64 (icmp xneg a yneg b)) ∧ ∃ k, w' = w.drewN k := by
  obtain ⟨xv, T, vs, x1, xT, x2, x3, x4⟩ := hx
  obtain ⟨yv, U, us, y1, yT, y2, y3, y4⟩ := hy
  have c1 := x1.cell ox x2
  have c2 := x1.cell (ox + 1) x3
  have d1 := y1.cell oy y2
  have d2 := y1.cell (oy + 1) y3
  have he := run_eql_int_other w (o := ox) (p := oy) (.inl hne) x1 y1
  have hcmp : ∀ k, Calls Tryz.prog 57 #[xv, yv] (w.drewN k) fun e w' => e = .returned (.int .i64 (cmpW a b)) ∧ ∃ m, w' = (w.drewN k).drewN m := fun k => cmp_N (x4.drewN k) (y4.drewN k)
  obtain ⟨xa, xl, xc, rfl⟩ := x4.slice
  obtain ⟨ya, yl, yc, rfl⟩ := y4.slice
  obtain ⟨s1, s2⟩ := cmpW_small a b
  have hic : Hid (icmp false a false b = cmpW a b ∧ icmp true a true b = -cmpW a b ∧ icmp true a false b = -1 ∧ icmp false a true b = 1) := Lib.hid ⟨rfl, rfl, rfl, rfl⟩
  generalize cmpW a b = cw at *
  have hw1 : IntKind.i64.wrap (-cw) = -cw := by rw [IntKind.wrap_i64]; omega
  clear x1 y1 x4 y4 x2 x3 y2 y3 hne
  cases xneg <;> cases yneg
  · go_enter Tryz.func43, Tryz.ntmps43
    go_wp2_with fail
    go_quiet (fail)
    go_wp2_with fail
    go_quiet ((go_at_call 57; exact quiet_add (hcmp _)))
    go_wp2
    go_ret
    exact ⟨ret1 hic.out.1.symm, _, rfl⟩
  · go_enter Tryz.func43, Tryz.ntmps43
    go_wp2_with fail
    go_quiet (fail)
    go_wp2
    go_ret
    exact ⟨ret1 hic.out.2.2.2.symm, _, rfl⟩
  · go_enter Tryz.func43, Tryz.ntmps43
    go_wp2_with fail
    go_quiet (fail)
    go_wp2
    go_ret
    exact ⟨ret1 hic.out.2.2.1.symm, _, rfl⟩
  · go_enter Tryz.func43, Tryz.ntmps43
    go_wp2_with fail
    go_quiet (fail)
    go_wp2_with fail
    go_quiet ((go_at_call 57; exact quiet_add (hcmp _)))
    go_wp2
    go_ret
    exact ⟨ret1 hic.out.2.1.symm, _, rfl⟩
end Go.Proofs.YtpmggjplfcjkkaaGreatDoor
