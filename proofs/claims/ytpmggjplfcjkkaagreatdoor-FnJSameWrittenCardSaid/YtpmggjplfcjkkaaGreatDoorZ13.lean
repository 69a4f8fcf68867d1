/- QuoRem: the walk. -/
import Derived.BigRegion
import Derived.Test.YtpmggjplfcjkkaaGreatDoorZ12
set_option linter.unusedVariables false
set_option linter.unusedSimpArgs false
namespace Go.Proofs.YtpmggjplfcjkkaaGreatDoor
open Go.RowKit Nq

set_option maxRecDepth 100000 in
set_option maxHeartbeats 4000000 in
theorem quoRem {q x y r : Ent} {w : World} (h : S4 w q x y r) (hxn : x.neg = false) (hyn : y.neg = false) (hb0 : 0 < y.n) (hba : y.n ≤ x.n) (ha : x.n < Bw ^ 200) (hb : y.n < Bw ^ 39) (hT : Th w) (hs : ∀ t ∈ q.foot ++ r.foot, 14 ≤ t) :
    Calls Tryz.prog 201 #[.pointer (some ⟨q.b, 0, none⟩), .pointer (some ⟨x.b, 0, none⟩), .pointer (some ⟨y.b, 0, none⟩), .pointer (some ⟨r.b, 0, none⟩)] w fun e w' =>
      e = .returned (.tuple #[.pointer (some ⟨q.b, 0, none⟩), .pointer (some ⟨r.b, 0, none⟩)]) ∧ ∃ qo ro, QR w q x y r ⟨q.b, qo, false, x.n / y.n⟩ ⟨r.b, ro, false, x.n % y.n⟩ w' := by
  obtain ⟨qv, q1, q2⟩ := h.ia
  obtain ⟨xv, x1, x2⟩ := h.ib
  obtain ⟨yv, y1, y2⟩ := h.ic
  obtain ⟨rv, r1, r2⟩ := h.id
  have c1 := q1.cell 1 rfl
  have c2 := x1.cell 1 rfl
  have c3 := y1.cell 1 rfl
  have c4 := r1.cell 1 rfl
  obtain ⟨qs, q3⟩ := q2.own
  obtain ⟨rs, r3⟩ := r2.own
  have hdiv : Calls Tryz.prog 114 #[qv, .pointer none, rv, xv, yv] w.drew (DivQ w q.o r.o [] x.n y.n) := by
    refine (div_nil (q3.drewN 1) (r3.drewN 1) (x2.drewN 1) (y2.drewN 1) hb0 hba ha hb (hT.drewN 1) ?_ (fun t ht => hs t (List.mem_append_left _ (q.foot_o ht))) (fun t ht => hs t (List.mem_append_right _ (r.foot_o ht)))).mono ?_
    · intro t ht
      exact ⟨fun h' => h.ad t (q.foot_o h') (r.foot_o ht), fun h' => h.bd t (x.foot_o h') (r.foot_o ht), fun h' => h.cd t (y.foot_o h') (r.foot_o ht)⟩
    · rintro e w' ⟨a1, a2, a3, a4, rfl, b1, b2, b3, b4, b5, b6⟩
      exact ⟨a1, a2, a3, a4, rfl, b1, b2, ((Fr.refl _ w).drewN 1).trans b3, b4.drewN, b5.drewN, b6⟩
  have nx : ∀ t ∈ x.foot, t ∉ q.o.toList ++ r.o.toList ++ [] := by
    intro t ht h'
    simp only [List.append_nil, List.mem_append, Option.mem_toList] at h'
    rcases h' with h' | h'
    · exact h.ab t (q.foot_o h') ht
    · exact h.bd t ht (r.foot_o h')
  have ny : ∀ t ∈ y.foot, t ∉ q.o.toList ++ r.o.toList ++ [] := by
    intro t ht h'
    simp only [List.append_nil, List.mem_append, Option.mem_toList] at h'
    rcases h' with h' | h'
    · exact h.ac t (q.foot_o h') ht
    · exact h.cd t ht (r.foot_o h')
  have hfin : ∀ e w1, DivQ w q.o r.o [] x.n y.n e w1 → ∃ qv rv qa ql qc ra rl rc, qv = .slice qa ql qc ∧ rv = .slice ra rl rc ∧ e = .returned (.tuple #[qv, rv]) ∧ 0 < ql ∧ ql ≤ 100000 ∧ rl ≤ 100000 ∧ w1.cell? ⟨x.b, 1, none⟩ = some xv ∧ w1.cell? ⟨y.b, 1, none⟩ = some yv ∧
      (∃ v, w1.cell? ⟨q.b, 1, none⟩ = some v) ∧ w1.frozen? ⟨q.b, 1, none⟩ = false ∧ (∃ v, (w1.setCell ⟨q.b, 1, none⟩ qv).cell? ⟨r.b, 1, none⟩ = some v) ∧ (w1.setCell ⟨q.b, 1, none⟩ qv).frozen? ⟨r.b, 1, none⟩ = false ∧
      Hid (∃ w3, w3 = (w1.setCell ⟨q.b, 1, none⟩ qv).setCell ⟨r.b, 1, none⟩ rv ∧ w3.cell? ⟨q.b, 1, none⟩ = some qv ∧ w3.cell? ⟨r.b, 1, none⟩ = some rv ∧ w3.cell? ⟨x.b, 0, none⟩ = some (.bool false) ∧ w3.cell? ⟨y.b, 0, none⟩ = some (.bool false) ∧
        (∃ v, w3.cell? ⟨q.b, 0, none⟩ = some v) ∧ w3.frozen? ⟨q.b, 0, none⟩ = false ∧ (∃ v, (w3.setCell ⟨q.b, 0, none⟩ (.bool false)).cell? ⟨r.b, 0, none⟩ = some v) ∧ (w3.setCell ⟨q.b, 0, none⟩ (.bool false)).frozen? ⟨r.b, 0, none⟩ = false ∧
        Hid (∃ qo ro, QR w q x y r ⟨q.b, qo, false, x.n / y.n⟩ ⟨r.b, ro, false, x.n % y.n⟩ ((w3.setCell ⟨q.b, 0, none⟩ (.bool false)).setCell ⟨r.b, 0, none⟩ (.bool false)))) := by
    rintro e w1 ⟨qv, qo, rv, ro, rfl, b1, b2, b3, b4, b5, b6⟩
    obtain ⟨d1, d2, d3, d4, w3, d5, d6, d7, d8, d9, d10, d11, d12, d13, d14⟩ := qr_stores h b1 b2 b3 b4 b5 b6
    obtain ⟨qa, ql, qc, e1, e2, e3, e4⟩ := b1.len
    obtain ⟨ra, rl, rc, f1, f2, f3, f4⟩ := b2.len
    have hq0 : 0 < x.n / y.n := Nat.div_pos hba hb0
    rw [hxn] at d8
    rw [hyn] at d9
    refine ⟨qv, rv, qa, ql, qc, ra, rl, rc, e1, f1, rfl, ?_, e4, f4, (x1.fr b3 (nx x.b x.foot_b)).cell 1 rfl, (y1.fr b3 (ny y.b y.foot_b)).cell 1 rfl, d1, d2, d3, d4, Lib.hid ⟨w3, d5, d6, d7, d8, d9, d10, d11, d12, d13, Lib.hid ⟨qo, ro, d14⟩⟩⟩
    rcases Nat.eq_zero_or_pos ql with h | h
    · have := e2.1 h; omega
    · exact h
  obtain ⟨xa, xl, xc, rfl⟩ := x2.slice
  obtain ⟨ya, yl, yc, rfl⟩ := y2.slice
  obtain ⟨qa, ql, qc, rfl⟩ := q2.slice
  obtain ⟨ra, rl, rc, rfl⟩ := r2.slice
  have n1 : ¬ q.b = r.b := fun e => h.ad _ q.foot_b (e ▸ r.foot_b)
  have n2 : ¬ r.b = q.b := fun e => n1 e.symm
  have n3 : ¬ q.b = x.b := fun e => h.ab _ q.foot_b (e ▸ x.foot_b)
  have n4 : ¬ q.b = y.b := fun e => h.ac _ q.foot_b (e ▸ y.foot_b)
  have n5 : ¬ r.b = x.b := fun e => h.bd _ x.foot_b (e ▸ r.foot_b)
  have n6 : ¬ r.b = y.b := fun e => h.cd _ y.foot_b (e ▸ r.foot_b)
  clear nx ny
  clear q1 q2 q3 x1 x2 y1 y2 r1 r2 r3 hT hs hb ha hba hb0 hxn hyn h
  generalize q.b = qb at *
  generalize r.b = rb at *
  generalize x.b = xb at *
  generalize y.b = yb at *
  go_enter Tryz.func201, Tryz.ntmps201
  go_upto_region 1 with (fail)
  go_cut [10] (fun _ wc => ∃ qv rv qa ql qc ra rl rc, qv = .slice qa ql qc ∧ rv = .slice ra rl rc ∧ 0 < ql ∧ ql ≤ 100000 ∧ rl ≤ 100000 ∧ wc.cell? ⟨qb, 1, none⟩ = some qv ∧ wc.cell? ⟨rb, 1, none⟩ = some rv ∧ wc.cell? ⟨xb, 0, none⟩ = some (.bool false) ∧ wc.cell? ⟨yb, 0, none⟩ = some (.bool false) ∧
        (∃ v, wc.cell? ⟨qb, 0, none⟩ = some v) ∧ wc.frozen? ⟨qb, 0, none⟩ = false ∧ (∃ v, (wc.setCell ⟨qb, 0, none⟩ (.bool false)).cell? ⟨rb, 0, none⟩ = some v) ∧ (wc.setCell ⟨qb, 0, none⟩ (.bool false)).frozen? ⟨rb, 0, none⟩ = false ∧
        Hid (∃ qo ro, QR w q x y r ⟨qb, qo, false, x.n / y.n⟩ ⟨rb, ro, false, x.n % y.n⟩ ((wc.setCell ⟨qb, 0, none⟩ (.bool false)).setCell ⟨rb, 0, none⟩ (.bool false))))
  case first =>
    go_region_with ((go_at_call 114; (with_reducible refine hdiv.mono ?_); rintro e w1 hp; obtain ⟨qv, rv, qa2, ql2, qc2, ra2, rl2, rc2, rfl, rfl, rfl, g1, g2, g3, j1, j2, ⟨x5, g4⟩, g5, ⟨x6, g6⟩, g7, HP⟩ := hfin e w1 hp; clear hp))
    all_goals (as_aux_lemma => (go_wp2_with fail; go_meet; obtain ⟨w3, rfl, i1, i2, i3, i4, i5, i6, i7, i8, i9⟩ := HP.out; exact ⟨_, _, _, _, _, _, _, _, rfl, rfl, g1, g2, g3, i1, i2, i3, i4, i5, i6, i7, i8, i9⟩))
  case rest =>
    obtain ⟨qv, rv, qa2, ql2, qc2, ra2, rl2, rc2, rfl, rfl, g1, g2, g3, i1, i2, i3, i4, ⟨x5, i5⟩, i6, ⟨x6, i7⟩, i8, HP⟩ := hcut
    go_upto_region 2 with (fail)
    go_cut [] (fun wc2 => Hid (∃ qo ro, QR w q x y r ⟨qb, qo, false, x.n / y.n⟩ ⟨rb, ro, false, x.n % y.n⟩ wc2))
    case first =>
      by_cases hl0 : rl2 = 0
      · subst hl0
        go_region
        all_goals (as_aux_lemma => (go_wp2_with fail; go_meet; obtain ⟨qo, ro, hqr⟩ := HP.out; exact Lib.hid ⟨qo, ro, hqr.drewN 1⟩))
      · have hl1 : 0 < rl2 := by omega
        go_region
        all_goals (as_aux_lemma => (go_wp2_with fail; go_meet; obtain ⟨qo, ro, hqr⟩ := HP.out; exact Lib.hid ⟨qo, ro, hqr.drewN 1⟩))
    case rest =>
      go_wp2
      go_ret2
      exact ⟨rfl, hcut.out⟩
end Go.Proofs.YtpmggjplfcjkkaaGreatDoor
