/- Add of two numbers of unlike signs. -/
import Derived.Test.YtpmggjplfcjkkaaGreatDoorZ12
set_option linter.unusedVariables false
set_option linter.unusedSimpArgs false
namespace Go.Proofs.YtpmggjplfcjkkaaGreatDoor
open Go.RowKit Nq

set_option maxRecDepth 100000 in
set_option maxHeartbeats 4000000 in
theorem intAdd {z y : Ent} {w : World} (hz : z.isAt w) (hy : y.isAt w) (hzy : Apart z y) (hn : y.neg = !z.neg) (hle : if z.neg then z.n ≤ y.n else y.n ≤ z.n) (hbz : z.n < Bw ^ 1000) (hby : y.n < Bw ^ 1000) :
    Calls Tryz.prog 150 #[.pointer (some ⟨z.b, 0, none⟩), .pointer (some ⟨z.b, 0, none⟩), .pointer (some ⟨y.b, 0, none⟩)] w fun e w' => e = .returned (.pointer (some ⟨z.b, 0, none⟩)) ∧ ∃ o', Upd w z ⟨z.b, o', false, if z.neg then y.n - z.n else z.n - y.n⟩ w' := by
  have hz' := hz
  obtain ⟨zv, z1, z2⟩ := hz
  obtain ⟨yv, y1, y2⟩ := hy
  have c0 := z1.cell 0 rfl
  have c1 := z1.cell 1 rfl
  have d0 := y1.cell 0 rfl
  have d1 := y1.cell 1 rfl
  have hcmp : ∀ k, Calls Tryz.prog 57 #[zv, yv] (w.drewN k) fun e w' => e = .returned (.int .i64 (cmpW z.n y.n)) ∧ ∃ m, w' = (w.drewN k).drewN m := fun k => cmp_N (z2.drewN k) (y2.drewN k)
  have hfin : ∀ val e w1, NatPost w z.o val e w1 → ∃ v a l c, v = .slice a l c ∧ (l = 0 ↔ val = 0) ∧ l ≤ 100000 ∧ e = .returned v ∧ (∃ x, w1.cell? ⟨z.b, 1, none⟩ = some x) ∧ w1.frozen? ⟨z.b, 1, none⟩ = false ∧ (w1.setCell ⟨z.b, 1, none⟩ v).cell? ⟨z.b, 1, none⟩ = some v ∧ (∃ x, (w1.setCell ⟨z.b, 1, none⟩ v).cell? ⟨z.b, 0, none⟩ = some x) ∧ (w1.setCell ⟨z.b, 1, none⟩ v).frozen? ⟨z.b, 0, none⟩ = false ∧
      Hid (∃ o', Upd w z ⟨z.b, o', false, val⟩ ((w1.setCell ⟨z.b, 1, none⟩ v).setCell ⟨z.b, 0, none⟩ (.bool false))) := by
    intro val e w1 hp
    obtain ⟨v, o, rfl, k1, k2, k3⟩ := hp.isN
    obtain ⟨m1, m2, m3, m4, m5, m6⟩ := Upd.mk2 hz' k1 k2 k3 false
    obtain ⟨a, l, c, hv, hl, _, hl2⟩ := k1.len
    obtain ⟨e1, ⟨v', n1, _⟩, _, _⟩ := m6
    have hab : z.b ∉ z.o.toList := by intro h; simp at h; exact z2.ne_cells z1 (by decide) h rfl
    exact ⟨v, a, l, c, hv, hl, hl2, rfl, m1, m2, ((z1.fr k2 hab).set 1 v).cell 1 rfl, m3, m4, Lib.hid ⟨o, m5⟩⟩
  obtain ⟨za, zl, zc, rfl⟩ := z2.slice
  obtain ⟨ya, yl, yc, rfl⟩ := y2.slice
  obtain ⟨ws, z3⟩ := z2.own
  cases hneg : z.neg with
  | false =>
    rw [hneg] at hle hn c0
    rw [hn] at d0
    simp only [Bool.false_eq_true, if_false, Bool.not_false] at hle d0 ⊢
    have hsub : ∀ k, Calls Tryz.prog 174 #[.slice za zl zc, .slice za zl zc, .slice ya yl yc] (w.drewN k) (NatPost w z.o (z.n - y.n)) := by
      intro k
      exact (sub_N (z3.drewN k) (z2.drewN k) (y2.drewN k) hbz hle).mono fun _ _ h => h.of_drewN
    obtain ⟨cw, hcw, hcw2⟩ : ∃ c : Int, c = cmpW z.n y.n ∧ 0 ≤ c := ⟨_, rfl, by rcases cmpW_ge hle with h | h <;> rw [h] <;> decide⟩
    rw [← hcw] at hcmp
    have hfin := hfin (z.n - y.n)
    generalize z.n - y.n = val at *
    generalize z.b = zb at *
    generalize y.b = yb at *
    clear hz' z1 z2 y1 y2 z3 hbz hby hle hzy hn hneg hcw
    go_enter Tryz.func150, Tryz.ntmps150
    go_wp2_with fail
    go_quiet (fail)
    go_wp2_with fail
    go_quiet ((go_at_call 57; exact quiet_add (hcmp _)))
    go_wp2_with fail
    go_region_with (go_at_call 174; (with_reducible refine (hsub _).mono ?_); rintro e w1 hp; obtain ⟨v, va, vl, vc, rfl, hl, hl2, rfl, ⟨x5, k1⟩, k2, k3, ⟨x6, k4⟩, k5, HP⟩ := hfin e w1 hp)
    all_goals
      by_cases hl0 : vl = 0
      · subst hl0
        go_wp2
        go_ret
        exact ⟨rfl, HP.out⟩
      · go_wp2
        go_ret
        exact ⟨rfl, HP.out⟩
  | true =>
    rw [hneg] at hle hn c0
    rw [hn] at d0
    simp only [if_true, Bool.not_true] at hle d0 ⊢
    obtain ⟨cw, hcw⟩ : ∃ c : Int, c = cmpW z.n y.n := ⟨_, rfl⟩
    rw [← hcw] at hcmp
    have hfin := hfin (y.n - z.n)
    by_cases he : z.n = y.n
    · have hsub : ∀ k, Calls Tryz.prog 174 #[.slice za zl zc, .slice za zl zc, .slice ya yl yc] (w.drewN k) (NatPost w z.o (y.n - z.n)) := by
        intro k
        have := (sub_N (z3.drewN k) (z2.drewN k) (y2.drewN k) hbz (by omega)).mono fun _ _ h => h.of_drewN
        rwa [show z.n - y.n = y.n - z.n by omega] at this
      have hcw2 : cw = 0 := by rw [hcw, he]; exact cmpW_eq _
      have hv0 : y.n - z.n = 0 := by omega
      subst hcw2
      rw [hv0] at hsub hfin ⊢
      generalize z.b = zb at *
      generalize y.b = yb at *
      clear hz' z1 z2 y1 y2 z3 hbz hby hle hzy hn hneg hcw he hv0
      go_enter Tryz.func150, Tryz.ntmps150
      go_wp2_with fail
      go_quiet (fail)
      go_wp2_with fail
      go_quiet ((go_at_call 57; exact quiet_add (hcmp _)))
      go_wp2_with fail
      go_region_with (go_at_call 174; (with_reducible refine (hsub _).mono ?_); rintro e w1 hp; obtain ⟨v, va, vl, vc, rfl, hl, hl2, rfl, ⟨x5, k1⟩, k2, k3, ⟨x6, k4⟩, k5, HP⟩ := hfin e w1 hp; have hl0 : vl = 0 := (by simpa using hl); subst hl0)
      all_goals go_wp2
      all_goals go_ret
      all_goals exact ⟨rfl, HP.out⟩
    · have hsub : ∀ k, Calls Tryz.prog 174 #[.slice za zl zc, .slice ya yl yc, .slice za zl zc] (w.drewN k) (NatPost w z.o (y.n - z.n)) := by
        intro k
        exact (sub_N (z3.drewN k) (y2.drewN k) (z2.drewN k) hby hle).mono fun _ _ h => h.of_drewN
      have hcw2 : cw = -1 := by rw [hcw]; exact cmpW_lt (by omega)
      subst hcw2
      generalize y.n - z.n = val at *
      generalize z.b = zb at *
      generalize y.b = yb at *
      clear hz' z1 z2 y1 y2 z3 hbz hby hle hzy hn hneg hcw he
      go_enter Tryz.func150, Tryz.ntmps150
      go_wp2_with fail
      go_quiet (fail)
      go_wp2_with fail
      go_quiet ((go_at_call 57; exact quiet_add (hcmp _)))
      go_wp2_with fail
      go_region_with (go_at_call 174; (with_reducible refine (hsub _).mono ?_); rintro e w1 hp; obtain ⟨v, va, vl, vc, rfl, hl, hl2, rfl, ⟨x5, k1⟩, k2, k3, ⟨x6, k4⟩, k5, HP⟩ := hfin e w1 hp)
      all_goals
        by_cases hl0 : vl = 0
        · subst hl0
          go_wp2
          go_ret
          exact ⟨rfl, HP.out⟩
        · go_wp2
          go_ret
          exact ⟨rfl, HP.out⟩
end Go.Proofs.YtpmggjplfcjkkaaGreatDoor
