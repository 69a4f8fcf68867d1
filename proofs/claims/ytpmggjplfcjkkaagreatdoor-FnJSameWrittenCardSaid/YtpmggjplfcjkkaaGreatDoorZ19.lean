/- scaleDenom. -/
import Derived.Deep.RegionWith
import Derived.Test.YtpmggjplfcjkkaaGreatDoorZ15
import Derived.Test.YtpmggjplfcjkkaaGreatDoorZ17
import Derived.Deep.RegionHeld3
set_option linter.unusedVariables false
set_option linter.unusedSimpArgs false
namespace Go.Proofs.YtpmggjplfcjkkaaGreatDoor
open Go.RowKit Nq

set_option maxRecDepth 100000 in
set_option maxHeartbeats 1000000 in
theorem scaleDenom {z : Ent} {bx ox : Nat} {xo fo : Option Nat} {xneg : Bool} {xn fn : Nat} {fv : Value} {w : World} (s : Addr) (hz : z.isAt w) (hx : IntRd w bx ox xo xneg xn) (hf : IsN w fv fo fn) (hne : z.b ≠ bx) (hzo : ∀ x, z.o = some x → x ≠ bx) (f0 : 0 < fn) (lx : xn < Bw ^ 39) (lf : fn < Bw ^ 39) (hT : Th w) :
    Calls Tryz.prog 42 #[.pointer (some ⟨z.b, 0, none⟩), .pointer (some s), .pointer (some ⟨bx, ox, none⟩), fv] w fun e w' => e = .returned (.tuple #[]) ∧ ∃ o', Upd w z ⟨z.b, o', xneg, xn * fn⟩ w' := by
  have hz' := hz
  obtain ⟨zv, z1, zs, z2, wZ⟩ := hz
  obtain ⟨xv, T, vs, x1, xT, x2, x3, x4⟩ := hx
  have c1 := z1.cell 1 rfl
  have c3 := x1.cell (ox + 1) x3
  have hcall : Calls Tryz.prog 56 #[zv, .pointer (some s), xv, fv] w.drew (NatPost w z.o (xn * fn)) :=
    (mul_N (.pointer (some s)) (z2.drewN 1) (x4.drewN 1) (hf.drewN 1) lx lf (hT.drewN 1)).mono fun _ _ h => NatPost.of_drewN (k := 1) h
  have hfin : ∀ e w1, NatPost w z.o (xn * fn) e w1 → ∃ v a l c, v = .slice a l c ∧ e = .returned v ∧ (∃ x, w1.cell? ⟨z.b, 1, none⟩ = some x) ∧ w1.frozen? ⟨z.b, 1, none⟩ = false ∧ (w1.setCell ⟨z.b, 1, none⟩ v).cell? ⟨bx, ox, none⟩ = some (.bool xneg) ∧ (∃ x, (w1.setCell ⟨z.b, 1, none⟩ v).cell? ⟨z.b, 0, none⟩ = some x) ∧ (w1.setCell ⟨z.b, 1, none⟩ v).frozen? ⟨z.b, 0, none⟩ = false ∧
      Hid (∃ o', Upd w z ⟨z.b, o', xneg, xn * fn⟩ ((w1.setCell ⟨z.b, 1, none⟩ v).setCell ⟨z.b, 0, none⟩ (.bool xneg))) := by
    intro e w1 hp
    obtain ⟨v, o, rfl, k1, k2, k3⟩ := hp.isN
    obtain ⟨m1, m2, m3, m4, m5, _⟩ := Upd.mk2 hz' k1 k2 k3 xneg
    obtain ⟨a, l, c, hv⟩ := k1.slice
    refine ⟨v, a, l, c, hv, rfl, m1, m2, ?_, m3, m4, Lib.hid ⟨o, m5⟩⟩
    rw [cell_set_ne (by intro e; injection e with e _; exact hne e)]
    exact (x1.fr k2 (by intro h; simp at h; exact hzo _ h rfl)).cell ox x2
  obtain ⟨fa, fl, fc, rfl, g1, g2, g3⟩ := hf.len
  have hfl : ((fl : Int) == 0) = false := by
    rw [beq_eq_false_iff_ne]
    intro e
    have := g1.1 (by omega)
    omega
  obtain ⟨za, zl, zc, rfl⟩ : ∃ a l c, zv = .slice a l c := by obtain ⟨a, c, h⟩ := z2.slice; exact ⟨a, _, c, h⟩
  obtain ⟨xa, xl, xc, rfl⟩ := x4.slice
  generalize z.b = zb at *
  generalize xn * fn = val at *
  clear hz' z1 z2 x1 x2 x3 x4 lx lf hzo wZ hf hT g1 g2
  go_enter Tryz.func42, Tryz.ntmps42
  go_wp2_with fail
  go_region_with (go_at_call 56; (with_reducible refine hcall.mono ?_); rintro e w1 hp; obtain ⟨v, va, vl, vc, rfl, rfl, ⟨x5, k1⟩, k2, k3, ⟨x6, k4⟩, k5, HP⟩ := hfin e w1 hp)
  all_goals go_wp2
  all_goals exact ⟨rfl, .tuple #[], results_none rfl _ _ _, rfl, HP.out⟩
end Go.Proofs.YtpmggjplfcjkkaaGreatDoor

/- Rat.Quo: what lies in memory. -/
set_option linter.unusedVariables false
set_option linter.unusedSimpArgs false
namespace Go.Proofs.YtpmggjplfcjkkaaGreatDoor
open Go.RowKit Nq

/-- What Quo and Cmp hold: two numbers of their own and a stack. -/
structure Qs (w0 w : World) (s : Nat) (A B : Ent) : Prop where
  ia : A.isAt w
  ib : B.isAt w
  ap : Apart A B
  st : StkK w s 0 [s]
  fr : Fr [] w0 w
  ga : ∀ x ∈ A.foot, w0.heap.size ≤ x ∧ x ≠ s
  gb : ∀ x ∈ B.foot, w0.heap.size ≤ x ∧ x ≠ s
  gs : w0.heap.size ≤ s
theorem Qs.swap {w0 w : World} {s : Nat} {A B : Ent} (h : Qs w0 w s A B) : Qs w0 w s B A := ⟨h.ib, h.ia, h.ap.symm, h.st, h.fr, h.gb, h.ga, h.gs⟩

theorem Qs.scale {w0 w : World} {s : Nat} {A B : Ent} (h : Qs w0 w s A B) {bx ox : Nat} {xo fo : Option Nat} {xneg : Bool} {xn fn : Nat} {fv : Value} (hx : IntRd w0 bx ox xo xneg xn) (hf : IsN w0 fv fo fn) (f0 : 0 < fn) (lx : xn < Bw ^ 39) (lf : fn < Bw ^ 39) (hT : Th w0) :
    Calls Tryz.prog 42 #[.pointer (some ⟨A.b, 0, none⟩), .pointer (some ⟨s, 0, none⟩), .pointer (some ⟨bx, ox, none⟩), fv] w.drew fun e w' => e = .returned (.tuple #[]) ∧ Hid (∃ o', Qs w0 w' s ⟨A.b, o', xneg, xn * fn⟩ B) := by
  have hb := hx.lt
  have f1 : Fr [] w0 w.drew := h.fr.drew
  refine (scaleDenom ⟨s, 0, none⟩ (h.ia.drewN 1) (hx.fr f1 (by simp) (by simp)) (hf.fr f1 (by simp)) ?_ ?_ f0 lx lf (hT.fr f1 (by simp))).mono ?_
  · have := (h.ga _ A.foot_b).1; omega
  · intro x hx; have := (h.ga _ (A.foot_o hx)).1; omega
  rintro e w' ⟨rfl, o', hu⟩
  have hu' : Upd w A ⟨A.b, o', xneg, xn * fn⟩ w' := ⟨hu.b, hu.at_, ((Fr.refl _ w).drewN 1).trans hu.fr, hu.new⟩
  have hsA : s ∉ A.foot := fun hin => (h.ga _ hin).2 rfl
  have hsz := h.fr.size
  refine ⟨rfl, Lib.hid ⟨o', hu.at_, hu'.keep h.ib h.ap, hu'.apart h.ib h.ap, h.st.fr hu'.fr (by simpa using hsA), h.fr.trans_new hu'.fr (fun x hx => .inr (h.ga x hx).1), ?_, h.gb, h.gs⟩⟩
  intro x hx
  rcases hu'.new x hx with h1 | h1
  · exact h.ga x h1
  · have hs : s < w.heap.size := h.st.lt s (by simp)
    exact ⟨by omega, by omega⟩

/-- What Quo stores. -/
theorem Qs.store {w0 w : World} {s : Nat} {A B : Ent} (h : Qs w0 w s A B) {zb : Nat} {va v1 v2 : Value} {nb : Bool} (hz : Cells w0 zb #[va, v1, .bool nb, v2] 101) :
    ∃ a1 l1 c1 a2 l2 c2, w.cell? ⟨A.b, 1, none⟩ = some (.slice a1 l1 c1) ∧ (∃ x, w.cell? ⟨zb, 1, none⟩ = some x) ∧ w.frozen? ⟨zb, 1, none⟩ = false ∧
      (w.setCell ⟨zb, 1, none⟩ (.slice a1 l1 c1)).cell? ⟨B.b, 1, none⟩ = some (.slice a2 l2 c2) ∧ (∃ x, (w.setCell ⟨zb, 1, none⟩ (.slice a1 l1 c1)).cell? ⟨zb, 3, none⟩ = some x) ∧ (w.setCell ⟨zb, 1, none⟩ (.slice a1 l1 c1)).frozen? ⟨zb, 3, none⟩ = false ∧
      ((w.setCell ⟨zb, 1, none⟩ (.slice a1 l1 c1)).setCell ⟨zb, 3, none⟩ (.slice a2 l2 c2)).cell? ⟨A.b, 0, none⟩ = some (.bool A.neg) ∧ ((w.setCell ⟨zb, 1, none⟩ (.slice a1 l1 c1)).setCell ⟨zb, 3, none⟩ (.slice a2 l2 c2)).cell? ⟨B.b, 0, none⟩ = some (.bool B.neg) ∧
      (∃ x, ((w.setCell ⟨zb, 1, none⟩ (.slice a1 l1 c1)).setCell ⟨zb, 3, none⟩ (.slice a2 l2 c2)).cell? ⟨zb, 0, none⟩ = some x) ∧ ((w.setCell ⟨zb, 1, none⟩ (.slice a1 l1 c1)).setCell ⟨zb, 3, none⟩ (.slice a2 l2 c2)).frozen? ⟨zb, 0, none⟩ = false ∧
      Hid (∀ sg, RatIs (((w.setCell ⟨zb, 1, none⟩ (.slice a1 l1 c1)).setCell ⟨zb, 3, none⟩ (.slice a2 l2 c2)).setCell ⟨zb, 0, none⟩ (.bool sg)) zb A.o B.o sg nb A.n B.n ∧ StkK (((w.setCell ⟨zb, 1, none⟩ (.slice a1 l1 c1)).setCell ⟨zb, 3, none⟩ (.slice a2 l2 c2)).setCell ⟨zb, 0, none⟩ (.bool sg)) s 0 [s] ∧ Fr [zb] w0 (((w.setCell ⟨zb, 1, none⟩ (.slice a1 l1 c1)).setCell ⟨zb, 3, none⟩ (.slice a2 l2 c2)).setCell ⟨zb, 0, none⟩ (.bool sg))) := by
  have hz1 := hz.fr h.fr (by simp)
  have hlt := hz.lt
  obtain ⟨av, k1, k2⟩ := h.ia
  obtain ⟨bv, k3, k4⟩ := h.ib
  obtain ⟨a1, l1, c1, rfl, -⟩ := k2.len
  obtain ⟨a2, l2, c2, rfl, -⟩ := k4.len
  have na : A.b ≠ zb := by have := (h.ga _ A.foot_b).1; omega
  have nb' : B.b ≠ zb := by have := (h.gb _ B.foot_b).1; omega
  have ns : s ≠ zb := by have := h.gs; omega
  have f1 : Fr [zb] w (w.setCell ⟨zb, 1, none⟩ (.slice a1 l1 c1)) := (Fr.refl _ _).set (.inl (by simp)) _ _
  have f2 : Fr [zb] w ((w.setCell ⟨zb, 1, none⟩ (.slice a1 l1 c1)).setCell ⟨zb, 3, none⟩ (.slice a2 l2 c2)) := f1.set (.inl (by simp)) _ _
  have z2 := hz1.set 1 (.slice a1 l1 c1)
  have z3 := z2.set 3 (.slice a2 l2 c2)
  have hoA : ∀ x, A.o = some x → x ≠ zb := fun x hx => by have := (h.ga _ (A.foot_o hx)).1; omega
  have hoB : ∀ x, B.o = some x → x ≠ zb := fun x hx => by have := (h.gb _ (B.foot_o hx)).1; omega
  refine ⟨a1, l1, c1, a2, l2, c2, k1.cell 1 rfl, ⟨_, hz1.cell 1 rfl⟩, hz1.frozen 1, (k3.fr f1 (by simpa using nb')).cell 1 rfl, ⟨_, z2.cell 3 rfl⟩, z2.frozen 3, (k1.fr f2 (by simpa using na)).cell 0 rfl, (k3.fr f2 (by simpa using nb')).cell 0 rfl, ⟨_, z3.cell 0 rfl⟩, z3.frozen 0, Lib.hid fun sg => ?_⟩
  have f3 : Fr [zb] w (((w.setCell ⟨zb, 1, none⟩ (.slice a1 l1 c1)).setCell ⟨zb, 3, none⟩ (.slice a2 l2 c2)).setCell ⟨zb, 0, none⟩ (.bool sg)) := f2.set (.inl (by simp)) _ _
  refine ⟨⟨_, _, z3.set 0 (.bool sg), k2.fr f3 (by simpa using hoA), k4.fr f3 (by simpa using hoB), ?_⟩, h.st.fr f3 (by simpa using ns), (h.fr.mono (by simp)).trans f3⟩
  intro x hx hb
  exact h.ap x (A.foot_o hx) (B.foot_o hb)

theorem Qs.startQ (w0 : World) : Hid (Qs w0 (((w0.alloc (.cells #[.pointer none] 139)).alloc intNew).alloc intNew) w0.heap.size ⟨w0.heap.size + 1, none, false, 0⟩ ⟨w0.heap.size + 2, none, false, 0⟩) := by
  have s1 : (w0.alloc (.cells #[.pointer none] 139)).heap.size = w0.heap.size + 1 := size_alloc _ _
  have s2 : ((w0.alloc (.cells #[.pointer none] 139)).alloc intNew).heap.size = w0.heap.size + 2 := by rw [size_alloc, s1]
  have e1 := Ent.new (w0.alloc (.cells #[.pointer none] 139))
  have e2 := Ent.new ((w0.alloc (.cells #[.pointer none] 139)).alloc intNew)
  rw [s1] at e1
  rw [s2] at e2
  have fa : Fr [] w0 (w0.alloc (.cells #[.pointer none] 139)) := (Fr.refl _ _).alloc _
  have fb := Fr.new (w0.alloc (.cells #[.pointer none] 139))
  have fc := Fr.new ((w0.alloc (.cells #[.pointer none] 139)).alloc intNew)
  have hst : StkK (w0.alloc (.cells #[.pointer none] 139)) w0.heap.size 0 [w0.heap.size] := .inl ⟨alloc_at w0 _, rfl, rfl⟩
  refine Lib.hid ⟨e1.fr fc (by simp), e2, ?_, (hst.fr fb (by simp)).fr fc (by simp), (fa.trans fb).trans fc, ?_, ?_, Nat.le_refl _⟩
  · intro x hx hy; simp [Ent.foot] at hx hy; omega
  · intro x hx; simp [Ent.foot] at hx; omega
  · intro x hx; simp [Ent.foot] at hx; omega
theorem Qs.startC (w0 : World) : Hid (Qs w0 (((w0.alloc intNew).alloc intNew).alloc (.cells #[.pointer none] 139)) (w0.heap.size + 2) ⟨w0.heap.size, none, false, 0⟩ ⟨w0.heap.size + 1, none, false, 0⟩) := by
  have s1 : (w0.alloc intNew).heap.size = w0.heap.size + 1 := size_alloc _ _
  have s2 : ((w0.alloc intNew).alloc intNew).heap.size = w0.heap.size + 2 := by rw [size_alloc, s1]
  have e1 := Ent.new w0
  have e2 := Ent.new (w0.alloc intNew)
  rw [s1] at e2
  have fa := Fr.new w0
  have fb := Fr.new (w0.alloc intNew)
  have fc : Fr [] ((w0.alloc intNew).alloc intNew) (((w0.alloc intNew).alloc intNew).alloc (.cells #[.pointer none] 139)) := (Fr.refl _ _).alloc _
  have hst : StkK (((w0.alloc intNew).alloc intNew).alloc (.cells #[.pointer none] 139)) (w0.heap.size + 2) 0 [w0.heap.size + 2] := .inl ⟨by rw [← s2]; exact alloc_at _ _, rfl, rfl⟩
  refine Lib.hid ⟨(e1.fr fb (by simp)).fr fc (by simp), e2.fr fc (by simp), ?_, hst, (fa.trans fb).trans fc, ?_, ?_, by omega⟩
  · intro x hx hy; simp [Ent.foot] at hx hy; omega
  · intro x hx; simp [Ent.foot] at hx; omega
  · intro x hx; simp [Ent.foot] at hx; omega

/-- What Quo hands back. -/
def QuoPost (w : World) (zb N D : Nat) (e : Ending) (w' : World) : Prop :=
  e = .returned (.pointer (some ⟨zb, 0, none⟩)) ∧ ∃ ao bo na nb, RatIs w' zb ao bo na nb (N / Nat.gcd N D) (D / Nat.gcd N D) ∧ Fr [zb] w w'

/-- From norm's answer to Quo's. -/
theorem Qs.fin {w0 w3 : World} {s zb : Nat} {A B : Ent} {w : World} (h : Qs w0 w s A B) (hF : Fr [zb] w0 w3) (hlt : zb < w0.heap.size) (hst : StkK w3 s 0 [s]) {neg : Bool} {e : Ending} {w4 : World} (hn : NormPost w3 zb A.o B.o neg (A.n / Nat.gcd A.n B.n) (B.n / Nat.gcd A.n B.n) e w4) :
    StkK w4 s 0 [s] ∧ Hid (∀ w5, Fr [s] w4 w5 → QuoPost w0 zb A.n B.n e w5) := by
  obtain ⟨rfl, ao, bo, nb, h1, h2, h3, h4⟩ := hn
  have hs := h.gs
  have hssz : s < w3.heap.size := hst.lt s (by simp)
  have hsn : s ∉ zb :: (A.o.toList ++ B.o.toList) := by
    intro hin
    simp at hin
    rcases hin with h' | h' | h'
    · omega
    · exact (h.ga _ (A.foot_o h')).2 rfl
    · exact (h.gb _ (B.foot_o h')).2 rfl
  refine ⟨hst.fr h2 (by simpa using hsn), Lib.hid fun w5 h5 => ⟨rfl, ao, bo, neg, nb, h1.fr h5 (by simp; omega) ?_ ?_, ?_⟩⟩
  · intro x hx hin
    simp at hin; subst hin
    rcases h3 with e | ⟨y, e, hy⟩
    · rw [e] at hx; exact (h.ga _ (A.foot_o hx)).2 rfl
    · rw [e] at hx; injection hx with hx; omega
  · intro x hx hin
    simp at hin; subst hin
    rcases h4 with e | ⟨y, e, hy⟩
    · rw [e] at hx; exact (h.gb _ (B.foot_o hx)).2 rfl
    · rw [e] at hx; injection hx with hx; omega
  · refine (hF.trans_new h2 ?_).trans_new h5 (fun x hx => .inr (by simp at hx; omega))
    intro x hx
    simp at hx
    rcases hx with h' | h' | h'
    · left; simp [h']
    · right; exact (h.ga _ (A.foot_o h')).1
    · right; exact (h.gb _ (B.foot_o h')).1
end Go.Proofs.YtpmggjplfcjkkaaGreatDoor

/- Rat.Quo: the walk. -/
set_option linter.unusedVariables false
set_option linter.unusedSimpArgs false
namespace Go.Proofs.YtpmggjplfcjkkaaGreatDoor
open Go.RowKit Nq

/-- What norm is known to do. -/
def NormOk (zb N D : Nat) : Prop := ∀ w3 ao bo sg nb, RatIs w3 zb ao bo sg nb N D → Th w3 → (∀ x, ao = some x → 14 ≤ x) → (∀ x, bo = some x → 14 ≤ x) →
  ∃ neg, Calls Tryz.prog 65 #[.pointer (some ⟨zb, 0, none⟩)] w3 (NormPost w3 zb ao bo neg (N / Nat.gcd N D) (D / Nat.gcd N D))

set_option maxRecDepth 100000 in
set_option maxHeartbeats 8000000 in
theorem quo_walk {zb xb yb : Nat} {va v1 v2 : Value} {nb : Bool} {xao xbo yao ybo : Option Nat} {xna xnb yna ynb : Bool} {xn xd yn yd : Nat} {w : World} (hz : Cells w zb #[va, v1, .bool nb, v2] 101) (hx : RatIs w xb xao xbo xna xnb xn xd) (hy : RatIs w yb yao ybo yna ynb yn yd)
    (xd0 : 0 < xd) (yd0 : 0 < yd) (yn0 : 0 < yn) (lxn : xn < Bw ^ 39) (lxd : xd < Bw ^ 39) (lyn : yn < Bw ^ 39) (lyd : yd < Bw ^ 39) (h14 : 14 ≤ zb) (hT : Th w) (hN : NormOk zb (xn * yd) (yn * xd)) :
    Calls Tryz.prog 137 #[.pointer (some ⟨zb, 0, none⟩), .pointer (some ⟨xb, 0, none⟩), .pointer (some ⟨yb, 0, none⟩)] w (QuoPost w zb (xn * yd) (yn * xd)) := by
  obtain ⟨xa, xl, xc, xa', xl', xc', x0, x1, x2, x3, xi1, xi2, xe1, xe2, xl1, xl2⟩ := hx.cells
  obtain ⟨ya, yl, yc, ya', yl', yc', y0, y1, y2, y3, yi1, yi2, ye1, ye2, yl1, yl2⟩ := hy.cells
  have hl : 0 < yl := by
    rcases Nat.eq_zero_or_pos yl with e | e
    · have := ye1.1 e; omega
    · exact e
  have hd : ((yl : Int) == 0) = false := by rw [beq_eq_false_iff_ne]; omega
  have hxlt := hx.lt.1
  have hylt := hy.lt.1
  have hgs := getStack w
  have hQ : Hid (Qs w (((w.alloc (.cells #[.pointer none] 139)).alloc intNew).alloc intNew) w.heap.size ⟨w.heap.size + 1, none, false, 0⟩ ⟨w.heap.size + 1 + 1, none, false, 0⟩) := Qs.startQ w
  have y1' : (w.alloc (.cells #[.pointer none] 139)).cell? ⟨yb, 1, none⟩ = some (.slice ya yl yc) := (cell_fr ((Fr.refl [] w).alloc _) hylt (by simp)).trans y1
  have H1 : Hid (∀ w3, Qs w w3 w.heap.size ⟨w.heap.size + 1, none, false, 0⟩ ⟨w.heap.size + 1 + 1, none, false, 0⟩ → w3.cell? ⟨yb, 3, none⟩ = some (.slice ya' yl' yc') ∧ w3.cell? ⟨xb, 3, none⟩ = some (.slice xa' xl' xc') ∧ Calls Tryz.prog 42 #[.pointer (some ⟨w.heap.size + 1, 0, none⟩), .pointer (some ⟨w.heap.size, 0, none⟩), .pointer (some ⟨xb, 0, none⟩), .slice ya' yl' yc'] w3.drew fun e w' => e = .returned (.tuple #[]) ∧ Hid (∃ o', Qs w w' w.heap.size ⟨w.heap.size + 1, o', xna, xn * yd⟩ ⟨w.heap.size + 1 + 1, none, false, 0⟩)) :=
    Lib.hid fun w3 h => ⟨(cell_fr h.fr hylt (by simp)).trans y3, (cell_fr h.fr hxlt (by simp)).trans x3, h.scale hx.rda yi2 yd0 lxn lyd hT⟩
  have H2 : Hid (∀ w4 o', Qs w w4 w.heap.size ⟨w.heap.size + 1, o', xna, xn * yd⟩ ⟨w.heap.size + 1 + 1, none, false, 0⟩ → w4.cell? ⟨xb, 3, none⟩ = some (.slice xa' xl' xc') ∧ Calls Tryz.prog 42 #[.pointer (some ⟨w.heap.size + 1 + 1, 0, none⟩), .pointer (some ⟨w.heap.size, 0, none⟩), .pointer (some ⟨yb, 0, none⟩), .slice xa' xl' xc'] w4.drew fun e w' => e = .returned (.tuple #[]) ∧ Hid (∃ o2, Qs w w' w.heap.size ⟨w.heap.size + 1 + 1, o2, yna, yn * xd⟩ ⟨w.heap.size + 1, o', xna, xn * yd⟩)) :=
    Lib.hid fun w4 o' h => ⟨(cell_fr h.fr hxlt (by simp)).trans x3, h.swap.scale hy.rda xi2 xd0 lyn lxd hT⟩
  have H3 : Hid (∀ w5 o1 o2, Qs w w5 w.heap.size ⟨w.heap.size + 1 + 1, o2, yna, yn * xd⟩ ⟨w.heap.size + 1, o1, xna, xn * yd⟩ → _) := Lib.hid fun w5 o1 o2 h => h.swap.store hz
  have H4 : Hid (∀ w5 w3 o1 o2 sg, Qs w w5 w.heap.size ⟨w.heap.size + 1 + 1, o2, yna, yn * xd⟩ ⟨w.heap.size + 1, o1, xna, xn * yd⟩ → RatIs w3 zb o1 o2 sg nb (xn * yd) (yn * xd) → StkK w3 w.heap.size 0 [w.heap.size] → Fr [zb] w w3 → Calls Tryz.prog 65 #[.pointer (some ⟨zb, 0, none⟩)] w3 fun e w' => e = .returned (.pointer (some ⟨zb, 0, none⟩)) ∧ StkK w' w.heap.size 0 [w.heap.size] ∧ Hid (∀ w5, Fr [w.heap.size] w' w5 → QuoPost w zb (xn * yd) (yn * xd) e w5)) := by
    refine Lib.hid ?_
    intro w5 w3 o1 o2 sg hq hr hst hF
    obtain ⟨neg, hc⟩ := hN w3 o1 o2 sg nb hr (hT.fr hF (by simpa using h14)) (fun x hx => by have := (hq.gb x (by simp [Ent.foot, hx])).1; have := hT.size; omega) (fun x hx => by have := (hq.ga x (by simp [Ent.foot, hx])).1; have := hT.size; omega)
    refine hc.mono ?_
    intro e w' hp
    have := hq.swap.fin hF hz.lt hst hp
    exact ⟨hp.1, this⟩
  obtain ⟨s, hs⟩ : ∃ s, w.heap.size = s := ⟨_, rfl⟩
  rw [hs] at hgs hQ H1 H2 H3 H4
  generalize xn * yd = N at *
  generalize yn * xd = D at *
  clear hz hx hy xd0 yd0 yn0 lxn lxd lyn lyd h14 hT hN xi1 xi2 xe1 xe2 xl1 xl2 yi1 yi2 ye1 ye2 yl1 yl2 hxlt hylt x0 x1 x2 x3 y0 y2 y3 
  go_enter_defers Tryz.func137, Tryz.ntmps137
  go_wp2_with (go_at_call 40; (with_reducible refine hgs.mono ?_); rintro e w1 ⟨rfl, rfl⟩; clear hgs)
  generalize World.alloc (World.alloc _ _) _ = w3 at *
  obtain ⟨d1, d2, k1⟩ := H1.out w3 hQ.out
  clear H1 y1' y1 hQ
  refine wp_region_noPanic ?_
  go_region_with (go_at_call 42; (with_reducible refine k1.mono ?_); rintro e w4 ⟨rfl, HQ⟩)
  all_goals refine NoPanic.normal ?_
  all_goals clear k1 d1 d2
  obtain ⟨o1, hq⟩ := HQ.out
  obtain ⟨d2, k1⟩ := H2.out w4 o1 hq
  clear H2 HQ hq
  go_wp2_with fail
  refine wp_region_noPanic ?_
  go_region_with (go_at_call 42; (with_reducible refine k1.mono ?_); rintro e w5 ⟨rfl, HQ⟩)
  all_goals refine NoPanic.normal ?_
  all_goals clear k1 d2
  obtain ⟨o2, hq⟩ := HQ.out
  obtain ⟨a1, l1, c1, a2, l2, c2, q1, ⟨p1, q2⟩, q3, q4, ⟨p2, q5⟩, q6, q7, q8, ⟨p3, q9⟩, q10, HR⟩ := H3.out w5 o1 o2 hq
  have H5 := Lib.hid (fun w3 sg => H4.out w5 w3 o1 o2 sg hq)
  clear H3 H4 HQ hq
  generalize hsg : (xna != yna) = sg at *
  go_wp2_with (go_at_call 65; (with_reducible refine (H5.out _ _ (HR.out _).1 (HR.out _).2.1 (HR.out _).2.2).mono ?_); rintro e w6 ⟨rfl, hst, HP⟩)
  refine leaves_cons (f := 41) (args := #[.pointer (some ⟨s, 0, none⟩)]) (by simp) (by simp [go_sem]) ?_
  refine (stkFree_d .returning hst).mono ?_
  rintro e u' w8 ⟨rfl, rfl, k2⟩
  exact ⟨.pointer (some ⟨zb, 0, none⟩), by simp [results, Tryz.results137, go_sem], HP.out w8 k2⟩
end Go.Proofs.YtpmggjplfcjkkaaGreatDoor
