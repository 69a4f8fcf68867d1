/- norm of a rational that is not zero: the walk. -/
import Derived.Deep.RegionWith
import Derived.Deep.RegionHeld3
import Derived.Test.YtpmggjplfcjkkaaGreatDoorZ17
set_option linter.unusedVariables false
set_option linter.unusedSimpArgs false
namespace Go.Proofs.YtpmggjplfcjkkaaGreatDoor
open Go.RowKit Nq

theorem Ns.fr0 {w0 w w' : World} {rb : Nat} {ao0 bo0 ao bo : Option Nat} {n d : Nat} {f : Ent} {s : Nat} {K : List Nat} (h : Ns w0 w rb ao0 bo0 ao bo n d f s K) (hF : Fr [] w w') : Ns w0 w' rb ao0 bo0 ao bo n d f s K :=
  ⟨h.r.fr hF (by simp) (by simp) (by simp), h.fi.fr hF (by simp), h.fn, h.st.fr hF (by simp), h.k, h.ff, h.fr.trans (hF.mono (by simp)), h.la, h.lb, h.ak, h.bk, h.r0, h.a14, h.b14, h.r14, h.t⟩

/-- The greatest common divisor, from where norm has made its stack. -/
theorem norm_gcd {w w3 : World} {rb : Nat} {ao bo : Option Nat} {n d s : Nat} (hr : RatIs w3 rb ao bo false false n d) (hst : StkK w3 s 0 [s]) (hF : Fr [rb] w w3) (hs : w.heap.size ≤ s) (n0 : 0 < n) (d0 : 0 < d) (ln : n < Bw ^ 39) (ld : d < Bw ^ 39) (h0 : rb < w.heap.size)
    (ha : ∀ x, ao = some x → 14 ≤ x ∧ x < w.heap.size ∧ x ≠ rb) (hb : ∀ x, bo = some x → 14 ≤ x ∧ x < w.heap.size ∧ x ≠ rb) (h14 : 14 ≤ rb) (hT : Th w) :
    Calls Tryz.prog 112 #[.pointer (some ⟨w3.heap.size, 0, none⟩), .pointer none, .pointer none, .pointer (some ⟨rb, 0, none⟩), .pointer (some ⟨rb, 2, none⟩)] (w3.alloc intNew).drew fun e w' =>
      ∃ f : Ent, e = .returned (.pointer (some ⟨f.b, 0, none⟩)) ∧ f.n = Nat.gcd n d ∧ Hid (Ns w w' rb ao bo ao bo n d f s [s]) := by
  have hsz := hF.size
  have fd : Fr [] w3 (w3.alloc intNew).drew := ((Fr.refl [] w3).alloc _).drewN 1
  have hz : (Ent.mk w3.heap.size none false 0).isAt (w3.alloc intNew).drew := (Ent.new w3).drewN 1
  have hslt : s < w3.heap.size := hst.lt s (by simp)
  have hT3 : Th w3 := hT.fr hF (by simpa using h14)
  refine (lehmerGCD hz (hr.rda.fr fd (by simp) (by simp)) (hr.rdb.fr fd (by simp) (by simp)) (by show w3.heap.size ≠ rb; omega) n0 d0 ln ld (hT3.fr fd (by simp)) (by intro x hx; cases hx)).mono ?_
  rintro e w' ⟨rfl, o', hu⟩
  have hfoot : ∀ x ∈ (Ent.mk w3.heap.size o' false (Nat.gcd n d)).foot, w3.heap.size ≤ x := by
    intro x hx
    rcases hu.new x hx with h | h
    · simp [Ent.foot] at h; omega
    · have h2 : (w3.alloc intNew).drew.heap.size = w3.heap.size + 1 := size_alloc w3 intNew
      omega
  have hF' : Fr [] w3 w' := fd.trans_new hu.fr (by intro x hx; simp [Ent.foot] at hx; right; omega)
  refine ⟨⟨w3.heap.size, o', false, Nat.gcd n d⟩, rfl, rfl, Lib.hid (Ns.start (hr.fr hF' (by simp) (by simp) (by simp)) hu.at_ rfl (hst.fr hF' (by simp)) hs (fun x hx => ⟨by have := hfoot x hx; omega, by have := hfoot x hx; omega⟩) (hF.trans (hF'.mono (by simp))) h0 ha hb h14 hT)⟩

/-- The last step: the sign back, the stack freed. -/
def NsEnd (w0 w : World) (rb : Nat) (ao0 bo0 : Option Nat) (n d s : Nat) : Prop :=
  ∃ ao bo f K, Ns w0 w rb ao0 bo0 ao bo n d f s K
theorem NsEnd.cell {w0 w : World} {rb : Nat} {ao0 bo0 : Option Nat} {n d s : Nat} (h : NsEnd w0 w rb ao0 bo0 n d s) (neg : Bool) : (∃ x, w.cell? ⟨rb, 0, none⟩ = some x) ∧ w.frozen? ⟨rb, 0, none⟩ = false ∧
    Hid (∃ K, StkK (w.setCell ⟨rb, 0, none⟩ (.bool neg)) s 0 K ∧ ∀ w', Fr K (w.setCell ⟨rb, 0, none⟩ (.bool neg)) w' → NormPost w0 rb ao0 bo0 neg n d (.returned (.pointer (some ⟨rb, 0, none⟩))) w') := by
  obtain ⟨ao, bo, f, K, h⟩ := h
  obtain ⟨h1, h2, h3, h4⟩ := h.fin neg
  exact ⟨h1, h2, Lib.hid ⟨K, h3, h4⟩⟩

set_option maxRecDepth 100000 in
set_option maxHeartbeats 8000000 in
theorem norm_main {rb : Nat} {ao bo : Option Nat} {na nb : Bool} {n d : Nat} {w : World} (h : RatIs w rb ao bo na nb n d) (n0 : 0 < n) (d0 : 0 < d) (ln : n < Bw ^ 39) (ld : d < Bw ^ 39)
    (ha : ∀ x, ao = some x → 14 ≤ x) (hb : ∀ x, bo = some x → 14 ≤ x) (h14 : 14 ≤ rb) (hT : Th w) :
    Calls Tryz.prog 65 #[.pointer (some ⟨rb, 0, none⟩)] w (NormPost w rb ao bo na (n / Nat.gcd n d) (d / Nat.gcd n d)) := by
  obtain ⟨m0, m1, m2⟩ := h.lt
  obtain ⟨a, l, c, a', l', c', c0, c1, c2, c3, i1, i2, e1, e2, l1, l2⟩ := h.cells
  have hl : 0 < l := by
    rcases Nat.eq_zero_or_pos l with e | e
    · have := e1.1 e; omega
    · exact e
  have hl' : 0 < l' := by
    rcases Nat.eq_zero_or_pos l' with e | e
    · have := e2.1 e; omega
    · exact e
  have z0 := h.frozen 0
  have z2 := h.frozen 2
  obtain ⟨s, hs⟩ : ∃ s, w.heap.size = s := ⟨_, rfl⟩
  have hpack : Hid (RatIs (((w.alloc (.cells #[.pointer none] 139)).setCell ⟨rb, 0, none⟩ (.bool false)).setCell ⟨rb, 2, none⟩ (.bool false)) rb ao bo false false n d ∧ StkK (((w.alloc (.cells #[.pointer none] 139)).setCell ⟨rb, 0, none⟩ (.bool false)).setCell ⟨rb, 2, none⟩ (.bool false)) s 0 [s] ∧ Fr [rb] w (((w.alloc (.cells #[.pointer none] 139)).setCell ⟨rb, 0, none⟩ (.bool false)).setCell ⟨rb, 2, none⟩ (.bool false))) := by
    have f1 : Fr [] w (w.alloc (.cells #[.pointer none] 139)) := (Fr.refl _ _).alloc _
    have r1 := h.fr f1 (by simp) (by simp) (by simp)
    have hst : StkK (w.alloc (.cells #[.pointer none] 139)) s 0 [s] := .inl ⟨by rw [← hs]; exact alloc_at w _, rfl, rfl⟩
    obtain ⟨r2, f2⟩ := r1.signA false
    obtain ⟨r3, f3⟩ := r2.signB false
    refine Lib.hid ⟨r3, (hst.fr f2 ?_).fr f3 ?_, (f1.mono (by simp)).trans (f2.trans f3)⟩
    · intro x hx hin; simp at hx hin; omega
    · intro x hx hin; simp at hx hin; omega
  have f1 : Fr [] w (w.alloc (.cells #[.pointer none] 139)) := (Fr.refl _ _).alloc _
  have r1 := h.fr f1 (by simp) (by simp) (by simp)
  obtain ⟨p1, p2, p3, p4, p5, p6, d0', -, d2', -⟩ := r1.cells
  have z0' := r1.frozen 0
  have r2 := (r1.signA false).1
  obtain ⟨p1', p2', p3', p4', p5', p6', -, -, d22, -⟩ := r2.cells
  have z22 := r2.frozen 2
  have hgs := getStack w
  rw [hs] at hgs
  have hgcd : ∀ w3, RatIs w3 rb ao bo false false n d ∧ StkK w3 s 0 [s] ∧ Fr [rb] w w3 → _ := fun w3 hp => norm_gcd (w := w) (w3 := w3) hp.1 hp.2.1 hp.2.2 (by omega) n0 d0 ln ld (by omega) (fun x hx => ⟨ha x hx, (m1 x hx).1, (m1 x hx).2⟩) (fun x hx => ⟨hb x hx, (m2 x hx).1, (m2 x hx).2⟩) h14 hT
  have HG := Lib.hid hgcd
  have g0 : 0 < Nat.gcd n d := Nat.gcd_pos_of_pos_left _ n0
  have gn : Nat.gcd n d ≤ n := Nat.gcd_le_left _ n0
  have gd : Nat.gcd n d ≤ d := Nat.gcd_le_right _ d0
  have Hl := Lib.hid (And.intro ln (And.intro ld (And.intro g0 (And.intro gn gd))))
  have hd1 : ((l : Int) == 0) = false := by rw [beq_eq_false_iff_ne]; omega
  have hd2 : ((l' : Int) == 0) = false := by rw [beq_eq_false_iff_ne]; omega
  clear r1 r2 f1 h i1 i2 e1 e2 m0 m1 m2 ha hb h14 hT ln ld n0 d0 hgcd g0 gn gd hs
  go_enter_defers Tryz.func65, Tryz.ntmps65
  go_wp2_with (go_at_call 40; (with_reducible refine hgs.mono ?_); rintro e w1 ⟨rfl, rfl⟩; clear hgs)
  generalize (World.setCell (World.setCell _ _ _) _ _) = w3 at *
  have hni : Calls Tryz.prog 111 #[.int .i64 0] w3.drew fun e w' => e = .returned (.pointer (some ⟨w3.heap.size, 0, none⟩)) ∧ w' = w3.drew.alloc intNew := newInt0 w3.drew
  have hg := HG.out w3 hpack.out
  clear HG hpack c0 c1 c2 c3 z0 z2 d0' d2' z0' d22 z22 hd1 hd2 hl hl' l1 l2
  refine wp_region_noPanic ?_
  go_region_with (first | (go_at_call 111; (with_reducible refine hni.mono ?_); rintro e w4 ⟨rfl, rfl⟩) | (go_at_call 112; (with_reducible refine hg.mono ?_); rintro e w5 ⟨f, rfl, hfn, HN⟩; have Hfn := Lib.hid hfn; clear hfn))
  all_goals refine NoPanic.normal ?_
  clear hni hg
  have hone := intOne w5
  have hfb : Hid (0 < f.n ∧ f.n ≤ n ∧ f.n ≤ d ∧ n < Bw ^ 39 ∧ d < Bw ^ 39) := by
    have h := Hl.out
    refine Lib.hid ⟨by rw [Hfn.out]; exact h.2.2.1, by rw [Hfn.out]; exact h.2.2.2.1, by rw [Hfn.out]; exact h.2.2.2.2, h.1, h.2.1⟩
  have hcm : ∀ w6 (E : Ent), E.isAt w6 → E.neg = false → E.n = 1 → Fr [] w5 w6 → (∀ x ∈ E.foot, w5.heap.size ≤ x) → Calls Tryz.prog 43 #[.pointer (some ⟨f.b, 0, none⟩), .pointer (some ⟨E.b, 0, none⟩)] w6 (fun e w' => e = .returned (.int .i64 (cmpW f.n 1)) ∧ ∃ k, w' = w6.drewN k) ∧ Hid (Ns w w6 rb ao bo ao bo n d f s [s]) := by
    intro w6 E e1 e2 e3 e4 e5
    have h6 := HN.out.fr0 e4
    have r1 := h6.fi.rd
    have r2 := e1.rd
    rw [h6.fn] at r1
    rw [e2, e3] at r2
    refine ⟨intCmp r1 r2 (fun e => ?_), Lib.hid h6⟩
    have := e5 _ E.foot_b
    have := HN.out.fi.lt _ f.foot_b
    omega
  clear Hl
  have hfn := Hfn.out
  clear hfn
  by_cases hg1 : f.n = 1
  · as_aux_lemma =>
    have e0 : cmpW f.n 1 = 0 := by rw [hg1]; exact cmpW_eq 1
    have HD1 : Hid (n / Nat.gcd n d = n ∧ d / Nat.gcd n d = d) := Lib.hid ⟨by rw [← Hfn.out, hg1, Nat.div_one], by rw [← Hfn.out, hg1, Nat.div_one]⟩
    rw [e0] at hcm
    clear e0 hg1 hfb
    go_wp2_with (first | (go_at_call 113; (with_reducible refine hone.mono ?_); rintro e w6 ⟨E, rfl, e1, e2, e3, e4, e5⟩; obtain ⟨hk, HN6⟩ := hcm w6 E e1 e2 e3 e4 e5; obtain ⟨⟨x0, q1⟩, q2, HE⟩ := NsEnd.cell ⟨_, _, _, _, HN6.out⟩ na; clear hcm hone e1 e2 e3 e4 e5) | (go_at_call 43; (with_reducible refine hk.mono ?_); rintro e w7 ⟨rfl, k, rfl⟩; clear hk))
    obtain ⟨K, hst, hend⟩ := HE.out
    refine leaves_cons (f := 41) (args := #[.pointer (some ⟨s, 0, none⟩)]) (by simp) (by simp [go_sem]) ?_
    refine (stkFree_d .returning (hst.fr ((Fr.refl [] _).drewN k) (by simp))).mono ?_
    rintro e u' w8 ⟨rfl, rfl, k2⟩
    exact ⟨.pointer (some ⟨rb, 0, none⟩), by simp [results, Tryz.results65, go_sem], by rw [HD1.out.1, HD1.out.2]; exact hend w8 (((Fr.refl _ _).drewN k).trans k2)⟩
  · have e0 : cmpW f.n 1 = 1 := cmpW_gt (by have := hfb.out.1; omega)
    rw [e0] at hcm
    clear e0 hg1
    go_wp2_with (first | (go_at_call 113; (with_reducible refine hone.mono ?_); rintro e w6 ⟨E, rfl, e1, e2, e3, e4, e5⟩; obtain ⟨hk, HN6⟩ := hcm w6 E e1 e2 e3 e4 e5; clear hcm hone e1 e2 e3 e4 e5) | (go_at_call 43; (with_reducible refine hk.mono ?_); rintro e w7 ⟨rfl, k, rfl⟩; clear hk))
    have hA := HN6.out.divA hfb.out.1 hfb.out.2.1 hfb.out.2.2.2.1
    obtain ⟨xa, xl, xc, ya, yl, yc, q1, q2, kA⟩ := hA
    clear HN
    go_upto_region 12 with (fail)
    go_cut [] from 63 to 85 (fun wc => Hid (∃ ao' K', Ns w wc rb ao bo ao' bo (n / f.n) d f s K'))
    case first =>
      refine wp_region_noPanic ?_
      go_region_with (go_at_call 114; (with_reducible refine (kA _).mono ?_); rintro e w8 ⟨qv, rv, p, q, r, rfl, rfl, ⟨x0, q3⟩, q4, HP⟩)
      all_goals refine NoPanic.normal ?_
      all_goals (go_wp2_with fail; go_meet; exact HP)
    case rest =>
      obtain ⟨ao', K', hN7⟩ := hcut.out
      clear q1 q2 kA HN6
      obtain ⟨xa, xl, xc, ya, yl, yc, q1, q2, kB⟩ := hN7.divB hfb.out.1 hfb.out.2.2.1 hfb.out.2.2.2.2
      clear hN7 hcut
      have kB1 := kB 1
      change Calls _ _ _ wc.drew _ at kB1
      go_upto_region 13 with (fail)
      go_cut [] from 86 to 108 (fun wc2 => Hid (∃ ao' bo' K', Ns w wc2 rb ao bo ao' bo' (n / f.n) (d / f.n) f s K'))
      case first =>
        refine wp_region_noPanic ?_
        go_region_with (go_at_call 114; (with_reducible refine kB1.mono ?_); rintro e w8 ⟨qv, rv, p, q, r, rfl, rfl, ⟨x0, q3⟩, q4, HP⟩)
        all_goals refine NoPanic.normal ?_
        all_goals (go_wp2_with fail; go_meet; obtain ⟨bo', K2, h8⟩ := HP.out; exact Lib.hid ⟨ao', bo', K2, h8⟩)
      case rest =>
        obtain ⟨ao2, bo2, K2, h8⟩ := hcut.out
        obtain ⟨⟨x0, q3⟩, q4, HE⟩ := NsEnd.cell ⟨ao2, bo2, f, K2, h8⟩ na
        have HD1 : Hid (n / Nat.gcd n d = n / f.n ∧ d / Nat.gcd n d = d / f.n) := Lib.hid ⟨by rw [← Hfn.out], by rw [← Hfn.out]⟩
        clear hcut h8 kB kB1 q1 q2 hfb Hfn
        go_wp2_with fail
        obtain ⟨K, hst, hend⟩ := HE.out
        refine leaves_cons (f := 41) (args := #[.pointer (some ⟨s, 0, none⟩)]) (by simp) (by simp [go_sem]) ?_
        refine (stkFree_d .returning hst).mono ?_
        rintro e u' w8 ⟨rfl, rfl, k2⟩
        exact ⟨.pointer (some ⟨rb, 0, none⟩), by simp [results, Tryz.results65, go_sem], by rw [HD1.out.1, HD1.out.2]; exact hend w8 k2⟩
end Go.Proofs.YtpmggjplfcjkkaaGreatDoor
