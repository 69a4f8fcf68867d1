/- Rationals in memory; the trimming (norm): what lies in memory. -/
import Derived.Test.YtpmggjplfcjkkaaGreatDoorZ15
import Derived.Test.YtpmggjplfcjkkaaGreatDoorZ16
set_option linter.unusedVariables false
set_option linter.unusedSimpArgs false
namespace Go.Proofs.YtpmggjplfcjkkaaGreatDoor
open Go.RowKit Nq

/-- Block rb is the rational n / d with the sign. -/
def RatIs (w : World) (rb : Nat) (ao bo : Option Nat) (na nb : Bool) (n d : Nat) : Prop :=
  ∃ av bv, Cells w rb #[.bool na, av, .bool nb, bv] 101 ∧ IsN w av ao n ∧ IsN w bv bo d ∧ ∀ x, ao = some x → bo ≠ some x
theorem RatIs.lt {w : World} {rb : Nat} {ao bo : Option Nat} {na nb : Bool} {n d : Nat} (h : RatIs w rb ao bo na nb n d) : rb < w.heap.size ∧ (∀ x, ao = some x → x < w.heap.size ∧ x ≠ rb) ∧ ∀ x, bo = some x → x < w.heap.size ∧ x ≠ rb := by
  obtain ⟨av, bv, h1, h2, h3, _⟩ := h
  exact ⟨h1.lt, fun x hx => ⟨h2.lt hx, h2.ne_cells h1 (by decide) hx⟩, fun x hx => ⟨h3.lt hx, h3.ne_cells h1 (by decide) hx⟩⟩
theorem RatIs.fr {S : List Nat} {w w' : World} {rb : Nat} {ao bo : Option Nat} {na nb : Bool} {n d : Nat} (h : RatIs w rb ao bo na nb n d) (hf : Fr S w w') (h0 : rb ∉ S) (h1 : ∀ x, ao = some x → x ∉ S) (h2 : ∀ x, bo = some x → x ∉ S) : RatIs w' rb ao bo na nb n d := by
  obtain ⟨av, bv, k1, k2, k3, k4⟩ := h
  exact ⟨av, bv, k1.fr hf h0, k2.fr hf h1, k3.fr hf h2, k4⟩
theorem RatIs.drewN {w : World} {rb : Nat} {ao bo : Option Nat} {na nb : Bool} {n d : Nat} (h : RatIs w rb ao bo na nb n d) (k : Nat) : RatIs (w.drewN k) rb ao bo na nb n d := h
theorem RatIs.rda {w : World} {rb : Nat} {ao bo : Option Nat} {na nb : Bool} {n d : Nat} (h : RatIs w rb ao bo na nb n d) : IntRd w rb 0 ao na n := by
  obtain ⟨av, bv, k1, k2, k3, k4⟩ := h
  exact ⟨av, _, _, k1, by decide, rfl, rfl, k2⟩
theorem RatIs.rdb {w : World} {rb : Nat} {ao bo : Option Nat} {na nb : Bool} {n d : Nat} (h : RatIs w rb ao bo na nb n d) : IntRd w rb 2 bo nb d := by
  obtain ⟨av, bv, k1, k2, k3, k4⟩ := h
  exact ⟨bv, _, _, k1, by decide, rfl, rfl, k3⟩
theorem RatIs.cells {w : World} {rb : Nat} {ao bo : Option Nat} {na nb : Bool} {n d : Nat} (h : RatIs w rb ao bo na nb n d) : ∃ a l c a' l' c', w.cell? ⟨rb, 0, none⟩ = some (.bool na) ∧ w.cell? ⟨rb, 1, none⟩ = some (.slice a l c) ∧ w.cell? ⟨rb, 2, none⟩ = some (.bool nb) ∧ w.cell? ⟨rb, 3, none⟩ = some (.slice a' l' c') ∧ IsN w (.slice a l c) ao n ∧ IsN w (.slice a' l' c') bo d ∧ (l = 0 ↔ n = 0) ∧ (l' = 0 ↔ d = 0) ∧ l ≤ 100000 ∧ l' ≤ 100000 := by
  obtain ⟨av, bv, k1, k2, k3, k4⟩ := h
  obtain ⟨a, l, c, rfl, e1, e2, e3⟩ := k2.len
  obtain ⟨a', l', c', rfl, f1, f2, f3⟩ := k3.len
  exact ⟨a, l, c, a', l', c', k1.cell 0 rfl, k1.cell 1 rfl, k1.cell 2 rfl, k1.cell 3 rfl, k2, k3, e1, f1, e3, f3⟩
theorem RatIs.frozen {w : World} {rb : Nat} {ao bo : Option Nat} {na nb : Bool} {n d : Nat} (h : RatIs w rb ao bo na nb n d) (j : Nat) : w.frozen? ⟨rb, j, none⟩ = false := by
  obtain ⟨av, bv, k1, _⟩ := h
  exact k1.frozen j
theorem RatIs.signA {w : World} {rb : Nat} {ao bo : Option Nat} {na nb : Bool} {n d : Nat} (h : RatIs w rb ao bo na nb n d) (s : Bool) : RatIs (w.setCell ⟨rb, 0, none⟩ (.bool s)) rb ao bo s nb n d ∧ Fr [rb] w (w.setCell ⟨rb, 0, none⟩ (.bool s)) := by
  obtain ⟨_, l1, l2⟩ := h.lt
  obtain ⟨av, bv, k1, k2, k3, k4⟩ := h
  have f : Fr [rb] w (w.setCell ⟨rb, 0, none⟩ (.bool s)) := (Fr.refl _ _).set (.inl (by simp)) _ _
  exact ⟨⟨av, bv, k1.set 0 (.bool s), k2.fr f (fun x hx => by simpa using (l1 x hx).2), k3.fr f (fun x hx => by simpa using (l2 x hx).2), k4⟩, f⟩
theorem RatIs.signB {w : World} {rb : Nat} {ao bo : Option Nat} {na nb : Bool} {n d : Nat} (h : RatIs w rb ao bo na nb n d) (s : Bool) : RatIs (w.setCell ⟨rb, 2, none⟩ (.bool s)) rb ao bo na s n d ∧ Fr [rb] w (w.setCell ⟨rb, 2, none⟩ (.bool s)) := by
  obtain ⟨_, l1, l2⟩ := h.lt
  obtain ⟨av, bv, k1, k2, k3, k4⟩ := h
  have f : Fr [rb] w (w.setCell ⟨rb, 2, none⟩ (.bool s)) := (Fr.refl _ _).set (.inl (by simp)) _ _
  exact ⟨⟨av, bv, k1.set 2 (.bool s), k2.fr f (fun x hx => by simpa using (l1 x hx).2), k3.fr f (fun x hx => by simpa using (l2 x hx).2), k4⟩, f⟩
/-- The numerator is written anew. -/
theorem RatIs.putA {w w1 : World} {rb : Nat} {ao bo o : Option Nat} {na nb : Bool} {n d n2 : Nat} {S : List Nat} (h : RatIs w rb ao bo na nb n d) (hF : Fr S w w1) (h0 : rb ∉ S) (h2 : ∀ x, bo = some x → x ∉ S) {v : Value} (hv : IsN w1 v o n2) (hl : Later w ao o) :
    (∃ x, w1.cell? ⟨rb, 1, none⟩ = some x) ∧ w1.frozen? ⟨rb, 1, none⟩ = false ∧ RatIs (w1.setCell ⟨rb, 1, none⟩ v) rb o bo na nb n2 d := by
  obtain ⟨_, l1, l2⟩ := h.lt
  obtain ⟨av, bv, k1, k2, k3, k4⟩ := h
  have m1 := k1.fr hF h0
  have f : Fr [rb] w1 (w1.setCell ⟨rb, 1, none⟩ v) := (Fr.refl _ _).set (.inl (by simp)) _ _
  refine ⟨⟨_, m1.cell 1 rfl⟩, m1.frozen 1, v, bv, m1.set 1 v, hv.fr f (fun x hx => by simpa using hv.ne_cells m1 (by decide) hx), (k3.fr hF h2).fr f (fun x hx => by simpa using (l2 x hx).2), ?_⟩
  intro x hx hb
  rcases hl with e | ⟨y, e, hy⟩
  · rw [e] at hx; exact k4 x hx hb
  · rw [e] at hx; injection hx with hx; have := (l2 x hb).1; omega
/-- The denominator is. -/
theorem RatIs.putB {w w1 : World} {rb : Nat} {ao bo o : Option Nat} {na nb : Bool} {n d d2 : Nat} {S : List Nat} (h : RatIs w rb ao bo na nb n d) (hF : Fr S w w1) (h0 : rb ∉ S) (h2 : ∀ x, ao = some x → x ∉ S) {v : Value} (hv : IsN w1 v o d2) (hl : Later w bo o) :
    (∃ x, w1.cell? ⟨rb, 3, none⟩ = some x) ∧ w1.frozen? ⟨rb, 3, none⟩ = false ∧ RatIs (w1.setCell ⟨rb, 3, none⟩ v) rb ao o na nb n d2 := by
  obtain ⟨_, l1, l2⟩ := h.lt
  obtain ⟨av, bv, k1, k2, k3, k4⟩ := h
  have m1 := k1.fr hF h0
  have f : Fr [rb] w1 (w1.setCell ⟨rb, 3, none⟩ v) := (Fr.refl _ _).set (.inl (by simp)) _ _
  refine ⟨⟨_, m1.cell 3 rfl⟩, m1.frozen 3, av, v, m1.set 3 v, (k2.fr hF h2).fr f (fun x hx => by simpa using (l1 x hx).2), hv.fr f (fun x hx => by simpa using hv.ne_cells m1 (by decide) hx), ?_⟩
  intro x hx hb
  rcases hl with e | ⟨y, e, hy⟩
  · rw [e] at hb; exact k4 x hx hb
  · rw [e] at hb; injection hb with hb; have := (l1 x hx).1; omega

/-- What norm hands back. -/
def NormPost (w : World) (rb : Nat) (ao bo : Option Nat) (neg : Bool) (n d : Nat) (e : Ending) (w' : World) : Prop :=
  e = .returned (.pointer (some ⟨rb, 0, none⟩)) ∧ ∃ ao' bo' nb, RatIs w' rb ao' bo' neg nb n d ∧ Fr (rb :: (ao.toList ++ bo.toList)) w w' ∧ Later w ao ao' ∧ Later w bo bo'

set_option maxRecDepth 100000 in
set_option maxHeartbeats 1000000 in
/-- norm of zero. -/
theorem norm_zero {rb : Nat} {ao bo : Option Nat} {na nb : Bool} {d : Nat} {w : World} (h : RatIs w rb ao bo na nb 0 d) :
    Calls Tryz.prog 65 #[.pointer (some ⟨rb, 0, none⟩)] w (NormPost w rb ao bo false 0 1) := by
  obtain ⟨a, l, c, a', l', c', c0, c1, c2, c3, i1, i2, e1, e2, l1, l2⟩ := h.cells
  have hl : l = 0 := e1.2 rfl
  obtain ⟨hs, hF⟩ := h.signA false
  have hz := h.frozen 0
  obtain ⟨_, m1, m2⟩ := h.lt
  obtain ⟨b, l3, c5, b', l6, c6, d0, d1, d2, d3, j1, j2, f1, f2, g1, g2⟩ := hs.cells
  obtain ⟨zs, jz⟩ := j2.own
  have hcall : Calls Tryz.prog 70 #[.slice b' l6 c6, .int .u64 1] (w.setCell ⟨rb, 0, none⟩ (.bool false)) (NatPost (w.setCell ⟨rb, 0, none⟩ (.bool false)) bo 1) := setWord (x := 1) jz (by rw [Bw_eq]; omega)
  have hfin : ∀ e w1, NatPost (w.setCell ⟨rb, 0, none⟩ (.bool false)) bo 1 e w1 → ∃ v p q r, v = .slice p q r ∧ e = .returned v ∧ (∃ x, w1.cell? ⟨rb, 3, none⟩ = some x) ∧ w1.frozen? ⟨rb, 3, none⟩ = false ∧ Hid (NormPost w rb ao bo false 0 1 (.returned (.pointer (some ⟨rb, 0, none⟩))) (w1.setCell ⟨rb, 3, none⟩ v)) := by
    intro e w1 hp
    obtain ⟨v, o, rfl, k1, k2, k3⟩ := hp.isN
    obtain ⟨p, q, r, hv⟩ := k1.slice
    have hrb : rb ∉ bo.toList := by intro hin; simp at hin; exact (m2 _ hin).2 rfl
    obtain ⟨n1, n2, n3⟩ := hs.putB k2 hrb (by
      intro x hx hin
      simp at hin
      obtain ⟨_, _, _, _, _, k4⟩ := h
      exact k4 x hx hin) k1 k3
    refine ⟨v, p, q, r, hv, rfl, n1, n2, Lib.hid ⟨rfl, ao, o, nb, n3, ?_, .inl rfl, ?_⟩⟩
    · have f3 : Fr [rb] w1 (w1.setCell ⟨rb, 3, none⟩ v) := (Fr.refl _ _).set (.inl (by simp)) _ _
      exact ((hF.mono (by simp)).trans (k2.mono (by intro x hx; simp at hx; simp [hx]))).trans (f3.mono (by simp))
    · exact k3.up hF.size
  have hd3 : (w.setCell ⟨rb, 0, none⟩ (.bool false)).cell? ⟨rb, 3, none⟩ = some (.slice b' l6 c6) := d3
  subst hl
  clear h hs hF i1 i2 j1 j2 jz m1 m2 d0 d1 d2 d3 e1 e2 f1 f2 l1 g1 c2 c3
  go_enter Tryz.func65, Tryz.ntmps65
  go_wp2_with (go_at_call 70; (with_reducible refine hcall.mono ?_); rintro e w1 hp; obtain ⟨v, p, q, r, rfl, rfl, ⟨x5, k1⟩, k2, HP⟩ := hfin e w1 hp; clear hp hfin hcall)
  go_ret
  exact HP.out
end Go.Proofs.YtpmggjplfcjkkaaGreatDoor

/- norm of a rational that is not zero: the steps. -/
set_option linter.unusedVariables false
set_option linter.unusedSimpArgs false
namespace Go.Proofs.YtpmggjplfcjkkaaGreatDoor
open Go.RowKit Nq

/-- While norm is under way: the rational, the divisor f, the stack s with its blocks K. -/
structure Ns (w0 w : World) (rb : Nat) (ao0 bo0 ao bo : Option Nat) (n d : Nat) (f : Ent) (s : Nat) (K : List Nat) : Prop where
  r : RatIs w rb ao bo false false n d
  fi : f.isAt w
  fn : f.neg = false
  st : StkK w s 0 K
  k : ∀ x ∈ K, w0.heap.size ≤ x
  ff : ∀ x ∈ f.foot, w0.heap.size ≤ x ∧ x ∉ K
  fr : Fr (rb :: (ao0.toList ++ bo0.toList)) w0 w
  la : Later w0 ao0 ao
  lb : Later w0 bo0 bo
  ak : ∀ x, ao = some x → x ∉ K ∧ x ∉ f.foot
  bk : ∀ x, bo = some x → x ∉ K ∧ x ∉ f.foot
  r0 : rb < w0.heap.size
  a14 : ∀ x, ao0 = some x → 14 ≤ x ∧ x < w0.heap.size ∧ x ≠ rb
  b14 : ∀ x, bo0 = some x → 14 ≤ x ∧ x < w0.heap.size ∧ x ≠ rb
  r14 : 14 ≤ rb
  t : Th w0

theorem Ns.th {w0 w : World} {rb : Nat} {ao0 bo0 ao bo : Option Nat} {n d : Nat} {f : Ent} {s : Nat} {K : List Nat} (h : Ns w0 w rb ao0 bo0 ao bo n d f s K) : Th w := h.t.fr h.fr (by
  intro b hb
  simp at hb
  rcases hb with rfl | hb | hb
  · exact h.r14
  · exact (h.a14 b hb).1
  · exact (h.b14 b hb).1)
theorem later14 {w0 : World} {o0 o : Option Nat} (h : Later w0 o0 o) (h0 : ∀ x, o0 = some x → 14 ≤ x) (hT : Th w0) : ∀ x, o = some x → 14 ≤ x := by
  intro x hx
  rcases h with h | ⟨y, h, hy⟩
  · exact h0 x (h ▸ hx)
  · rw [h] at hx; injection hx with hx; have := hT.size; omega
/-- The division of the numerator. -/
theorem Ns.divA {w0 w : World} {rb : Nat} {ao0 bo0 ao bo : Option Nat} {n d : Nat} {f : Ent} {s : Nat} {K : List Nat} (h : Ns w0 w rb ao0 bo0 ao bo n d f s K) (hf0 : 0 < f.n) (hfn : f.n ≤ n) (hn : n < Bw ^ 39) :
    ∃ a l c x l2 c2, w.cell? ⟨rb, 1, none⟩ = some (.slice a l c) ∧ w.cell? ⟨f.b, 1, none⟩ = some (.slice x l2 c2) ∧ ∀ k, Calls Tryz.prog 114 #[.slice a l c, .pointer (some ⟨s, 0, none⟩), .slice none 0 0, .slice a l c, .slice x l2 c2] (w.drewN k) fun e w' =>
      ∃ qv rv p q r, qv = .slice p q r ∧ e = .returned (.tuple #[qv, rv]) ∧ (∃ x, w'.cell? ⟨rb, 1, none⟩ = some x) ∧ w'.frozen? ⟨rb, 1, none⟩ = false ∧ Hid (∃ ao' K', Ns w0 (w'.setCell ⟨rb, 1, none⟩ qv) rb ao0 bo0 ao' bo (n / f.n) d f s K') := by
  obtain ⟨a, l, c, a', l', c', c0, c1, c2, c3, i1, i2, e1, e2, l1, l2⟩ := h.r.cells
  obtain ⟨fv, g1, g2⟩ := h.fi
  obtain ⟨x, lf, cf, rfl⟩ := g2.slice
  obtain ⟨ws, ia⟩ := i1.own
  obtain ⟨h0, m1, m2⟩ := h.r.lt
  have hsz := h.fr.size
  refine ⟨a, l, c, x, lf, cf, c1, g1.cell 1 rfl, ?_⟩
  intro k
  have hup := pow_mono (m := 39) (n := 200) (by decide)
  refine (div_stk (ia.drewN k) (Own.nil _) (i1.drewN k) (g2.drewN k) hf0 hfn (Nat.lt_of_lt_of_le hn hup) (Nat.lt_of_le_of_lt hfn hn) (h.st.fr ((Fr.refl [] w).drewN k) (by simp)) (by omega) (h.th.drewN k) (fun x hx => (h.ak x hx).1) (by simp) (fun x hx => (h.ak x hx).1) (fun x hx => (h.ff x (f.foot_o hx)).2) (by simp) (fun x hx => by have := h.k x hx; have := h.t.size; omega) (later14 h.la (fun x hx => (h.a14 x hx).1) h.t) (by simp)).mono ?_
  rintro e w' ⟨qv, qo, rv, ro, K', rfl, j1, j2, j3, j4, j5, j6, j7, j8, j9⟩
  obtain ⟨p, q, r, hqv⟩ := j1.slice
  have hF : Fr (ao.toList ++ K) w w' := (((Fr.refl _ w).drewN k).trans (j3.mono (by intro x hx; simp at hx ⊢; exact hx)))
  have j4 := j4.drewN
  have hK' : ∀ x ∈ K', x ∈ K ∨ w.heap.size ≤ x := by
    intro x hx
    rcases j9 x hx with h1 | h1
    · exact .inl h1
    · right; rwa [heap_drewN] at h1
  have hrb : rb ∉ ao.toList ++ K := by
    intro hin
    simp at hin
    rcases hin with h1 | h1
    · exact (m1 _ h1).2 rfl
    · have := h.k _ h1; have := h.r0; omega
  have hff : ∀ y ∈ f.foot, y ∉ ao.toList ++ K := by
    intro y hy hin
    simp at hin
    rcases hin with h1 | h1
    · exact (h.ak y h1).2 hy
    · exact (h.ff y hy).2 h1
  have hb : ∀ y, bo = some y → y ∉ ao.toList ++ K := by
    intro y hy hin
    simp at hin
    rcases hin with h1 | h1
    · obtain ⟨_, _, _, _, _, k4⟩ := h.r
      exact k4 y h1 hy
    · exact (h.bk y hy).1 h1
  obtain ⟨n1, n2, n3⟩ := h.r.putA hF hrb hb j1 j4
  have f3 : Fr [rb] w' (w'.setCell ⟨rb, 1, none⟩ qv) := (Fr.refl _ _).set (.inl (by simp)) _ _
  have hff0 : f.foot = f.foot := rfl
  refine ⟨qv, rv, p, q, r, hqv, rfl, n1, n2, Lib.hid ⟨qo, K', n3, ?_, h.fn, ?_, ?_, ?_, ?_, ?_, h.lb, ?_, ?_, h.r0, h.a14, h.b14, h.r14, h.t⟩⟩
  · exact (h.fi.fr hF hff).fr f3 (by intro y hy hin; simp at hin; have := (h.ff y hy).1; have := h.r0; omega)
  · refine j8.fr f3 ?_
    intro y hy hin
    simp at hin
    have := h.r0
    rcases hK' y hy with h1 | h1
    · have := h.k y h1; omega
    · omega
  · intro y hy
    rcases hK' y hy with h1 | h1
    · exact h.k y h1
    · omega
  · intro y hy
    refine ⟨(h.ff y hy).1, ?_⟩
    intro hin
    rcases hK' y hin with h1 | h1
    · exact (h.ff y hy).2 h1
    · have := h.fi.lt y hy; omega
  · refine (h.fr.trans_new hF ?_).trans (f3.mono (by simp))
    intro y hy
    simp at hy
    rcases hy with h1 | h1
    · rcases h.la with h2 | ⟨z, h2, hz⟩
      · left; rw [← h2]; simp [h1]
      · right; rw [h2] at h1; injection h1 with h1; omega
    · exact .inr (h.k y h1)
  · rcases j4 with h1 | ⟨z, h1, hz⟩
    · rw [h1]; exact h.la
    · exact .inr ⟨z, h1, by omega⟩
  · intro y hy
    refine ⟨(j6 y hy).2, ?_⟩
    intro hin
    rcases j4 with h1 | ⟨z, h1, hz⟩
    · rw [h1] at hy; exact (h.ak y hy).2 hin
    · rw [h1] at hy; injection hy with hy; have := h.fi.lt y hin; omega
  · intro y hy
    refine ⟨?_, (h.bk y hy).2⟩
    intro hin
    rcases hK' y hin with h1 | h1
    · exact (h.bk y hy).1 h1
    · have := (m2 y hy).1; omega
/-- The division of the denominator. -/
theorem Ns.divB {w0 w : World} {rb : Nat} {ao0 bo0 ao bo : Option Nat} {n d : Nat} {f : Ent} {s : Nat} {K : List Nat} (h : Ns w0 w rb ao0 bo0 ao bo n d f s K) (hf0 : 0 < f.n) (hfn : f.n ≤ d) (hn : d < Bw ^ 39) :
    ∃ a l c x l2 c2, w.cell? ⟨rb, 3, none⟩ = some (.slice a l c) ∧ w.cell? ⟨f.b, 1, none⟩ = some (.slice x l2 c2) ∧ ∀ k, Calls Tryz.prog 114 #[.slice a l c, .pointer (some ⟨s, 0, none⟩), .slice none 0 0, .slice a l c, .slice x l2 c2] (w.drewN k) fun e w' =>
      ∃ qv rv p q r, qv = .slice p q r ∧ e = .returned (.tuple #[qv, rv]) ∧ (∃ x, w'.cell? ⟨rb, 3, none⟩ = some x) ∧ w'.frozen? ⟨rb, 3, none⟩ = false ∧ Hid (∃ bo' K', Ns w0 (w'.setCell ⟨rb, 3, none⟩ qv) rb ao0 bo0 ao bo' n (d / f.n) f s K') := by
  obtain ⟨a0, l0, c0', a, l, c, c0, c1, c2, c3, i2, i1, e2, e1, l1, l2⟩ := h.r.cells
  obtain ⟨fv, g1, g2⟩ := h.fi
  obtain ⟨x, lf, cf, rfl⟩ := g2.slice
  obtain ⟨ws, ia⟩ := i1.own
  obtain ⟨h0, m2, m1⟩ := h.r.lt
  have hsz := h.fr.size
  refine ⟨a, l, c, x, lf, cf, c3, g1.cell 1 rfl, ?_⟩
  intro k
  have hup := pow_mono (m := 39) (n := 200) (by decide)
  refine (div_stk (ia.drewN k) (Own.nil _) (i1.drewN k) (g2.drewN k) hf0 hfn (Nat.lt_of_lt_of_le hn hup) (Nat.lt_of_le_of_lt hfn hn) (h.st.fr ((Fr.refl [] w).drewN k) (by simp)) (by omega) (h.th.drewN k) (fun x hx => (h.bk x hx).1) (by simp) (fun x hx => (h.bk x hx).1) (fun x hx => (h.ff x (f.foot_o hx)).2) (by simp) (fun x hx => by have := h.k x hx; have := h.t.size; omega) (later14 h.lb (fun x hx => (h.b14 x hx).1) h.t) (by simp)).mono ?_
  rintro e w' ⟨qv, qo, rv, ro, K', rfl, j1, j2, j3, j4, j5, j6, j7, j8, j9⟩
  obtain ⟨p, q, r, hqv⟩ := j1.slice
  have hF : Fr (bo.toList ++ K) w w' := (((Fr.refl _ w).drewN k).trans (j3.mono (by intro x hx; simp at hx ⊢; exact hx)))
  have j4 := j4.drewN
  have hK' : ∀ x ∈ K', x ∈ K ∨ w.heap.size ≤ x := by
    intro x hx
    rcases j9 x hx with h1 | h1
    · exact .inl h1
    · right; rwa [heap_drewN] at h1
  have hrb : rb ∉ bo.toList ++ K := by
    intro hin
    simp at hin
    rcases hin with h1 | h1
    · exact (m1 _ h1).2 rfl
    · have := h.k _ h1; have := h.r0; omega
  have hff : ∀ y ∈ f.foot, y ∉ bo.toList ++ K := by
    intro y hy hin
    simp at hin
    rcases hin with h1 | h1
    · exact (h.bk y h1).2 hy
    · exact (h.ff y hy).2 h1
  have hb : ∀ y, ao = some y → y ∉ bo.toList ++ K := by
    intro y hy hin
    simp at hin
    rcases hin with h1 | h1
    · obtain ⟨_, _, _, _, _, k4⟩ := h.r
      exact k4 y hy h1
    · exact (h.ak y hy).1 h1
  obtain ⟨n1, n2, n3⟩ := h.r.putB hF hrb hb j1 j4
  have f3 : Fr [rb] w' (w'.setCell ⟨rb, 3, none⟩ qv) := (Fr.refl _ _).set (.inl (by simp)) _ _
  have hff0 : f.foot = f.foot := rfl
  refine ⟨qv, rv, p, q, r, hqv, rfl, n1, n2, Lib.hid ⟨qo, K', n3, ?_, h.fn, ?_, ?_, ?_, ?_, h.la, ?_, ?_, ?_, h.r0, h.a14, h.b14, h.r14, h.t⟩⟩
  · exact (h.fi.fr hF hff).fr f3 (by intro y hy hin; simp at hin; have := (h.ff y hy).1; have := h.r0; omega)
  · refine j8.fr f3 ?_
    intro y hy hin
    simp at hin
    have := h.r0
    rcases hK' y hy with h1 | h1
    · have := h.k y h1; omega
    · omega
  · intro y hy
    rcases hK' y hy with h1 | h1
    · exact h.k y h1
    · omega
  · intro y hy
    refine ⟨(h.ff y hy).1, ?_⟩
    intro hin
    rcases hK' y hin with h1 | h1
    · exact (h.ff y hy).2 h1
    · have := h.fi.lt y hy; omega
  · refine (h.fr.trans_new hF ?_).trans (f3.mono (by simp))
    intro y hy
    simp at hy
    rcases hy with h1 | h1
    · rcases h.lb with h2 | ⟨z, h2, hz⟩
      · left; rw [← h2]; simp [h1]
      · right; rw [h2] at h1; injection h1 with h1; omega
    · exact .inr (h.k y h1)
  · rcases j4 with h1 | ⟨z, h1, hz⟩
    · rw [h1]; exact h.lb
    · exact .inr ⟨z, h1, by omega⟩
  · intro y hy
    refine ⟨?_, (h.ak y hy).2⟩
    intro hin
    rcases hK' y hin with h1 | h1
    · exact (h.ak y hy).1 h1
    · have := (m2 y hy).1; omega
  · intro y hy
    refine ⟨(j6 y hy).2, ?_⟩
    intro hin
    rcases j4 with h1 | ⟨z, h1, hz⟩
    · rw [h1] at hy; exact (h.bk y hy).2 hin
    · rw [h1] at hy; injection hy with hy; have := h.fi.lt y hin; omega
/-- The end: the sign is put back, the stack is freed. -/
theorem Ns.fin {w0 w : World} {rb : Nat} {ao0 bo0 ao bo : Option Nat} {n d : Nat} {f : Ent} {s : Nat} {K : List Nat} (h : Ns w0 w rb ao0 bo0 ao bo n d f s K) (neg : Bool) :
    (∃ x, w.cell? ⟨rb, 0, none⟩ = some x) ∧ w.frozen? ⟨rb, 0, none⟩ = false ∧ StkK (w.setCell ⟨rb, 0, none⟩ (.bool neg)) s 0 K ∧
      ∀ w', Fr K (w.setCell ⟨rb, 0, none⟩ (.bool neg)) w' → NormPost w0 rb ao0 bo0 neg n d (.returned (.pointer (some ⟨rb, 0, none⟩))) w' := by
  obtain ⟨a, l, c, a', l', c', c0, c1, c2, c3, i1, i2, e1, e2, l1, l2⟩ := h.r.cells
  obtain ⟨hs, hF⟩ := h.r.signA neg
  have hr0 := h.r0
  have hrK : rb ∉ K := fun hin => by have := h.k _ hin; omega
  refine ⟨⟨_, c0⟩, h.r.frozen 0, h.st.fr hF (by intro y hy hin; simp at hin; exact hrK (hin ▸ hy)), ?_⟩
  intro w' hF'
  refine ⟨rfl, ao, bo, false, hs.fr hF' hrK (fun x hx => (h.ak x hx).1) (fun x hx => (h.bk x hx).1), ?_, h.la, h.lb⟩
  exact (h.fr.trans (hF.mono (by simp))).trans_new hF' (fun x hx => .inr (h.k x hx))
/-- How it begins. -/
theorem Ns.start {w w5 : World} {rb : Nat} {ao bo : Option Nat} {n d : Nat} {f : Ent} {s : Nat} (hr : RatIs w5 rb ao bo false false n d) (hf : f.isAt w5) (hfn : f.neg = false) (hst : StkK w5 s 0 [s]) (hs : w.heap.size ≤ s) (hff : ∀ x ∈ f.foot, w.heap.size ≤ x ∧ x ≠ s) (hF : Fr [rb] w w5) (h0 : rb < w.heap.size)
    (ha : ∀ x, ao = some x → 14 ≤ x ∧ x < w.heap.size ∧ x ≠ rb) (hb : ∀ x, bo = some x → 14 ≤ x ∧ x < w.heap.size ∧ x ≠ rb) (h14 : 14 ≤ rb) (hT : Th w) : Ns w w5 rb ao bo ao bo n d f s [s] :=
  ⟨hr, hf, hfn, hst, by simpa using hs, fun x hx => ⟨(hff x hx).1, by simpa using (hff x hx).2⟩, hF.mono (by simp), .inl rfl, .inl rfl,
    fun x hx => ⟨by have := (ha x hx).2.1; simp; omega, fun hin => by have := (ha x hx).2.1; have := (hff x hin).1; omega⟩, fun x hx => ⟨by have := (hb x hx).2.1; simp; omega, fun hin => by have := (hb x hx).2.1; have := (hff x hin).1; omega⟩, h0, ha, hb, h14, hT⟩
end Go.Proofs.YtpmggjplfcjkkaaGreatDoor
