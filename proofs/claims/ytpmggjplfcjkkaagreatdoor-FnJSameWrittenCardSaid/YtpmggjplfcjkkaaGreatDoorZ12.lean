/- Set. -/
import Derived.Deep.QuietTactic
import Derived.BigQuiet
import Derived.StillTailTactics
import Derived.Deep.RegionWith
import Derived.Test.YtpmggjplfcjkkaaGreatDoorZ11
import Derived.Deep.DeepCutAuto
set_option linter.unusedVariables false
set_option linter.unusedSimpArgs false
namespace Go.Proofs.YtpmggjplfcjkkaaGreatDoor
open Go.RowKit Nq

theorem intPtr : Tryz.prog.underlying 110 = some (.pointer 99) := by kernel_rfl
theorem intSize : (Tryz.prog.info? 99).map (·.size) = some 2 := by kernel_rfl
theorem run_equalIn_int_other (d : Nat) (w : World) {a b : Addr} {ca cb : Array Value} {ta tb : TypeId} (hne : a ≠ b) (ha : w.heap[a.block]? = some (.cells ca ta (0, 0))) (hb : w.heap[b.block]? = some (.cells cb tb (0, 0))) :
    (Op.equalIn (d + 1) 110 (.pointer (some a)) (.pointer (some b))).run Tryz.prog w = .ok false w := by
  obtain ⟨i0, hi, hz1⟩ : ∃ i, Tryz.prog.info? 99 = some i ∧ i.size = 2 := by
    have h := intSize
    cases hi : Tryz.prog.info? 99 with
    | none => rw [hi] at h; cases h
    | some i => rw [hi] at h; exact ⟨i, rfl, by simpa using h⟩
  simp [Op.equalIn, run_underlying intPtr, sizeOf, typeInfo, hi, hz1, run_sameAddr_other w hne ha hb]
theorem NatPost.of_drewN {w : World} {k : Nat} {zo : Option Nat} {val : Nat} {e : Ending} {w' : World} (h : NatPost (w.drewN k) zo val e w') : NatPost w zo val e w' :=
  let ⟨v, o, ws, h1, h2, h3, h4, h5, h6, h7⟩ := h; ⟨v, o, ws, h1, h2, h3, h4, h5, ((Fr.refl _ w).drewN k).trans h6, h7.drewN⟩
theorem run_neq_int_other (w : World) {b c o p : Nat} {vs us : Array Value} {T U : TypeId} (hne : b ≠ c ∨ o ≠ p) (ha : Cells w b vs T) (hb : Cells w c us U) : (binOp .neq 110 (.pointer (some ⟨b, o, none⟩)) (.pointer (some ⟨c, p, none⟩))).run Tryz.prog w = .ok (.bool true) w := by
  have h := run_equalIn_int_other 9999 w (a := ⟨b, o, none⟩) (b := ⟨c, p, none⟩) (by intro e; injection e with e1 e2; rcases hne with h | h <;> contradiction) ha hb
  simp only [binOp]
  simp [Op.equal, Op.maxDepth, h]

set_option maxRecDepth 100000 in
set_option maxHeartbeats 1000000 in
theorem intSet {z : Ent} {bx ox : Nat} {xo : Option Nat} {xneg : Bool} {xn : Nat} {w : World} (hz : z.isAt w) (hx : IntRd w bx ox xo xneg xn) (hne : z.b ≠ bx) (h0 : 0 < xn) (hb : xn < Bw ^ 1000) (hxo : ∀ x, z.o = some x → xo ≠ some x ∧ x ≠ bx) :
    Calls Tryz.prog 55 #[.pointer (some ⟨z.b, 0, none⟩), .pointer (some ⟨bx, ox, none⟩)] w fun e w' => e = .returned (.pointer (some ⟨z.b, 0, none⟩)) ∧ ∃ o', Upd w z ⟨z.b, o', xneg, xn⟩ w' := by
  have hz' := hz
  obtain ⟨zv, z1, zs, z2, wZ⟩ := hz
  obtain ⟨xv, T, vs, x1, xT, x2, x3, x4⟩ := hx
  have c1 := z1.cell 1 rfl
  have c2 := x1.cell ox x2
  have c3 := x1.cell (ox + 1) x3
  obtain ⟨ws, x5, wX, nX, rfl⟩ := x4
  have hcall : Calls Tryz.prog 93 #[zv, xv] w.drew (NatPost w z.o (vl ws)) := (set_own (z2.drewN 1) (x5.drewN 1) wX nX (by intro e; subst e; simp at h0) (by have := len_of_lt nX rfl hb; omega)).mono fun _ _ h => NatPost.of_drewN (k := 1) h
  have hfin : ∀ e w1, NatPost w z.o (vl ws) e w1 → ∃ v a l c, v = .slice a l c ∧ e = .returned v ∧ (∃ x, w1.cell? ⟨z.b, 1, none⟩ = some x) ∧ w1.frozen? ⟨z.b, 1, none⟩ = false ∧ w1.cell? ⟨bx, ox, none⟩ = some (.bool xneg) ∧ (∃ x, (w1.setCell ⟨z.b, 1, none⟩ v).cell? ⟨z.b, 0, none⟩ = some x) ∧ (w1.setCell ⟨z.b, 1, none⟩ v).frozen? ⟨z.b, 0, none⟩ = false ∧
      Hid (∃ o', Upd w z ⟨z.b, o', xneg, vl ws⟩ ((w1.setCell ⟨z.b, 1, none⟩ v).setCell ⟨z.b, 0, none⟩ (.bool xneg))) := by
    intro e w1 hp
    obtain ⟨v, o, rfl, k1, k2, k3⟩ := hp.isN
    obtain ⟨m1, m2, m3, m4, m5, _⟩ := Upd.mk2 hz' k1 k2 k3 xneg
    obtain ⟨a, l, c, hv⟩ := k1.slice
    refine ⟨v, a, l, c, hv, rfl, m1, m2, ?_, m3, m4, Lib.hid ⟨o, m5⟩⟩
    exact (x1.fr k2 (by intro h; simp at h; exact (hxo _ h).2 rfl)).cell ox x2
  obtain ⟨za, zl, zc, rfl⟩ : ∃ a l c, zv = .slice a l c := by obtain ⟨a, c, h⟩ := z2.slice; exact ⟨a, _, c, h⟩
  obtain ⟨xa, xl, xc, rfl⟩ : ∃ a l c, xv = .slice a l c := by obtain ⟨a, c, h⟩ := x5.slice; exact ⟨a, _, c, h⟩
  have hcmp := run_neq_int_other w (o := 0) (p := ox) (.inl hne) z1 x1
  have hn2 : ¬ z.b = bx := hne
  have hn3 : ¬ bx = z.b := fun e => hne e.symm
  generalize z.b = zb at *
  generalize vl ws = val at *
  clear hz' z1 z2 x1 x2 x3 x5 wX nX hb h0 hxo hne
  go_enter Tryz.func55, Tryz.ntmps55
  go_wp2_with fail
  go_region_with (go_at_call 93; (with_reducible refine hcall.mono ?_); rintro e w1 hp; obtain ⟨v, va, vl, vc, rfl, rfl, ⟨x5, k1⟩, k2, k3, ⟨x6, k4⟩, k5, HP⟩ := hfin e w1 hp)
  all_goals go_wp2
  all_goals go_ret
  all_goals exact ⟨rfl, HP.out⟩
end Go.Proofs.YtpmggjplfcjkkaaGreatDoor

/- Abs, mulW. -/
set_option linter.unusedVariables false
set_option linter.unusedSimpArgs false
namespace Go.Proofs.YtpmggjplfcjkkaaGreatDoor
open Go.RowKit Nq

/-- A store of the sign behind an operation. -/
theorem Upd.sign {w w1 : World} {a a1 : Ent} (h : Upd w a a1 w1) (neg : Bool) : (∃ x, w1.cell? ⟨a.b, 0, none⟩ = some x) ∧ w1.frozen? ⟨a.b, 0, none⟩ = false ∧ Upd w a ⟨a.b, a1.o, neg, a1.n⟩ (w1.setCell ⟨a.b, 0, none⟩ (.bool neg)) := by
  obtain ⟨e1, ⟨v, h1, h2⟩, h3, h4⟩ := h
  have hb := e1
  rw [hb] at h1
  have f : Fr [a.b] w1 (w1.setCell ⟨a.b, 0, none⟩ (.bool neg)) := (Fr.refl _ _).set (.inl (by simp)) _ _
  refine ⟨⟨_, h1.cell 0 rfl⟩, h1.frozen 0, ⟨rfl, ⟨v, h1.set 0 (.bool neg), h2.fr f ?_⟩, h3.trans (f.mono (by intro x hx; simp at hx; rw [hx]; exact a.foot_b)), ?_⟩⟩
  · intro x hx hin
    simp at hin
    exact h2.ne_cells h1 (by decide) hx hin
  · intro x hx
    apply h4
    rw [Ent.mem_foot] at hx ⊢
    rcases hx with h | h
    · exact .inl (h.trans hb.symm)
    · exact .inr h

set_option maxRecDepth 100000 in
set_option maxHeartbeats 1000000 in
theorem intAbs {z : Ent} {bx ox : Nat} {xo : Option Nat} {xneg : Bool} {xn : Nat} {w : World} (hz : z.isAt w) (hx : IntRd w bx ox xo xneg xn) (hne : z.b ≠ bx) (h0 : 0 < xn) (hb : xn < Bw ^ 1000) (hxo : ∀ x, z.o = some x → xo ≠ some x ∧ x ≠ bx) :
    Calls Tryz.prog 160 #[.pointer (some ⟨z.b, 0, none⟩), .pointer (some ⟨bx, ox, none⟩)] w fun e w' => e = .returned (.pointer (some ⟨z.b, 0, none⟩)) ∧ ∃ o', Upd w z ⟨z.b, o', false, xn⟩ w' := by
  have hcall := intSet hz hx hne h0 hb hxo
  have hfin : ∀ w1, (∃ o', Upd w z ⟨z.b, o', xneg, xn⟩ w1) → (∃ x, w1.cell? ⟨z.b, 0, none⟩ = some x) ∧ w1.frozen? ⟨z.b, 0, none⟩ = false ∧ Hid (∃ o', Upd w z ⟨z.b, o', false, xn⟩ (w1.setCell ⟨z.b, 0, none⟩ (.bool false))) := by
    rintro w1 ⟨o, h⟩
    obtain ⟨h1, h2, h3⟩ := h.sign false
    exact ⟨h1, h2, Lib.hid ⟨_, h3⟩⟩
  generalize z.b = zb at *
  clear hz hx hne h0 hb hxo
  go_enter Tryz.func160, Tryz.ntmps160
  go_wp2_with (go_at_call 55; (with_reducible refine hcall.mono ?_); rintro e w1 ⟨rfl, hp⟩; obtain ⟨⟨x, k1⟩, k2, HP⟩ := hfin w1 hp; clear hp hfin hcall)
  go_ret
  exact ⟨rfl, HP.out⟩

set_option maxRecDepth 100000 in
set_option maxHeartbeats 1000000 in
theorem mulW {z : Ent} {bx : Nat} {xo : Option Nat} {xn m : Nat} {w : World} (neg : Bool) (hz : z.isAt w) (hx : IntRd w bx 0 xo false xn) (hm : m < Bw) (hb : xn < Bw ^ 1000) (hxo : bx = z.b ∨ (bx ≠ z.b ∧ ∀ x, z.o = some x → x ≠ bx)) :
    Calls Tryz.prog 165 #[.pointer (some ⟨z.b, 0, none⟩), .pointer (some ⟨bx, 0, none⟩), .bool neg, .int .u64 (m : Int)] w fun e w' => e = .returned (.tuple #[]) ∧ ∃ o', Upd w z ⟨z.b, o', neg, xn * m⟩ w' := by
  have hz' := hz
  obtain ⟨zv, z1, zs, z2, wZ⟩ := hz
  obtain ⟨xv, T, vs, x1, xT, x2, x3, x4⟩ := hx
  have c1 := z1.cell 1 rfl
  have c3 := x1.cell 1 x3
  obtain ⟨ws, x5, wX, nX, rfl⟩ := x4
  have hcall : Calls Tryz.prog 94 #[zv, xv, .int .u64 (m : Int), .int .u64 0] w.drew (NatPost w z.o (vl ws * m)) := by
    have := mulAddWW_own (z2.drewN 1) (x5.drewN 1) wX (by have := len_of_lt nX rfl hb; omega) hm Bw_pos
    rw [Nat.add_zero] at this
    exact this.mono fun _ _ h => NatPost.of_drewN (k := 1) h
  have hfin : ∀ e w1, NatPost w z.o (vl ws * m) e w1 → ∃ v a l c, v = .slice a l c ∧ e = .returned v ∧ (∃ x, w1.cell? ⟨z.b, 1, none⟩ = some x) ∧ w1.frozen? ⟨z.b, 1, none⟩ = false ∧ (w1.setCell ⟨z.b, 1, none⟩ v).cell? ⟨bx, 0, none⟩ = some (.bool false) ∧ (∃ x, (w1.setCell ⟨z.b, 1, none⟩ v).cell? ⟨z.b, 0, none⟩ = some x) ∧ (w1.setCell ⟨z.b, 1, none⟩ v).frozen? ⟨z.b, 0, none⟩ = false ∧
      Hid (∃ o', Upd w z ⟨z.b, o', neg, vl ws * m⟩ ((w1.setCell ⟨z.b, 1, none⟩ v).setCell ⟨z.b, 0, none⟩ (.bool neg))) := by
    intro e w1 hp
    obtain ⟨v, o, rfl, k1, k2, k3⟩ := hp.isN
    obtain ⟨m1, m2, m3, m4, m5, _⟩ := Upd.mk2 hz' k1 k2 k3 neg
    obtain ⟨a, l, c, hv⟩ := k1.slice
    refine ⟨v, a, l, c, hv, rfl, m1, m2, ?_, m3, m4, Lib.hid ⟨o, m5⟩⟩
    have hbx : bx ∉ z.o.toList := by
      intro h
      simp at h
      rcases hxo with rfl | h2
      · exact IsN.ne_cells ⟨zs, z2, wZ⟩ z1 (by decide) h rfl
      · exact h2.2 _ h rfl
    rw [cell_set_ne (by intro e; injection e with _ e; omega)]
    exact (x1.fr k2 hbx).cell 0 x2
  obtain ⟨za, zl, zc, rfl⟩ : ∃ a l c, zv = .slice a l c := by obtain ⟨a, c, h⟩ := z2.slice; exact ⟨a, _, c, h⟩
  obtain ⟨xa, xl, xc, rfl⟩ : ∃ a l c, xv = .slice a l c := by obtain ⟨a, c, h⟩ := x5.slice; exact ⟨a, _, c, h⟩
  generalize z.b = zb at *
  generalize vl ws * m = val at *
  clear hz' z1 z2 x1 x2 x3 x5 wX nX hb hxo wZ
  cases neg
  all_goals
    go_enter Tryz.func165, Tryz.ntmps165
    go_wp2_with fail
    go_region_with (go_at_call 94; (with_reducible refine hcall.mono ?_); rintro e w1 hp; obtain ⟨v, va, vl, vc, rfl, rfl, ⟨x5, k1⟩, k2, k3, ⟨x6, k4⟩, k5, HP⟩ := hfin e w1 hp)
    all_goals go_wp2
    all_goals exact ⟨rfl, .tuple #[], results_none rfl _ _ _, rfl, HP.out⟩
end Go.Proofs.YtpmggjplfcjkkaaGreatDoor

/- Small words for quiet regions and lengths. -/
set_option linter.unusedVariables false
set_option linter.unusedSimpArgs false
namespace Go.Proofs.YtpmggjplfcjkkaaGreatDoor
open Go.RowKit Nq

/-- The same world, some draws later. -/
def DrewOf (w w' : World) : Prop := ∃ k, w' = w.drewN k
theorem DrewOf.refl (w : World) : DrewOf w w := ⟨0, rfl⟩
theorem DrewOf.mk (w : World) (k : Nat) : DrewOf w (w.drewN k) := ⟨k, rfl⟩
theorem DrewOf.drew {w w' : World} (h : DrewOf w w') : DrewOf w w'.drew := by obtain ⟨k, rfl⟩ := h; exact ⟨k + 1, rfl⟩
theorem DrewOf.drewN {w w' : World} (h : DrewOf w w') (n : Nat) : DrewOf w (w'.drewN n) := by obtain ⟨k, rfl⟩ := h; exact ⟨k + n, by rw [drewN_drewN]⟩
theorem DrewOf.cell {w w' : World} (h : DrewOf w w') (a : Addr) : w'.cell? a = w.cell? a := by
  obtain ⟨k, rfl⟩ := h
  unfold World.cell?
  rw [heap_drewN]

theorem quiet_add {P : Program} {f : FuncId} {args : Array Value} {w : World} {a n : Nat} {v : Value}
    (h : Calls P f args (w.drewN (a + n)) fun e w' => e = .returned v ∧ ∃ m, w' = (w.drewN (a + n)).drewN m) :
    Calls P f args (w.drewN (a + n)) fun e w'' => e = .returned v ∧ ∃ m, w'' = w.drewN (a + m) :=
  h.mono fun _ _ ⟨he, m, hm⟩ => ⟨he, n + m, by rw [hm, World.drewN_drewN, Nat.add_assoc]⟩

theorem Own.len_zero {w : World} {v : Value} {o : Option Nat} {ws : List Nat} (h : Own w v o ws) (hz : ws = []) : ∃ a c, v = .slice a 0 c := by
  subst hz; exact h.slice
theorem IsN.len {w : World} {v : Value} {o : Option Nat} {n : Nat} (h : IsN w v o n) : ∃ a l c, v = .slice a l c ∧ (l = 0 ↔ n = 0) ∧ (l ≤ 1 ↔ n < Bw) ∧ l ≤ 100000 := by
  obtain ⟨ws, h1, h2, h3, rfl⟩ := h
  obtain ⟨a, c, h⟩ := h1.slice
  refine ⟨a, _, c, h, ?_, ?_, h1.length_le⟩
  · rw [vl_eq_zero h3, List.length_eq_zero_iff]
  · constructor
    · intro hl
      have := vl_lt h2
      have h4 := pow_mono (m := ws.length) (n := 1) hl
      rw [Nat.pow_one] at h4
      omega
    · intro hl
      exact length_le_of_lt_pow h3 (by rw [Nat.pow_one]; exact hl)

end Go.Proofs.YtpmggjplfcjkkaaGreatDoor

/- QuoRem. -/
set_option linter.unusedVariables false
set_option linter.unusedSimpArgs false
namespace Go.Proofs.YtpmggjplfcjkkaaGreatDoor
open Go.RowKit Nq

/-- What QuoRem did: q and r are new, x and y as before. -/
structure QR (w : World) (q x y r : Ent) (q' r' : Ent) (w' : World) : Prop where
  s : S4 w' q' x y r'
  fr : Fr (q.foot ++ r.foot) w w'
  qb : q'.b = q.b
  rb : r'.b = r.b
  new : ∀ t ∈ q'.foot ++ r'.foot, t ∈ q.foot ++ r.foot ∨ w.heap.size ≤ t
theorem QR.drewN {w : World} {q x y r q' r' : Ent} {w' : World} (h : QR w q x y r q' r' w') (k : Nat) : QR w q x y r q' r' (w'.drewN k) := ⟨h.s.drewN k, h.fr.drewN k, h.qb, h.rb, h.new⟩

/-- The four stores of QuoRem. -/
theorem qr_stores {w w1 : World} {q x y r : Ent} (h : S4 w q x y r) {qv rv : Value} {qo ro : Option Nat} {a b : Nat} (hq : IsN w1 qv qo a) (hr : IsN w1 rv ro b) (hF : Fr (q.o.toList ++ r.o.toList ++ []) w w1) (lq : Later w q.o qo) (lr : Later w r.o ro) (hne : ∀ x, qo = some x → ro ≠ some x) :
    (∃ v, w1.cell? ⟨q.b, 1, none⟩ = some v) ∧ w1.frozen? ⟨q.b, 1, none⟩ = false ∧ (∃ v, (w1.setCell ⟨q.b, 1, none⟩ qv).cell? ⟨r.b, 1, none⟩ = some v) ∧ (w1.setCell ⟨q.b, 1, none⟩ qv).frozen? ⟨r.b, 1, none⟩ = false ∧
    ∃ w3, w3 = (w1.setCell ⟨q.b, 1, none⟩ qv).setCell ⟨r.b, 1, none⟩ rv ∧ w3.cell? ⟨q.b, 1, none⟩ = some qv ∧ w3.cell? ⟨r.b, 1, none⟩ = some rv ∧ w3.cell? ⟨x.b, 0, none⟩ = some (.bool x.neg) ∧ w3.cell? ⟨y.b, 0, none⟩ = some (.bool y.neg) ∧
      (∃ v, w3.cell? ⟨q.b, 0, none⟩ = some v) ∧ w3.frozen? ⟨q.b, 0, none⟩ = false ∧ (∃ v, (w3.setCell ⟨q.b, 0, none⟩ (.bool false)).cell? ⟨r.b, 0, none⟩ = some v) ∧ (w3.setCell ⟨q.b, 0, none⟩ (.bool false)).frozen? ⟨r.b, 0, none⟩ = false ∧
      QR w q x y r ⟨q.b, qo, false, a⟩ ⟨r.b, ro, false, b⟩ ((w3.setCell ⟨q.b, 0, none⟩ (.bool false)).setCell ⟨r.b, 0, none⟩ (.bool false)) := by
  have hS := h
  obtain ⟨⟨qv0, q1, q2⟩, ⟨xv, x1, x2⟩, ⟨yv, y1, y2⟩, ⟨rv0, r1, r2⟩, aqx, aqy, aqr, axy, axr, ayr⟩ := h
  have hfoot : ∀ t, t ∈ q.o.toList ++ r.o.toList ++ [] → t ∈ q.foot ++ r.foot := by
    intro t ht
    simp only [List.append_nil, List.mem_append, Option.mem_toList] at ht
    rcases ht with h | h
    · exact List.mem_append_left _ (q.foot_o h)
    · exact List.mem_append_right _ (r.foot_o h)
  have nq : q.b ∉ q.o.toList ++ r.o.toList ++ [] := by
    intro h
    simp only [List.append_nil, List.mem_append, Option.mem_toList] at h
    rcases h with h | h
    · exact q2.ne_cells q1 (by decide) h rfl
    · exact r2.ne_cells q1 (by decide) h rfl
  have nr : r.b ∉ q.o.toList ++ r.o.toList ++ [] := by
    intro h
    simp only [List.append_nil, List.mem_append, Option.mem_toList] at h
    rcases h with h | h
    · exact q2.ne_cells r1 (by decide) h rfl
    · exact r2.ne_cells r1 (by decide) h rfl
  have nx : ∀ t ∈ x.foot, t ∉ q.o.toList ++ r.o.toList ++ [] := by
    intro t ht h
    have := hfoot t h
    rw [List.mem_append] at this
    rcases this with h | h
    · exact aqx t h ht
    · exact axr t ht h
  have ny : ∀ t ∈ y.foot, t ∉ q.o.toList ++ r.o.toList ++ [] := by
    intro t ht h
    have := hfoot t h
    rw [List.mem_append] at this
    rcases this with h | h
    · exact aqy t h ht
    · exact ayr t ht h
  have hqr : q.b ≠ r.b := fun e => aqr _ q.foot_b (e ▸ r.foot_b)
  have q11 := q1.fr hF nq
  have r11 := r1.fr hF nr
  have q12 := q11.set 1 qv
  have f2 : Fr [q.b, r.b] w1 (w1.setCell ⟨q.b, 1, none⟩ qv) := (Fr.refl _ _).set (.inl (by simp)) _ _
  have r12 := r11.fr (S := [q.b]) ((Fr.refl _ _).set (c := q.b) (.inl (by simp)) 1 qv) (by simpa using hqr.symm)
  have r13 := r12.set 1 rv
  have f3 : Fr [q.b, r.b] w1 ((w1.setCell ⟨q.b, 1, none⟩ qv).setCell ⟨r.b, 1, none⟩ rv) := f2.set (.inl (by simp)) _ _
  have q13 := q12.fr (S := [r.b]) ((Fr.refl _ _).set (c := r.b) (.inl (by simp)) 1 rv) (by simpa using hqr)
  have q14 := q13.set 0 (.bool false)
  have r14 := r13.fr (S := [q.b]) ((Fr.refl _ _).set (c := q.b) (.inl (by simp)) 0 (.bool false)) (by simpa using hqr.symm)
  have r15 := r14.set 0 (.bool false)
  have q15 := q14.fr (S := [r.b]) ((Fr.refl _ _).set (c := r.b) (.inl (by simp)) 0 (.bool false)) (by simpa using hqr)
  have f5 : Fr [q.b, r.b] w1 ((((w1.setCell ⟨q.b, 1, none⟩ qv).setCell ⟨r.b, 1, none⟩ rv).setCell ⟨q.b, 0, none⟩ (.bool false)).setCell ⟨r.b, 0, none⟩ (.bool false)) := (f3.set (.inl (by simp)) _ _).set (.inl (by simp)) _ _
  have hx1 : x.b ∉ [q.b, r.b] := by
    intro h
    simp at h
    rcases h with h | h
    · exact aqx _ q.foot_b (h ▸ x.foot_b)
    · exact axr _ x.foot_b (h ▸ r.foot_b)
  have hy1 : y.b ∉ [q.b, r.b] := by
    intro h
    simp at h
    rcases h with h | h
    · exact aqy _ q.foot_b (h ▸ y.foot_b)
    · exact ayr _ y.foot_b (h ▸ r.foot_b)
  have x13 := (x1.fr hF (nx _ x.foot_b)).fr f3 hx1
  have y13 := (y1.fr hF (ny _ y.foot_b)).fr f3 hy1
  have oq : ∀ t, qo = some t → t ∉ [q.b, r.b] := by
    intro t ht h
    simp at h
    rcases h with h | h
    · exact hq.ne_cells q11 (by decide) ht h
    · exact hq.ne_cells r11 (by decide) ht h
  have or_ : ∀ t, ro = some t → t ∉ [q.b, r.b] := by
    intro t ht h
    simp at h
    rcases h with h | h
    · exact hr.ne_cells q11 (by decide) ht h
    · exact hr.ne_cells r11 (by decide) ht h
  have hFF : Fr (q.foot ++ r.foot) w ((((w1.setCell ⟨q.b, 1, none⟩ qv).setCell ⟨r.b, 1, none⟩ rv).setCell ⟨q.b, 0, none⟩ (.bool false)).setCell ⟨r.b, 0, none⟩ (.bool false)) := (hF.mono hfoot).trans (f5.mono (by intro t ht; simp at ht; rcases ht with rfl | rfl; exact List.mem_append_left _ q.foot_b; exact List.mem_append_right _ r.foot_b))
  have newq : ∀ t, t ∈ (Ent.mk q.b qo false a).foot → t ∈ q.foot ∨ w.heap.size ≤ t := by
    intro t ht
    rcases Ent.mem_foot.1 ht with h | h
    · left; rw [h]; exact q.foot_b
    · rcases lq with h' | ⟨z, h', hz⟩
      · left; exact q.foot_o (by rw [← h']; exact h)
      · right; simp only at h; rw [h'] at h; injection h with h; omega
  have newr : ∀ t, t ∈ (Ent.mk r.b ro false b).foot → t ∈ r.foot ∨ w.heap.size ≤ t := by
    intro t ht
    rcases Ent.mem_foot.1 ht with h | h
    · left; rw [h]; exact r.foot_b
    · rcases lr with h' | ⟨z, h', hz⟩
      · left; exact r.foot_o (by rw [← h']; exact h)
      · right; simp only at h; rw [h'] at h; injection h with h; omega
  have keep : ∀ e : Ent, e.isAt w → (∀ t ∈ e.foot, t ∉ q.foot ++ r.foot) → e.isAt ((((w1.setCell ⟨q.b, 1, none⟩ qv).setCell ⟨r.b, 1, none⟩ rv).setCell ⟨q.b, 0, none⟩ (.bool false)).setCell ⟨r.b, 0, none⟩ (.bool false)) := fun e he hn => he.fr hFF hn
  have apq : ∀ e : Ent, e.isAt w → Apart q e → Apart (Ent.mk q.b qo false a) e := by
    intro e he hqe t ht hte
    rcases newq t ht with h | h
    · exact hqe t h hte
    · have := he.lt t hte; omega
  have apr : ∀ e : Ent, e.isAt w → Apart r e → Apart (Ent.mk r.b ro false b) e := by
    intro e he hqe t ht hte
    rcases newr t ht with h | h
    · exact hqe t h hte
    · have := he.lt t hte; omega
  refine ⟨⟨_, q11.cell 1 rfl⟩, q11.frozen 1, ⟨_, r12.cell 1 rfl⟩, r12.frozen 1, _, rfl, q13.cell 1 rfl, r13.cell 1 rfl, x13.cell 0 rfl, y13.cell 0 rfl, ⟨_, q13.cell 0 rfl⟩, q13.frozen 0, ⟨_, r14.cell 0 rfl⟩, r14.frozen 0, ⟨⟨⟨qv, q15, hq.fr f5 oq⟩, keep x hS.ib ?_, keep y hS.ic ?_, ⟨rv, r15, hr.fr f5 or_⟩, apq x hS.ib aqx, apq y hS.ic aqy, ?_, axy, (apr x hS.ib axr.symm).symm, (apr y hS.ic ayr.symm).symm⟩, hFF, rfl, rfl, ?_⟩⟩
  · intro t ht h
    rw [List.mem_append] at h
    rcases h with h | h
    · exact aqx t h ht
    · exact axr t ht h
  · intro t ht h
    rw [List.mem_append] at h
    rcases h with h | h
    · exact aqy t h ht
    · exact ayr t ht h
  · intro t ht ht2
    rcases Ent.mem_foot.1 ht with h | h
    · rcases Ent.mem_foot.1 ht2 with h2 | h2
      · exact hqr (h.symm.trans h2)
      · exact or_ t h2 (by rw [h]; simp)
    · rcases Ent.mem_foot.1 ht2 with h2 | h2
      · exact oq t h (by rw [h2]; simp)
      · exact hne t h h2
  · intro t ht
    rw [List.mem_append] at ht ⊢
    rcases ht with h | h
    · rcases newq t h with h | h
      · exact .inl (.inl h)
      · exact .inr h
    · rcases newr t h with h | h
      · exact .inl (.inr h)
      · exact .inr h
end Go.Proofs.YtpmggjplfcjkkaaGreatDoor
