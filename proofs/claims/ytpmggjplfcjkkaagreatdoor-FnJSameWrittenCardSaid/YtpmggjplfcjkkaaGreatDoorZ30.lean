/- numValidate with a multipleOf. -/
import Derived.Deep.DeepCutAuto
import Derived.Test.YtpmggjplfcjkkaaGreatDoorZ29
import Derived.Test.YtpmggjplfcjkkaaGreatDoorZ20
import Derived.Test.YtpmggjplfcjkkaaGreatDoorZ01
set_option linter.unusedVariables false
set_option linter.unusedSimpArgs false
namespace Go.Proofs.YtpmggjplfcjkkaaGreatDoor
open Go.RowKit Nq
attribute [local go_sem] makeFun

/-- What numValidate works with. -/
structure Nv (w0 w : World) (vb sb scb ub lc lb yb nb xb : Nat) (S : ByteArray) (np : Option Addr) : Prop where
  v : Vd w vb S sb scb ub (some ⟨lb, 0, none⟩) lc (.slice none 0 0)
  s : Sch w sb none (some ⟨yb, 0, none⟩)
  c : Clo w nb xb np S
  fr : Fr [] w0 w
  nn : w0.heap.size ≤ nb
theorem Nv.fr0 {w0 w w' : World} {vb sb scb ub lc lb yb nb xb : Nat} {S : ByteArray} {np : Option Addr} (h : Nv w0 w vb sb scb ub lc lb yb nb xb S np) (hf : Fr [] w w') : Nv w0 w' vb sb scb ub lc lb yb nb xb S np :=
  ⟨h.v.fr hf (by simp) (by simp), h.s.fr hf (by simp), ⟨h.c.n.fr hf (by simp), h.c.x.fr hf (by simp), h.c.ne⟩, h.fr.trans hf, h.nn⟩
/-- The quotient is there. -/
structure Nq2 (w0 w : World) (vb sb scb ub lc lb yb nb xb xr zb : Nat) (S : ByteArray) (N D : Nat) : Prop where
  n : Nv w0 w vb sb scb ub lc lb yb nb xb S (some ⟨xr, 0, none⟩)
  z : ∃ ao bo na nb', RatIs w zb ao bo na nb' (N / Nat.gcd N D) (D / Nat.gcd N D)

def QAt (w0 w : World) (vb sb scb ub lc lb yb nb xb : Nat) (S : ByteArray) (N D : Nat) (v : Value) : Prop := ∃ xr zb, v = .pointer (some ⟨zb, 0, none⟩) ∧ Hid (Nq2 w0 w vb sb scb ub lc lb yb nb xb xr zb S N D)
/-- How numValidate ends. -/
def NumPost (w : World) (vb sb scb ub lc lb : Nat) (S : ByteArray) (ok : Bool) (e : Ending) (w' : World) : Prop :=
  if ok then e = .returned (.tuple #[]) ∧ Vd w' vb S sb scb ub (some ⟨lb, 0, none⟩) lc (.slice none 0 0) ∧ Fr [] w w'
  else ∃ kv, Noted w vb S sb scb ub lc lb 328 kv e w'

set_option maxRecDepth 100000 in
set_option maxHeartbeats 4000000 in
theorem numValidate_mult {S : ByteArray} {neg : Bool} {I F : List Nat} {dot : Bool} {ex : Int} {w : World} {vb sb scb ub lc lb yb : Nat} {yao ybo : Option Nat} {yna ynb : Bool} {yn yd : Nat} {xn xd : Nat}
    (N : NumT S neg I F dot ex) (hw : Wo w) (h : Vd w vb S sb scb ub (some ⟨lb, 0, none⟩) lc (.slice none 0 0)) (hs : Sch w sb none (some ⟨yb, 0, none⟩)) (hy : RatIs w yb yao ybo yna ynb yn yd)
    (hxn : xn = rn (dval (I ++ F)) (ex - F.length)) (hxd : xd = rd (dval (I ++ F)) (ex - F.length)) (xd0 : 0 < xd) (yd0 : 0 < yd) (yn0 : 0 < yn) (lxn : xn < Bw ^ 39) (lxd : xd < Bw ^ 39) (lyn : yn < Bw ^ 39) (lyd : yd < Bw ^ 39) (lN : xn * yd < Bw ^ 39) (lD : yn * xd < Bw ^ 39) :
    Calls Tryz.prog 85 #[.pointer (some ⟨vb, 0, none⟩), .iface 44 (.string S)] w (NumPost w vb sb scb ub lc lb S (decide (yn * xd / Nat.gcd (xn * yd) (yn * xd) = 1))) := by
  have hsz := hw.t.size
  have hs2 : (w.alloc (.cells #[.iface 44 (.string S)] 20)).heap.size = w.heap.size + 1 := size_alloc _ _
  have f0 : Fr [] w ((w.alloc (.cells #[.iface 44 (.string S)] 20)).alloc (.cells #[.pointer none] 42)) := ((Fr.refl _ _).alloc _).alloc _
  have f1 : Fr [] w (w.alloc (.cells #[.iface 44 (.string S)] 20)) := (Fr.refl _ _).alloc _
  have c2 : (w.alloc (.cells #[.iface 44 (.string S)] 20)).cell? ⟨vb, 2, none⟩ = some (.pointer (some ⟨sb, 0, none⟩)) := (h.v.fr f1 (by simp)).cell 2 rfl
  have hn1 : Nv w ((w.alloc (.cells #[.iface 44 (.string S)] 20)).alloc (.cells #[.pointer none] 42)) vb sb scb ub lc lb yb (w.heap.size + 1) w.heap.size S none := by
    refine ⟨h.fr f0 (by simp) (by simp), hs.fr f0 (by simp), ⟨?_, ?_, by omega⟩, f0, by omega⟩
    · have := Cells.new (w.alloc (.cells #[.iface 44 (.string S)] 20)) #[.pointer none] 42
      rwa [hs2] at this
    · exact (Cells.new w #[.iface 44 (.string S)] 20).fr ((Fr.refl [] _).alloc _) (by simp)
  have H136 : Hid (∀ w2, Nv w w2 vb sb scb ub lc lb yb (w.heap.size + 1) w.heap.size S none → Calls Tryz.prog 136 #[.pointer (some ⟨w.heap.size + 1, 0, none⟩), .pointer (some ⟨w.heap.size, 0, none⟩)] w2 fun e w3 => ∃ xr, e = .returned (.pointer (some ⟨xr, 0, none⟩)) ∧ w3.cell? ⟨sb, 57, none⟩ = some (.pointer (some ⟨yb, 0, none⟩)) ∧ Hid (Nv w w3 vb sb scb ub lc lb yb (w.heap.size + 1) w.heap.size S (some ⟨xr, 0, none⟩) ∧ (∃ ao bo na nb', RatIs w3 xr ao bo na nb' xn xd) ∧ Fr [w.heap.size + 1] w2 w3)) := by
    refine Lib.hid fun w2 hn => ?_
    refine (numFirst N (hw.fr0 hn.fr) hn.c).mono ?_
    rintro e w3 ⟨rfl, hh⟩
    obtain ⟨k1, ⟨ao, bo, nb', k2, k3, k4⟩, k5⟩ := hh.out
    have hvb := hn.v.v.lt
    have hsv := h.v.lt
    have hss : sb < w.heap.size := Cells.lt hs
    have hsc := h.s.lt
    have hs3 : Sch w3 sb none (some ⟨yb, 0, none⟩) := hn.s.fr k5 (by simp; omega)
    refine ⟨_, rfl, Cells.cell hs3 57 rfl, Lib.hid ⟨⟨hn.v.fr k5 (by simp; omega) (by simp; omega), hs3, k1, hn.fr.trans_new k5 (fun x hx => by simp at hx; subst hx; right; omega), hn.nn⟩, ⟨ao, bo, _, nb', by rw [hxn, hxd]; exact k2⟩, k5⟩⟩
  have HQ : Hid (∀ w3 xr zb, Nv w w3 vb sb scb ub lc lb yb (w.heap.size + 1) w.heap.size S (some ⟨xr, 0, none⟩) → (∃ ao bo na nb', RatIs w3 xr ao bo na nb' xn xd) → Cells w3 zb #[.bool false, .slice none 0 0, .bool false, .slice none 0 0] 101 → w.heap.size + 1 < zb → Calls Tryz.prog 137 #[.pointer (some ⟨zb, 0, none⟩), .pointer (some ⟨xr, 0, none⟩), .pointer (some ⟨yb, 0, none⟩)] w3 fun e w4 => e = .returned (.pointer (some ⟨zb, 0, none⟩)) ∧ w4.cell? ⟨sb, 57, none⟩ = some (.pointer (some ⟨yb, 0, none⟩)) ∧ Hid (Nq2 w w4 vb sb scb ub lc lb yb (w.heap.size + 1) w.heap.size xr zb S (xn * yd) (yn * xd))) := by
    refine Lib.hid fun w3 xr zb hn hx hz hzb => ?_
    obtain ⟨ao, bo, na, nb', hx⟩ := hx
    have hy3 := hy.fr hn.fr (by simp) (by simp) (by simp)
    refine (ratQuo hz hx hy3 xd0 yd0 yn0 lxn lxd lyn lyd lN lD (by omega) (hw.fr0 hn.fr).t).mono ?_
    rintro e w4 ⟨rfl, zo1, zo2, z3, z4, z5, z6⟩
    have hvb := h.v.lt
    have hss : sb < w.heap.size := Cells.lt hs
    have hsc := h.s.lt
    have hs4 : Sch w4 sb none (some ⟨yb, 0, none⟩) := hn.s.fr z6 (by simp; omega)
    refine ⟨rfl, Cells.cell hs4 57 rfl, Lib.hid ⟨⟨hn.v.fr z6 (by simp; omega) (by simp; omega), hs4, ⟨hn.c.n.fr z6 (by simp; omega), hn.c.x.fr z6 (by simp; omega), hn.c.ne⟩, hn.fr.trans_new z6 (fun x hx => by simp at hx; subst hx; right; omega), hn.nn⟩, _, _, _, _, z5⟩⟩
  have HQA : Hid (∀ w3 xr, (Nv w w3 vb sb scb ub lc lb yb (w.heap.size + 1) w.heap.size S (some ⟨xr, 0, none⟩) ∧ (∃ ao bo na nb', RatIs w3 xr ao bo na nb' xn xd)) → Calls Tryz.prog 137 #[.pointer (some ⟨w3.heap.size, 0, none⟩), .pointer (some ⟨xr, 0, none⟩), .pointer (some ⟨yb, 0, none⟩)] (w3.alloc ratNew) fun e w4 => e = .returned (.pointer (some ⟨w3.heap.size, 0, none⟩)) ∧ w4.cell? ⟨sb, 57, none⟩ = some (.pointer (some ⟨yb, 0, none⟩)) ∧ Hid (Nq2 w w4 vb sb scb ub lc lb yb (w.heap.size + 1) w.heap.size xr w3.heap.size S (xn * yd) (yn * xd))) := by
    refine Lib.hid fun w3 xr hh => ?_
    have f : Fr [] w3 (w3.alloc ratNew) := (Fr.refl _ _).alloc _
    obtain ⟨ao, bo, na, nb', hx⟩ := hh.2
    exact HQ.out _ xr _ (hh.1.fr0 f) ⟨ao, bo, na, nb', hx.fr f (by simp) (by simp) (by simp)⟩ (Cells.new w3 _ _) (by have := hh.1.c.n.lt; omega)
  have HQB : Hid (∀ w2 w3 xr, Nv w w2 vb sb scb ub lc lb yb (w.heap.size + 1) w.heap.size S none → (Nv w w3 vb sb scb ub lc lb yb (w.heap.size + 1) w.heap.size S (some ⟨xr, 0, none⟩) ∧ (∃ ao bo na nb', RatIs w3 xr ao bo na nb' xn xd) ∧ Fr [w.heap.size + 1] (w2.alloc ratNew).drew w3) → Calls Tryz.prog 137 #[.pointer (some ⟨w2.heap.size, 0, none⟩), .pointer (some ⟨xr, 0, none⟩), .pointer (some ⟨yb, 0, none⟩)] w3 fun e w4 => e = .returned (.pointer (some ⟨w2.heap.size, 0, none⟩)) ∧ w4.cell? ⟨sb, 57, none⟩ = some (.pointer (some ⟨yb, 0, none⟩)) ∧ Hid (Nq2 w w4 vb sb scb ub lc lb yb (w.heap.size + 1) w.heap.size xr w2.heap.size S (xn * yd) (yn * xd))) := by
    refine Lib.hid fun w2 w3 xr hn hh => ?_
    have := hn.c.n.lt
    exact HQ.out _ xr _ hh.1 hh.2.1 (((Cells.new w2 _ _).drewN 1).fr hh.2.2 (by simp; omega)) (by omega)
  have hDp : 0 < yn * xd := Nat.mul_pos yn0 xd0
  have HD : Hid (0 < yn * xd / Nat.gcd (xn * yd) (yn * xd)) := Lib.hid (Nat.div_pos (Nat.le_of_dvd hDp (Nat.gcd_dvd_right _ _)) (Nat.gcd_pos_of_pos_right _ hDp))
  clear hDp
  clear N hw h hs hy hxn hxd xd0 yd0 yn0 lxn lxd lyn lyd lN lD f0 f1 hs2 HQ hsz
  generalize xn * yd = Nn at *
  generalize yn * xd = Dd at *
  obtain ⟨xb, hxb⟩ : ∃ xb, w.heap.size = xb := ⟨_, rfl⟩
  rw [hxb] at hn1 H136 HQA HQB
  have s1 : ((w.alloc (.cells #[.iface 44 (.string S)] 20)).alloc (.cells #[.pointer none] 42)).cell? ⟨sb, 53, none⟩ = some (.pointer none) := Cells.cell hn1.s 53 rfl
  have s2 : ((w.alloc (.cells #[.iface 44 (.string S)] 20)).alloc (.cells #[.pointer none] 42)).cell? ⟨sb, 54, none⟩ = some (.pointer none) := Cells.cell hn1.s 54 rfl
  have s3 : ((w.alloc (.cells #[.iface 44 (.string S)] 20)).alloc (.cells #[.pointer none] 42)).cell? ⟨sb, 55, none⟩ = some (.pointer none) := Cells.cell hn1.s 55 rfl
  have s4 : ((w.alloc (.cells #[.iface 44 (.string S)] 20)).alloc (.cells #[.pointer none] 42)).cell? ⟨sb, 56, none⟩ = some (.pointer none) := Cells.cell hn1.s 56 rfl
  have s5 : ((w.alloc (.cells #[.iface 44 (.string S)] 20)).alloc (.cells #[.pointer none] 42)).cell? ⟨sb, 57, none⟩ = some (.pointer (some ⟨yb, 0, none⟩)) := Cells.cell hn1.s 57 rfl
  have HN1 := Lib.hid hn1
  clear hn1
  go_enter Tryz.func85, Tryz.ntmps85
  go_wp2_with fail
  clear hxb
  generalize World.alloc (World.alloc _ _) _ = w1 at *
  clear c2
  go_quiet (fail)
  go_wp2_with fail
  go_quiet (fail)
  go_wp2_with fail
  go_quiet (fail)
  go_wp2_with fail
  go_quiet (fail)
  have HN2 : Hid (∀ k, Nv w (w1.drewN k) vb sb scb ub lc lb yb (xb + 1) xb S none) := Lib.hid fun k => HN1.out.fr0 ((Fr.refl [] w1).drewN k)
  clear s1 s2 s3 s4
  go_upto_region 13 with fail
  clear s5
  generalize hw2 : World.drewN w1 _ = w2 at *
  have hn2 : Nv w w2 vb sb scb ub lc lb yb (xb + 1) xb S none := by rw [← hw2]; exact HN2.out _
  clear hw2 HN1 HN2
  have HN3 := Lib.hid hn2
  have s5 : w2.cell? ⟨sb, 57, none⟩ = some (.pointer (some ⟨yb, 0, none⟩)) := Cells.cell hn2.s 57 rfl
  clear hn2
  go_cut [7] from 122 to 129 (fun v7 wc => QAt w wc vb sb scb ub lc lb yb (xb + 1) xb S Nn Dd v7)
  case first =>
    have ka := H136.out w2.drew (HN3.out.fr0 ((Fr.refl [] w2).drewN 1))
    have kb := H136.out (w2.alloc ratNew).drew (HN3.out.fr0 (((Fr.refl [] w2).alloc _).drewN 1))
    go_region_held3 (fun w' => w'.cell? ⟨sb, 57, none⟩ = some (.pointer (some ⟨yb, 0, none⟩))) (first | exact s5 | exact q3 | exact q4 | go_keep) ((first | (go_at_call 136; (with_reducible refine ka.mono ?_); rintro e w3 ⟨xr, rfl, q3, HP⟩; have kq := HQA.out w3 xr ⟨HP.out.1, HP.out.2.1⟩) | (go_at_call 136; (with_reducible refine kb.mono ?_); rintro e w3 ⟨xr, rfl, q3, HP⟩; have kq := HQB.out w2 w3 xr HN3.out HP.out) | (go_at_call 137; (with_reducible refine kq.mono ?_); rintro e w4 ⟨rfl, q4, HR⟩)))
    all_goals (go_wp2_with fail; go_meet; exact ⟨_, _, rfl, HR⟩)
  case rest =>
    obtain ⟨xr, zb, rfl, HR⟩ := hcut
    obtain ⟨ao, bo, na, nb', hz⟩ := HR.out.z
    have hI : Calls Tryz.prog 127 #[.pointer (some ⟨zb, 0, none⟩)] wc fun e w' => e = .returned (.bool (decide (Dd / Nat.gcd Nn Dd = 1))) ∧ Hid (Nv w w' vb sb scb ub lc lb yb (xb + 1) xb S (some ⟨xr, 0, none⟩)) :=
      (ratIsInt hz HD.out).mono fun e w' hh => ⟨hh.1, Lib.hid (HR.out.n.fr0 hh.2)⟩
    have HT : Hid (decide (Dd / Nat.gcd Nn Dd = 1) = true → ∀ w', Nv w w' vb sb scb ub lc lb yb (xb + 1) xb S (some ⟨xr, 0, none⟩) → NumPost w vb sb scb ub lc lb S (decide (Dd / Nat.gcd Nn Dd = 1)) (.returned (.tuple #[])) w') :=
      Lib.hid fun hd w' hn => by unfold NumPost; rw [if_pos hd]; exact ⟨rfl, hn.v, hn.fr⟩
    have HE : Hid (decide (Dd / Nat.gcd Nn Dd = 1) = false → ∀ w', Nv w w' vb sb scb ub lc lb yb (xb + 1) xb S (some ⟨xr, 0, none⟩) → ∀ kv, Calls Tryz.prog 129 #[.pointer (some ⟨vb, 0, none⟩), .iface 328 kv] w' fun e w2 => e = .returned (.tuple #[]) ∧ w2.cell? ⟨sb, 57, none⟩ = some (.pointer (some ⟨yb, 0, none⟩)) ∧ Hid (NumPost w vb sb scb ub lc lb S (decide (Dd / Nat.gcd Nn Dd = 1)) (.returned (.tuple #[])) w2)) := by
      refine Lib.hid fun hd w' hn kv => (addError 328 kv hn.v hn.s).mono ?_
      rintro e w2 ⟨rfl, ab, c, eb, a, l, h1, h2, h3, h4⟩
      refine ⟨rfl, Cells.cell (hn.s.fr h4 (by simpa using hn.v.ne.2.1)) 57 rfl, Lib.hid ?_⟩
      unfold NumPost
      rw [if_neg (by rw [hd]; decide)]
      exact ⟨kv, rfl, ab, c, eb, a, l, h1, h2, h3, (hn.fr.mono (by simp)).trans h4⟩
    clear HR hz HN3 H136 HQA HQB HD s5
    generalize decide (Dd / Nat.gcd Nn Dd = 1) = ok at *
    cases ok with
    | true =>
      go_wp2_with (go_at_call 127; (with_reducible refine hI.mono ?_); rintro e w3 ⟨rfl, hn⟩; have HP := Lib.hid (HT.out rfl _ hn.out); clear hn hI)
      exact ⟨rfl, .tuple #[], results_none rfl _ _ _, HP.out⟩
    | false =>
      go_upto_region 15 with (go_at_call 127; (with_reducible refine hI.mono ?_); rintro e w3 ⟨rfl, hn⟩; clear hI)
      have f1 : Fr [] w3 w3.drew := (Fr.refl [] w3).drewN 1
      have kl := numLater (hn.out.fr0 f1).c
      have s5 : w3.cell? ⟨sb, 57, none⟩ = some (.pointer (some ⟨yb, 0, none⟩)) := Cells.cell hn.out.s 57 rfl
      have ke := HE.out (by trivial) (w3.alloc (.cells #[.pointer (some ⟨xr, 0, none⟩), .pointer (some ⟨yb, 0, none⟩)] 329)).drew (hn.out.fr0 (((Fr.refl [] w3).alloc _).drewN 1))
      clear f1 HT HE hn
      go_region_held3 (fun w' => w'.cell? ⟨sb, 57, none⟩ = some (.pointer (some ⟨yb, 0, none⟩))) (first | exact s5 | exact q5 | go_keep) ((first | (go_at_call 136; (with_reducible refine kl.mono ?_); rintro e w4 ⟨rfl, rfl⟩) | (go_at_call 129; (with_reducible refine (ke _).mono ?_); rintro e w5 ⟨rfl, q5, HP⟩)))
      all_goals exact ⟨rfl, .tuple #[], results_none rfl _ _ _, HP.out⟩
end Go.Proofs.YtpmggjplfcjkkaaGreatDoor

/- validator.validate with a multipleOf. -/
set_option linter.unusedVariables false
set_option linter.unusedSimpArgs false
namespace Go.Proofs.YtpmggjplfcjkkaaGreatDoor
open Go.RowKit Nq
attribute [local go_sem] as44 as44_61 as44_65 as44_9

/-- What the validator hands back: nothing, or an error of kind kt. -/
def ValPost (w : World) (vb ub : Nat) (kt : TypeId) (ok : Bool) (e : Ending) (w' : World) : Prop :=
  if ok then e = .returned (.tuple #[.pointer (some ⟨ub, 0, none⟩), .nilIface]) ∧ Fr [] w w'
  else ∃ eb a l kv, e = .returned (.tuple #[.pointer none, .iface 127 (.pointer (some ⟨eb, 0, none⟩))]) ∧ Cells w' eb #[.string ⟨#[]⟩, .slice a 0 l, .iface kt kv, .slice none 0 0] 131 ∧ Fr [vb] w w'

set_option maxRecDepth 100000 in
set_option maxHeartbeats 4000000 in
theorem vdMult_ok {S : ByteArray} {w : World} {vb sb scb ub lc lb yb : Nat} (h : Vd w vb S sb scb ub (some ⟨lb, 0, none⟩) lc (.slice none 0 0)) (hs : Sch w sb none (some ⟨yb, 0, none⟩))
    (hn : Calls Tryz.prog 85 #[.pointer (some ⟨vb, 0, none⟩), .iface 44 (.string S)] w (NumPost w vb sb scb ub lc lb S true)) :
    Calls Tryz.prog 52 #[.pointer (some ⟨vb, 0, none⟩)] w (ValPost w vb ub 328 true) := by
  have v0 := h.v.cell 0 rfl
  have v2 := h.v.cell 2 rfl
  have v3 := h.v.cell 3 rfl
  have s9 : w.cell? ⟨sb, 9, none⟩ = some (.pointer none) := Cells.cell hs 9 rfl
  have s17 : w.cell? ⟨sb, 17, none⟩ = some (.pointer none) := Cells.cell hs 17 rfl
  have s19 : w.cell? ⟨sb, 19, none⟩ = some (.pointer none) := Cells.cell hs 19 rfl
  have s18 : w.cell? ⟨sb, 18, none⟩ = some (.pointer none) := Cells.cell hs 18 rfl
  have s27 : w.cell? ⟨sb, 27, none⟩ = some (.pointer none) := Cells.cell hs 27 rfl
  have s11 : w.cell? ⟨sb, 11, none⟩ = some (.pointer none) := Cells.cell hs 11 rfl
  have h73 := checkCycle h.s
  have h58 := typeOf_num S w
  have H85 : Calls Tryz.prog 85 #[.pointer (some ⟨vb, 0, none⟩), .iface 44 (.string S)] w fun e w1 => e = .returned (.tuple #[]) ∧ w1.cell? ⟨vb, 5, none⟩ = some (.slice none 0 0) ∧ w1.cell? ⟨vb, 4, none⟩ = some (.pointer (some ⟨ub, 0, none⟩)) ∧ w1.cell? ⟨vb, 6, none⟩ = some (.bool false) ∧ w1.cell? ⟨sb, 7, none⟩ = some (.int .i64 2020) ∧
      Calls Tryz.prog 86 #[.pointer (some ⟨vb, 0, none⟩)] w1 (fun e w' => e = .returned (.tuple #[]) ∧ w1 = w') ∧ Calls Tryz.prog 87 #[.pointer (some ⟨vb, 0, none⟩)] w1 (fun e w' => e = .returned (.tuple #[]) ∧ w1 = w') ∧ Calls Tryz.prog 88 #[.pointer (some ⟨vb, 0, none⟩)] w1 (fun e w' => e = .returned (.tuple #[]) ∧ w1 = w') ∧ Hid (Fr [] w w1) := by
    refine hn.mono ?_
    intro e w1 hp
    unfold NumPost at hp
    rw [if_pos rfl] at hp
    obtain ⟨rfl, hv, hf⟩ := hp
    have hs1 := hs.fr hf (by simp)
    exact ⟨rfl, hv.v.cell 5 rfl, hv.v.cell 4 rfl, hv.v.cell 6 rfl, Cells.cell hs1 7 rfl, validateRefs hv hs1, condValidate hv hs1, unevalValidate hv hs1, Lib.hid hf⟩
  clear h hs hn
  go_enter Tryz.func52, Tryz.ntmps52
  go_wp2_with (first | (go_at_call 73; (with_reducible refine h73.mono ?_); rintro e w1 ⟨rfl, rfl⟩) | (go_at_call 58; (with_reducible refine h58.mono ?_); rintro e w1 ⟨rfl, rfl⟩) | (go_at_call 85; (with_reducible refine H85.mono ?_); rintro e w1 ⟨rfl, d5, d4, d6, d7, k86, k87, k88, HF⟩) | (go_at_call 86; (with_reducible refine k86.mono ?_); rintro e w2 ⟨rfl, rfl⟩) | (go_at_call 87; (with_reducible refine k87.mono ?_); rintro e w2 ⟨rfl, rfl⟩) | (go_at_call 88; (with_reducible refine k88.mono ?_); rintro e w2 ⟨rfl, rfl⟩))
  go_ret2
  exact (show ValPost w vb ub 328 true (.returned (.tuple #[.pointer (some ⟨ub, 0, none⟩), .nilIface])) w1 by unfold ValPost; rw [if_pos rfl]; exact ⟨rfl, HF.out⟩)

set_option maxRecDepth 100000 in
set_option maxHeartbeats 4000000 in
theorem vdMult_bad {S : ByteArray} {w : World} {vb sb scb ub lc lb yb : Nat} (h : Vd w vb S sb scb ub (some ⟨lb, 0, none⟩) lc (.slice none 0 0)) (hs : Sch w sb none (some ⟨yb, 0, none⟩))
    (hn : Calls Tryz.prog 85 #[.pointer (some ⟨vb, 0, none⟩), .iface 44 (.string S)] w (NumPost w vb sb scb ub lc lb S false)) :
    Calls Tryz.prog 52 #[.pointer (some ⟨vb, 0, none⟩)] w (ValPost w vb ub 328 false) := by
  have v0 := h.v.cell 0 rfl
  have v2 := h.v.cell 2 rfl
  have v3 := h.v.cell 3 rfl
  have s9 : w.cell? ⟨sb, 9, none⟩ = some (.pointer none) := Cells.cell hs 9 rfl
  have s17 : w.cell? ⟨sb, 17, none⟩ = some (.pointer none) := Cells.cell hs 17 rfl
  have s19 : w.cell? ⟨sb, 19, none⟩ = some (.pointer none) := Cells.cell hs 19 rfl
  have s18 : w.cell? ⟨sb, 18, none⟩ = some (.pointer none) := Cells.cell hs 18 rfl
  have s27 : w.cell? ⟨sb, 27, none⟩ = some (.pointer none) := Cells.cell hs 27 rfl
  have s11 : w.cell? ⟨sb, 11, none⟩ = some (.pointer none) := Cells.cell hs 11 rfl
  have h73 := checkCycle h.s
  have h58 := typeOf_num S w
  have H85 : Calls Tryz.prog 85 #[.pointer (some ⟨vb, 0, none⟩), .iface 44 (.string S)] w fun e w1 => ∃ ab c eb, e = .returned (.tuple #[]) ∧ w1.cell? ⟨vb, 5, none⟩ = some (.slice (some ⟨ab, 0, none⟩) 1 c) ∧ w1.cell? ⟨ab, 0, none⟩ = some (.pointer (some ⟨eb, 0, none⟩)) ∧ w1.cell? ⟨vb, 6, none⟩ = some (.bool false) ∧ w1.cell? ⟨sb, 7, none⟩ = some (.int .i64 2020) ∧
      Calls Tryz.prog 86 #[.pointer (some ⟨vb, 0, none⟩)] w1 (fun e w' => e = .returned (.tuple #[]) ∧ w1 = w') ∧ Calls Tryz.prog 87 #[.pointer (some ⟨vb, 0, none⟩)] w1 (fun e w' => e = .returned (.tuple #[]) ∧ w1 = w') ∧ Calls Tryz.prog 88 #[.pointer (some ⟨vb, 0, none⟩)] w1 (fun e w' => e = .returned (.tuple #[]) ∧ w1 = w') ∧ Hid (∀ k, ValPost w vb ub 328 false (.returned (.tuple #[.pointer none, .iface 127 (.pointer (some ⟨eb, 0, none⟩))])) (w1.drewN k)) := by
    refine hn.mono ?_
    intro e w1 hp
    unfold NumPost at hp
    rw [if_neg (by decide)] at hp
    obtain ⟨kv, rfl, ab, c, eb, a, l, hv, hc, he, hf⟩ := hp
    have hs1 := hs.fr hf (by simpa using h.ne.2.1)
    refine ⟨ab, c, eb, rfl, hv.v.cell 5 rfl, hc, hv.v.cell 6 rfl, Cells.cell hs1 7 rfl, validateRefs hv hs1, condValidate hv hs1, unevalValidate hv hs1, Lib.hid fun k => ?_⟩
    unfold ValPost
    rw [if_neg (by decide)]
    exact ⟨eb, a, l, kv, rfl, he.drewN k, hf.drewN k⟩
  clear h hs hn
  go_enter Tryz.func52, Tryz.ntmps52
  go_wp2_with (first | (go_at_call 73; (with_reducible refine h73.mono ?_); rintro e w1 ⟨rfl, rfl⟩) | (go_at_call 58; (with_reducible refine h58.mono ?_); rintro e w1 ⟨rfl, rfl⟩) | (go_at_call 85; (with_reducible refine H85.mono ?_); rintro e w1 ⟨ab, c, eb, rfl, d5, d4, d6, d7, k86, k87, k88, HF⟩) | (go_at_call 86; (with_reducible refine k86.mono ?_); rintro e w2 ⟨rfl, rfl⟩) | (go_at_call 87; (with_reducible refine k87.mono ?_); rintro e w2 ⟨rfl, rfl⟩) | (go_at_call 88; (with_reducible refine k88.mono ?_); rintro e w2 ⟨rfl, rfl⟩))
  go_quiet (fail)
  go_wp2_with fail
  go_ret2
  exact HF.out _
end Go.Proofs.YtpmggjplfcjkkaaGreatDoor
