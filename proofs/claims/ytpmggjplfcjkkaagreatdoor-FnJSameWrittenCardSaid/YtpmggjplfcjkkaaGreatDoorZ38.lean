/- Rat.Cmp. -/
import Derived.Deep.RegionWith
import Derived.Deep.RegionHeld3
import Derived.Test.YtpmggjplfcjkkaaGreatDoorZ19
import Derived.Test.YtpmggjplfcjkkaaGreatDoorZ32
set_option linter.unusedVariables false
set_option linter.unusedSimpArgs false
namespace Go.Proofs.YtpmggjplfcjkkaaGreatDoor
open Go.RowKit Nq

set_option maxRecDepth 100000 in
set_option maxHeartbeats 8000000 in
/-- Rat.Cmp compares crosswise. -/
theorem ratCmp {xb yb : Nat} {xao xbo yao ybo : Option Nat} {xna xnb yna ynb : Bool} {xn xd yn yd : Nat} {w : World} (hx : RatIs w xb xao xbo xna xnb xn xd) (hy : RatIs w yb yao ybo yna ynb yn yd)
    (xd0 : 0 < xd) (yd0 : 0 < yd) (lxn : xn < Bw ^ 39) (lxd : xd < Bw ^ 39) (lyn : yn < Bw ^ 39) (lyd : yd < Bw ^ 39) (hT : Th w) :
    Calls Tryz.prog 23 #[.pointer (some ⟨xb, 0, none⟩), .pointer (some ⟨yb, 0, none⟩)] w fun e w' => e = .returned (.int .i64 (icmp xna (xn * yd) yna (yn * xd))) ∧ Fr [] w w' := by
  obtain ⟨xa, xl, xc, xa', xl', xc', x0, x1, x2, x3, xi1, xi2, xe1, xe2, xl1, xl2⟩ := hx.cells
  obtain ⟨ya, yl, yc, ya', yl', yc', y0, y1, y2, y3, yi1, yi2, ye1, ye2, yl1, yl2⟩ := hy.cells
  have hxlt := hx.lt.1
  have hylt := hy.lt.1
  have hgs : Calls Tryz.prog 40 #[] ((w.alloc (.cells #[.bool false, .slice none 0 0] 99)).alloc (.cells #[.bool false, .slice none 0 0] 99)) fun e w' => e = .returned (.pointer (some ⟨w.heap.size + 1 + 1, 0, none⟩)) ∧ w' = ((w.alloc (.cells #[.bool false, .slice none 0 0] 99)).alloc (.cells #[.bool false, .slice none 0 0] 99)).alloc (.cells #[.pointer none] 139) := by
    have := getStack ((w.alloc intNew).alloc intNew)
    rw [size_alloc, size_alloc] at this
    exact this
  have hQ : Hid (Qs w (((w.alloc intNew).alloc intNew).alloc (.cells #[.pointer none] 139)) (w.heap.size + 1 + 1) ⟨w.heap.size, none, false, 0⟩ ⟨w.heap.size + 1, none, false, 0⟩) := Qs.startC w
  have H1 : Hid (∀ w3, Qs w w3 (w.heap.size + 1 + 1) ⟨w.heap.size, none, false, 0⟩ ⟨w.heap.size + 1, none, false, 0⟩ → w3.cell? ⟨yb, 3, none⟩ = some (.slice ya' yl' yc') ∧ Calls Tryz.prog 42 #[.pointer (some ⟨w.heap.size, 0, none⟩), .pointer (some ⟨w.heap.size + 1 + 1, 0, none⟩), .pointer (some ⟨xb, 0, none⟩), .slice ya' yl' yc'] w3.drew fun e w' => e = .returned (.tuple #[]) ∧ Hid (∃ o', Qs w w' (w.heap.size + 1 + 1) ⟨w.heap.size, o', xna, xn * yd⟩ ⟨w.heap.size + 1, none, false, 0⟩)) :=
    Lib.hid fun w3 h => ⟨(cell_fr h.fr hylt (by simp)).trans y3, h.scale hx.rda yi2 yd0 lxn lyd hT⟩
  have H2 : Hid (∀ w4 o', Qs w w4 (w.heap.size + 1 + 1) ⟨w.heap.size, o', xna, xn * yd⟩ ⟨w.heap.size + 1, none, false, 0⟩ → w4.cell? ⟨xb, 3, none⟩ = some (.slice xa' xl' xc') ∧ Calls Tryz.prog 42 #[.pointer (some ⟨w.heap.size + 1, 0, none⟩), .pointer (some ⟨w.heap.size + 1 + 1, 0, none⟩), .pointer (some ⟨yb, 0, none⟩), .slice xa' xl' xc'] w4.drew fun e w' => e = .returned (.tuple #[]) ∧ Hid (∃ o2, Qs w w' (w.heap.size + 1 + 1) ⟨w.heap.size + 1, o2, yna, yn * xd⟩ ⟨w.heap.size, o', xna, xn * yd⟩)) :=
    Lib.hid fun w4 o' h => ⟨(cell_fr h.fr hxlt (by simp)).trans x3, h.swap.scale hy.rda xi2 xd0 lyn lxd hT⟩
  have H3 : Hid (∀ w5 o1 o2, Qs w w5 (w.heap.size + 1 + 1) ⟨w.heap.size + 1, o2, yna, yn * xd⟩ ⟨w.heap.size, o1, xna, xn * yd⟩ → Calls Tryz.prog 43 #[.pointer (some ⟨w.heap.size, 0, none⟩), .pointer (some ⟨w.heap.size + 1, 0, none⟩)] w5 fun e w' => e = .returned (.int .i64 (icmp xna (xn * yd) yna (yn * xd))) ∧ StkK w' (w.heap.size + 1 + 1) 0 [w.heap.size + 1 + 1] ∧ Hid (∀ w8, Fr [w.heap.size + 1 + 1] w' w8 → Fr [] w w8)) := by
    refine Lib.hid ?_
    intro w5 o1 o2 h
    refine (intCmp h.ib.rd h.ia.rd (by simp)).mono ?_
    rintro e w' ⟨rfl, k, rfl⟩
    exact ⟨rfl, h.st.fr ((Fr.refl [] _).drewN k) (by simp), Lib.hid fun w8 h8 => (h.fr.drewN k).trans_new h8 (by intro x hx; simp at hx; right; omega)⟩
  obtain ⟨s, hs⟩ : ∃ s, w.heap.size = s := ⟨_, rfl⟩
  rw [hs] at hgs hQ H1 H2 H3
  generalize icmp xna (xn * yd) yna (yn * xd) = r at *
  generalize xn * yd = N at *
  generalize yn * xd = D at *
  clear hx hy xd0 yd0 lxn lxd lyn lyd hT xi1 xi2 xe1 xe2 xl1 xl2 yi1 yi2 ye1 ye2 yl1 yl2 hxlt hylt x0 x1 x2 x3 y0 y1 y2 y3
  go_enter_defers Tryz.func23, Tryz.ntmps23
  go_wp2_with (go_at_call 40; (with_reducible refine hgs.mono ?_); rintro e w1 ⟨rfl, rfl⟩; clear hgs)
  generalize World.alloc (World.alloc _ _) _ = w3 at *
  obtain ⟨d1, k1⟩ := H1.out w3 hQ.out
  clear H1 hQ
  refine wp_region_noPanic ?_
  go_region_with (go_at_call 42; (with_reducible refine k1.mono ?_); rintro e w4 ⟨rfl, HQ⟩)
  all_goals refine NoPanic.normal ?_
  all_goals clear k1 d1
  obtain ⟨o1, hq⟩ := HQ.out
  obtain ⟨d2, k1⟩ := H2.out w4 o1 hq
  clear H2 HQ hq
  go_wp2_with fail
  refine wp_region_noPanic ?_
  go_region_with (go_at_call 42; (with_reducible refine k1.mono ?_); rintro e w5 ⟨rfl, HQ⟩)
  all_goals refine NoPanic.normal ?_
  all_goals clear k1 d2
  obtain ⟨o2, hq⟩ := HQ.out
  have H4 := Lib.hid (H3.out w5 o1 o2 hq)
  clear H3 HQ hq
  go_wp2_with (go_at_call 43; (with_reducible refine H4.out.mono ?_); rintro e w6 ⟨rfl, hst, HP⟩)
  refine leaves_cons (f := 41) (args := #[.pointer (some ⟨s + 1 + 1, 0, none⟩)]) (by simp) (by simp [go_sem]) ?_
  refine (stkFree_d .returning hst).mono ?_
  rintro e u' w8 ⟨rfl, rfl, k2⟩
  exact ⟨.int .i64 r, by simp [results, Tryz.results23, go_sem], rfl, HP.out w8 k2⟩
end Go.Proofs.YtpmggjplfcjkkaaGreatDoor

/- impl.JLess of two texts of one number. -/
set_option linter.unusedVariables false
set_option linter.unusedSimpArgs false
namespace Go.Proofs.YtpmggjplfcjkkaaGreatDoor
open Go.RowKit Nq

theorem icmp_same (s : Bool) (n : Nat) : icmp s n s n = 0 := by
  unfold icmp cmpW
  cases s <;> simp
/-- A number: sign, numerator, denominator, both below ten to the 200. -/
structure NumIs (S : ByteArray) (ng : Bool) (n d : Nat) : Prop where
  rat : ∀ w, Wo w → Calls Tryz.prog 17 #[.string S] w (RatPost w ng n d)
  set : ∀ w, Wo w → Calls Tryz.prog 50 #[.pointer (some ⟨w.heap.size, 0, none⟩), .string S] (w.alloc ratNew) fun e w' => e = .returned (.tuple #[.pointer (some ⟨w.heap.size, 0, none⟩), .bool true]) ∧ NewRat w w.heap.size ng n d w'
  d0 : 0 < d
  n1 : n ≤ 10 ^ 200
  d1 : d ≤ 10 ^ 200
theorem NumT.is {S : ByteArray} {neg : Bool} {I F : List Nat} {dot : Bool} {ex : Int} (N : NumT S neg I F dot ex) : NumIs S (neg && dval (I ++ F) != 0) (rn (dval (I ++ F)) (ex - F.length)) (rd (dval (I ++ F)) (ex - F.length)) :=
  ⟨fun w h => wholeRat N h, fun w h => newRat N h, rd_pos _ _, N.rat_le.1, N.rat_le.2⟩

set_option maxRecDepth 100000 in
set_option maxHeartbeats 4000000 in
theorem implLess {A B : ByteArray} {ng : Bool} {n d : Nat} {w : World} (NA : NumIs A ng n d) (NB : NumIs B ng n d) (hw : Wo w) :
    Calls Tryz.prog 11 #[.string A, .string B] w fun e w' => e = .returned (.tuple #[.bool false, .bool true]) ∧ Fr [] w w' := by
  have hA := NA.rat w hw
  have HB : Hid (∀ w1, Fr [] w w1 → Calls Tryz.prog 17 #[.string B] w1 (RatPost w1 ng n d)) := Lib.hid fun w1 f => NB.rat w1 (hw.fr0 f)
  have hn := (ten200 NA.n1 NA.n1).1
  have hd := (ten200 NA.d1 NA.d1).1
  have HC : Hid (∀ w1 w2 xb yb, NewRat w xb ng n d w1 → NewRat w1 yb ng n d w2 → Calls Tryz.prog 23 #[.pointer (some ⟨xb, 0, none⟩), .pointer (some ⟨yb, 0, none⟩)] w2 fun e w' => e = .returned (.int .i64 0) ∧ Hid (Fr [] w w')) := by
    refine Lib.hid fun w1 w2 xb yb hx hy => ?_
    obtain ⟨ao, bo, nb, hx1, -, -⟩ := hx.is
    obtain ⟨ao', bo', nb', hy1, -, -⟩ := hy.is
    have f2 := hx.fr.trans hy.fr
    have h := ratCmp (hx1.fr hy.fr (by simp) (by simp) (by simp)) hy1 NA.d0 NA.d0 hn hd hn hd (hw.fr0 f2).t
    rw [icmp_same] at h
    exact h.mono fun e w' hh => ⟨hh.1, Lib.hid (f2.trans hh.2)⟩
  clear NA NB hw hn hd
  go_enter Tryz.func11, Tryz.ntmps11
  go_upto_region 2 with (first | (go_at_call 17; (with_reducible refine hA.mono ?_); rintro e w1 ⟨xb, rfl, hx⟩; have hB := HB.out w1 hx.fr; have HX := Lib.hid hx; clear hx hA) | (go_at_call 17; (with_reducible refine hB.mono ?_); rintro e w2 ⟨yb, rfl, hy⟩; have HYY := Lib.hid hy; clear hy hB))
  have h23 := HC.out _ _ _ _ HX.out HYY.out
  clear HB HC HX HYY
  go_wp2_with (go_at_call 23; (with_reducible refine h23.mono ?_); rintro e w3 ⟨rfl, HF⟩)
  go_ret2
  exact ⟨rfl, HF.out⟩
end Go.Proofs.YtpmggjplfcjkkaaGreatDoor

/- jsonwhole.Equals of two numbers; impl.JSame. -/
set_option linter.unusedVariables false
set_option linter.unusedSimpArgs false
namespace Go.Proofs.YtpmggjplfcjkkaaGreatDoor
open Go.RowKit Nq

/-- A value that is a number of this text. -/
abbrev jv (S : ByteArray) : Array Value := #[.int .i64 2, .bool false, .int .i64 0, .string S, .slice none 0 0, .slice none 0 0]
set_option maxRecDepth 100000 in
set_option maxHeartbeats 1000000 in
theorem lawNumber (S : ByteArray) (w : World) : Calls Tryz.prog 13 #[.string S] w fun e w' => e = .returned (.agg (jv S)) ∧ w.alloc (.cells (jv S) 33) = w' := by
  go_enter Tryz.func13, Tryz.ntmps13
  go_wp2_with fail
  exact bodyPost_ret (v := .agg (jv S)) (by simp [results, Tryz.results13, go_sem]) rfl ⟨rfl, rfl⟩
set_option maxRecDepth 100000 in
set_option maxHeartbeats 1000000 in
theorem numberOf (S : ByteArray) (h : 0 < S.size) (w : World) : Calls Tryz.prog 45 #[.agg (jv S)] w fun e w' => e = .returned (.string S) ∧ w.alloc (.cells (jv S) 33) = w' := by
  have hE := notEmpty_of h
  have hE' := some_toList h
  go_enter Tryz.func45, Tryz.ntmps45
  go_wp2_with fail
  go_ret
  exact ⟨rfl, rfl⟩
set_option maxRecDepth 100000 in
set_option maxHeartbeats 1000000 in
theorem wholeOf (S : ByteArray) (h : 0 < S.size) (w : World) : Calls Tryz.prog 25 #[.agg (jv S)] w fun e w' => e = .returned (.iface 44 (.string S)) ∧ Fr [] w w' := by
  have h45 := fun w1 => numberOf S h w1
  have f : Fr [] w ((w.alloc (.cells (jv S) 33)).alloc (.cells (jv S) 33)) := ((Fr.refl _ _).alloc _).alloc _
  have HF := Lib.hid f
  clear f
  go_enter Tryz.func25, Tryz.ntmps25
  go_wp2_with (go_at_call 45; (with_reducible refine (h45 _).mono ?_); rintro e w1 ⟨rfl, rfl⟩)
  go_ret
  exact ⟨rfl, HF.out⟩

theorem iface20 (w : World) (v : Value) : (binOp .eql 20 (.iface 44 v) .nilIface).run Tryz.prog w = .ok (.bool false) w := by kernel_rfl
attribute [local go_sem] as44 as44_61 as44_65 as44_4 as44_9 iface20
set_option maxRecDepth 100000 in
set_option maxHeartbeats 8000000 in
theorem equalsNum {A B : ByteArray} {ng : Bool} {n d : Nat} {w : World} (NA : NumIs A ng n d) (NB : NumIs B ng n d) (hw : Wo w) :
    Calls Tryz.prog 44 #[.iface 44 (.string A), .iface 44 (.string B)] w fun e w' => e = .returned (.tuple #[.bool true, .nilIface]) ∧ Fr [] w w' := by
  have hA := NA.set w hw
  have HB : Hid (∀ w1, Fr [] w w1 → Calls Tryz.prog 50 #[.pointer (some ⟨w1.heap.size, 0, none⟩), .string B] (w1.alloc ratNew) fun e w' => e = .returned (.tuple #[.pointer (some ⟨w1.heap.size, 0, none⟩), .bool true]) ∧ NewRat w1 w1.heap.size ng n d w') := Lib.hid fun w1 f => NB.set w1 (hw.fr0 f)
  have hn := (ten200 NA.n1 NA.n1).1
  have hd := (ten200 NA.d1 NA.d1).1
  have HC : Hid (∀ w1 w2 xb yb, NewRat w xb ng n d w1 → NewRat w1 yb ng n d w2 → Calls Tryz.prog 23 #[.pointer (some ⟨xb, 0, none⟩), .pointer (some ⟨yb, 0, none⟩)] w2 fun e w' => e = .returned (.int .i64 0) ∧ Hid (Fr [] w w')) := by
    refine Lib.hid fun w1 w2 xb yb hx hy => ?_
    obtain ⟨ao, bo, nb, hx1, -, -⟩ := hx.is
    obtain ⟨ao', bo', nb', hy1, -, -⟩ := hy.is
    have f2 := hx.fr.trans hy.fr
    have h := ratCmp (hx1.fr hy.fr (by simp) (by simp) (by simp)) hy1 NA.d0 NA.d0 hn hd hn hd (hw.fr0 f2).t
    rw [icmp_same] at h
    exact h.mono fun e w' hh => ⟨hh.1, Lib.hid (f2.trans hh.2)⟩
  have h58 := fun w1 => typeOf_num B w1
  have h59a := fun w1 => numText_num A w1
  have h59b := fun w1 => numText_num B w1
  clear NA NB hw hn hd
  go_enter Tryz.func44, Tryz.ntmps44
  go_upto_region 48 with (first | (go_at_call 58; (with_reducible refine (h58 _).mono ?_); rintro e w1 ⟨rfl, rfl⟩) | (go_at_call 59; (with_reducible refine (h59a _).mono ?_); rintro e w1 ⟨rfl, rfl⟩) | (go_at_call 50; (with_reducible refine hA.mono ?_); rintro e w1 ⟨rfl, hx⟩; have hB := HB.out w1 hx.fr; have HX := Lib.hid hx; clear hx hA))
  go_upto_region 49 with (first | (go_at_call 59; (with_reducible refine (h59b _).mono ?_); rintro e w2 ⟨rfl, rfl⟩) | (go_at_call 50; (with_reducible refine hB.mono ?_); rintro e w2 ⟨rfl, hy⟩; have HYY := Lib.hid hy; clear hy hB))
  have h23 := HC.out _ _ _ _ HX.out HYY.out
  clear HB HC HX HYY
  go_wp2_with (go_at_call 23; (with_reducible refine h23.mono ?_); rintro e w3 ⟨rfl, HF⟩)
  go_ret2
  exact ⟨rfl, HF.out⟩
set_option maxRecDepth 100000 in
set_option maxHeartbeats 1000000 in
theorem EqualsNum {A B : ByteArray} {ng : Bool} {n d : Nat} {w : World} (NA : NumIs A ng n d) (NB : NumIs B ng n d) (hw : Wo w) :
    Calls Tryz.prog 24 #[.iface 44 (.string A), .iface 44 (.string B)] w fun e w' => e = .returned (.tuple #[.bool true, .nilIface]) ∧ Fr [] w w' := by
  have h44 := equalsNum NA NB hw
  clear NA NB hw
  go_enter Tryz.func24, Tryz.ntmps24
  go_wp2_with (go_at_call 44; (with_reducible refine h44.mono ?_); rintro e w1 ⟨rfl, hf⟩; have HF := Lib.hid hf; clear hf)
  go_ret2
  exact ⟨rfl, HF.out⟩
set_option maxRecDepth 100000 in
set_option maxHeartbeats 8000000 in
/-- impl.JSame of two numbers. -/
theorem implSame {A B : ByteArray} {ng : Bool} {n d : Nat} {w : World} (NA : NumIs A ng n d) (NB : NumIs B ng n d) (hA : 0 < A.size) (hB : 0 < B.size) (hw : Wo w) :
    Calls Tryz.prog 12 #[.agg (jv A), .agg (jv B)] w fun e w' => e = .returned (.bool true) ∧ Fr [] w w' := by
  have H25 : Hid ((∀ w1, Calls Tryz.prog 25 #[.agg (jv A)] w1 fun e w' => e = .returned (.iface 44 (.string A)) ∧ Fr [] w1 w') ∧ ∀ w1, Calls Tryz.prog 25 #[.agg (jv B)] w1 fun e w' => e = .returned (.iface 44 (.string B)) ∧ Fr [] w1 w') := Lib.hid ⟨fun w1 => wholeOf A hA w1, fun w1 => wholeOf B hB w1⟩
  have H24 : Hid (∀ w1, Fr [] w w1 → Calls Tryz.prog 24 #[.iface 44 (.string A), .iface 44 (.string B)] w1 fun e w' => e = .returned (.tuple #[.bool true, .nilIface]) ∧ Hid (Fr [] w w')) := Lib.hid fun w1 f => (EqualsNum NA NB (hw.fr0 f)).mono fun e w' h => ⟨h.1, Lib.hid (f.trans h.2)⟩
  have HC : Hid (∀ w1, Fr [] ((w.alloc (.cells (jv A) 33)).alloc (.cells (jv B) 33)).drew w1 → w1.cell? ⟨w.heap.size + 1, 0, none⟩ = some (.int .i64 2) ∧ w1.cell? ⟨w.heap.size + 1, 1, none⟩ = some (.bool false) ∧ w1.cell? ⟨w.heap.size + 1, 2, none⟩ = some (.int .i64 0) ∧ w1.cell? ⟨w.heap.size + 1, 3, none⟩ = some (.string B) ∧ w1.cell? ⟨w.heap.size + 1, 4, none⟩ = some (.slice none 0 0) ∧ w1.cell? ⟨w.heap.size + 1, 5, none⟩ = some (.slice none 0 0) ∧ Fr [] w w1) := Lib.hid fun w1 hf => by
    have hc := Cells.new (w.alloc (.cells (jv A) 33)) (jv B) 33
    rw [size_alloc] at hc
    have hc1 := (hc.drewN 1).fr hf (by simp)
    exact ⟨hc1.cell 0 rfl, hc1.cell 1 rfl, hc1.cell 2 rfl, hc1.cell 3 rfl, hc1.cell 4 rfl, hc1.cell 5 rfl, (((Fr.refl [] w).alloc _).alloc _).drew.trans hf⟩
  obtain ⟨HA, HB⟩ := H25.out
  clear H25
  clear NA NB hw hA hB
  go_enter Tryz.func12, Tryz.ntmps12
  go_wp2_with fail
  go_region_with (first | (go_at_call 25; (with_reducible refine (HA _).mono ?_); rintro e w1 ⟨rfl, hf⟩; obtain ⟨c0, c1, c2, c3, c4, c5, hg⟩ := HC.out _ hf; have HG := Lib.hid hg; clear hf hg) | (go_at_call 25; (with_reducible refine (HB _).mono ?_); rintro e w2 ⟨rfl, hf⟩; have k24 := H24.out _ (HG.out.trans hf); clear hf) | (go_at_call 24; (with_reducible refine k24.mono ?_); rintro e w3 ⟨rfl, HF⟩))
  all_goals go_wp2_with fail
  all_goals go_ret
  all_goals exact ⟨rfl, HF.out⟩
end Go.Proofs.YtpmggjplfcjkkaaGreatDoor

/- The type "integer" of a schema. -/
set_option linter.unusedVariables false
set_option linter.unusedSimpArgs false
namespace Go.Proofs.YtpmggjplfcjkkaaGreatDoor
open Go.RowKit Nq

set_option maxRecDepth 100000 in
theorem typesEmpty (w : World) : Calls Tryz.prog 75 #[.int .i64 16] w fun e w' => e = .returned (.bool false) ∧ w = w' := by
  go_enter Tryz.func75, Tryz.ntmps75
  go_wp2_with fail
  go_ret
  exact ⟨rfl, rfl⟩
theorem and16 (w : World) : (binOp .and 3 (.int .i64 16) (.int .i64 16)).run Tryz.prog w = .ok (.int .i64 16) w := by kernel_rfl
theorem and2 (w : World) : (binOp .and 3 (.int .i64 16) (.int .i64 2)).run Tryz.prog w = .ok (.int .i64 0) w := by kernel_rfl
theorem and4 (w : World) : (binOp .and 3 (.int .i64 16) (.int .i64 4)).run Tryz.prog w = .ok (.int .i64 0) w := by kernel_rfl
theorem and8 (w : World) : (binOp .and 3 (.int .i64 16) (.int .i64 8)).run Tryz.prog w = .ok (.int .i64 0) w := by kernel_rfl
theorem and32 (w : World) : (binOp .and 3 (.int .i64 16) (.int .i64 32)).run Tryz.prog w = .ok (.int .i64 0) w := by kernel_rfl
theorem and64 (w : World) : (binOp .and 3 (.int .i64 16) (.int .i64 64)).run Tryz.prog w = .ok (.int .i64 0) w := by kernel_rfl
theorem and128 (w : World) : (binOp .and 3 (.int .i64 16) (.int .i64 128)).run Tryz.prog w = .ok (.int .i64 0) w := by kernel_rfl
theorem or16 (w : World) : (binOp .or 3 (.int .i64 0) (.int .i64 16)).run Tryz.prog w = .ok (.int .i64 16) w := by kernel_rfl
attribute [local go_sem] and16 and2 and4 and8 and32 and64 and128 or16
set_option maxRecDepth 100000 in
theorem typesYes (w : World) : Calls Tryz.prog 76 #[.int .i64 16, .int .i64 16] w fun e w' => e = .returned (.bool true) ∧ w = w' := by
  go_enter Tryz.func76, Tryz.ntmps76
  go_wp2_with fail
  go_ret
  exact ⟨rfl, rfl⟩
set_option maxRecDepth 100000 in
theorem typesNo (t : Int) (h : t = 2 ∨ t = 4 ∨ t = 8 ∨ t = 32 ∨ t = 64 ∨ t = 128) (w : World) : Calls Tryz.prog 76 #[.int .i64 16, .int .i64 t] w fun e w' => e = .returned (.bool false) ∧ w = w' := by
  rcases h with rfl | rfl | rfl | rfl | rfl | rfl
  all_goals
    go_enter Tryz.func76, Tryz.ntmps76
    go_wp2_with fail
    go_ret
    exact ⟨rfl, rfl⟩
set_option maxRecDepth 100000 in
theorem typeText8 (w : World) : Calls Tryz.prog 78 #[.int .i64 8] w fun e w' => e = .returned (.string ⟨#[110, 117, 109, 98, 101, 114]⟩) ∧ w = w' := by
  go_enter Tryz.func78, Tryz.ntmps78
  go_wp2_with fail
  go_ret
  exact ⟨rfl, rfl⟩
set_option maxRecDepth 100000 in
theorem typeText16 (w : World) : Calls Tryz.prog 78 #[.int .i64 16] w fun e w' => e = .returned (.string ⟨#[105, 110, 116, 101, 103, 101, 114]⟩) ∧ w = w' := by
  go_enter Tryz.func78, Tryz.ntmps78
  go_wp2_with fail
  go_ret
  exact ⟨rfl, rfl⟩
set_option maxRecDepth 100000 in
theorem typeFrom (w : World) : Calls Tryz.prog 39 #[.string ⟨#[105, 110, 116, 101, 103, 101, 114]⟩] w fun e w' => e = .returned (.int .i64 16) ∧ w = w' := by
  go_enter Tryz.func39, Tryz.ntmps39
  go_wp2_with fail
  go_ret
  exact ⟨rfl, rfl⟩
set_option maxRecDepth 100000 in
theorem typesAddOne {w : World} {tb : Nat} (h : Cells w tb #[.int .i64 0] 73) : Calls Tryz.prog 38 #[.pointer (some ⟨tb, 0, none⟩), .int .i64 16] w fun e w' => e = .returned (.tuple #[]) ∧ w.setCell ⟨tb, 0, none⟩ (.int .i64 16) = w' := by
  have c0 := h.cell 0 rfl
  have f0 := h.frozen 0
  clear h
  go_enter Tryz.func38, Tryz.ntmps38
  go_wp2_with fail
  exact ⟨rfl, .tuple #[], results_none rfl _ _ _, rfl, rfl⟩
set_option maxRecDepth 100000 in
theorem typesAdd {w : World} {tb : Nat} (h : Cells w tb #[.int .i64 0] 73) : Calls Tryz.prog 22 #[.pointer (some ⟨tb, 0, none⟩), .string ⟨#[105, 110, 116, 101, 103, 101, 114]⟩] w fun e w' => e = .returned (.tuple #[]) ∧ Cells w' tb #[.int .i64 16] 73 ∧ Fr [tb] w w' := by
  have h39 := fun w1 => typeFrom w1
  have h38 := typesAddOne h
  have HC := Lib.hid (And.intro (h.set 0 (.int .i64 16)) ((Fr.refl [tb] w).set (c := tb) (.inl (List.mem_singleton.2 rfl)) 0 (.int .i64 16)))
  clear h
  go_enter Tryz.func22, Tryz.ntmps22
  go_wp2_with (first | (go_at_call 39; (with_reducible refine (h39 _).mono ?_); rintro e w1 ⟨rfl, rfl⟩) | (go_at_call 38; (with_reducible refine h38.mono ?_); rintro e w1 ⟨rfl, rfl⟩))
  exact ⟨rfl, .tuple #[], results_none rfl _ _ _, rfl, HC.out⟩
set_option maxRecDepth 100000 in
set_option maxHeartbeats 1000000 in
theorem isInteger {S : ByteArray} {ng : Bool} {n d : Nat} {w : World} (N : NumIs S ng n d) (hw : Wo w) : Calls Tryz.prog 77 #[.iface 44 (.string S)] w fun e w' => e = .returned (.bool (decide (d = 1))) ∧ Fr [] w w' := by
  have h50 := N.set w hw
  have H127 : Hid (∀ w1 rb, NewRat w rb ng n d w1 → Calls Tryz.prog 127 #[.pointer (some ⟨rb, 0, none⟩)] w1 fun e w' => e = .returned (.bool (decide (d = 1))) ∧ Hid (Fr [] w w')) := Lib.hid fun w1 rb h => by
    obtain ⟨ao, bo, nb, h1, -, -⟩ := h.is
    exact (ratIsInt h1 N.d0).mono fun e w' hh => ⟨hh.1, Lib.hid (h.fr.trans hh.2)⟩
  have h59 := fun w1 => numText_num S w1
  generalize decide (d = 1) = r at *
  clear N hw
  go_enter Tryz.func77, Tryz.ntmps77
  go_wp2_with (first | (go_at_call 59; (with_reducible refine (h59 _).mono ?_); rintro e w1 ⟨rfl, rfl⟩) | (go_at_call 50; (with_reducible refine h50.mono ?_); rintro e w1 ⟨rfl, hx⟩; have k127 := H127.out _ _ hx; clear hx h50) | (go_at_call 127; (with_reducible refine k127.mono ?_); rintro e w2 ⟨rfl, HF⟩))
  go_ret
  exact ⟨rfl, HF.out⟩
end Go.Proofs.YtpmggjplfcjkkaaGreatDoor

/- Types.ToStrings (printed by gen_types.py). -/
set_option linter.unusedVariables false
set_option linter.unusedSimpArgs false
namespace Go.Proofs.YtpmggjplfcjkkaaGreatDoor
open Go.RowKit Nq

theorem strInfo : (Tryz.prog.info? 9).map (fun i => (i.zero, i.size, i.bytes)) = some (some (.string ⟨#[]⟩), 1, 16) := by kernel_rfl
/-- append(nil, T). -/
theorem wpList_push_str {ops : Array Oper} {rest : List Oper} {o : Oper} {a : Act} {Q : Exit → Act → World → Prop} (hgd : o.guard = none) (s x : Operand)
    (ho : o.op = .call { callee := .builtin .append, args := #[s, x], argTypes := #[30, 30] }) (hs : a.eval s = .slice none 0 0) (w : World) (T : ByteArray) (c : Nat)
    (hx : a.eval x = .slice (some ⟨w.heap.size, 0, none⟩) 1 c)
    (h : ∀ p cp w', Fr [] w w' → wpList Tryz.prog ops Q rest (a.put o.dst (.slice p 1 cp)) w') :
    wpList Tryz.prog ops Q (o :: rest) a (w.alloc (.cells #[.string T] 9)) := by
  obtain ⟨i0, hi, hz0, hz1, hz2⟩ := info_parts strInfo
  have hown : w.ownsRow w.heap.size 9 1 (.slice none 0 0) 0 [] := ⟨rfl, .inl ⟨rfl, rfl⟩⟩
  refine wpList_append_own _ hgd s x 30 ho w.heap.size 9 i0 (.string ⟨#[]⟩) 1 16 (by kernel_rfl) hi hz0 hz1 hz2 rfl (by decide) (.slice none 0 0) 0 [] hs (hown.alloc _) ⟨w.heap.size, 0, none⟩ 1 c [.string T] hx rfl ?_ ?_ ?_ ?_ ?_ fun v' w' h1 h2 _ => ?_
  · intro j u hj
    match j, hj with
    | 0, hj => simp at hj; subst hj; simp [Addr.add]
  · intro u hu; simp at hu; subst hu; rfl
  · unfold maxLen; omega
  · omega
  · rw [World.size_alloc]; omega
  · obtain ⟨p, cp, rfl⟩ := own_form h1
    exact h p cp w' (((Fr.refl [] w).alloc _).of_grown h2 (fun k hk => by cases hk))
abbrev tys : Array Value := #[.int .i64 2, .int .i64 4, .int .i64 8, .int .i64 16, .int .i64 32, .int .i64 64, .int .i64 128]
/-- Between two rounds. -/
def TsAt (w wr : World) (v4 : Value) (i : Int) : Prop := ((i ≤ 3 ∧ v4 = .slice none 0 0) ∨ (3 < i ∧ ∃ p c, v4 = .slice p 1 c)) ∧ Fr [] w wr ∧ Cells wr w.heap.size tys 105
def SlPost (w : World) (e : Ending) (w' : World) : Prop := ∃ p l c, e = .returned (.slice p l c) ∧ Fr [] w w'
theorem TsAt.slice {w wr : World} {v4 : Value} {i : Int} (h : TsAt w wr v4 i) : ∃ p l c, v4 = .slice p l c := by
  rcases h.1 with ⟨_, rfl⟩ | ⟨_, p, c, rfl⟩
  · exact ⟨_, _, _, rfl⟩
  · exact ⟨_, _, _, rfl⟩
set_option maxRecDepth 100000 in
set_option maxHeartbeats 4000000 in
theorem typesToStrings (w : World) : Calls Tryz.prog 79 #[.int .i64 16] w (SlPost w) := by
  have HN : Hid (TsAt w (w.alloc (.cells tys 105)) (.slice none 0 0) 0) := Lib.hid ⟨.inl ⟨by omega, rfl⟩, (Fr.refl _ _).alloc _, Cells.new w _ _⟩
  have hY := fun w1 => typesYes w1
  have hT := fun w1 => typeText16 w1
  obtain ⟨ab, hab⟩ : ∃ ab, w.heap.size = ab := ⟨_, rfl⟩
  have HAB := Lib.hid hab
  go_enter Tryz.func79, Tryz.ntmps79
  go_wp2_with fail
  clear hab
  generalize World.alloc w _ = w0 at *
  go_loopw [4, 10] (fun v4 v10 wr => ∃ i : Int, v10 = .int .i64 i ∧ (i = 0 ∨ i = 1 ∨ i = 2 ∨ i = 3 ∨ i = 4 ∨ i = 5 ∨ i = 6 ∨ i = 7) ∧ Hid (TsAt w wr v4 i)) (fun _ v10 _ => 7 - (intOf v10).toNat)
  case atStart => exact ⟨0, rfl, by omega, HN⟩
  case round =>
    clear HN
    obtain ⟨i, rfl, hi, H⟩ := hrel
    rcases hi with rfl | rfl | rfl | rfl | rfl | rfl | rfl | rfl
    · have c0 := H.out.2.2.cell 0 rfl
      rw [HAB.out] at c0
      have hN := fun w1 => typesNo 2 (by omega) w1
      obtain ⟨p, l, c, rfl⟩ := H.out.slice
      go_wp2_with (go_at_call 76; (with_reducible refine (hN _).mono ?_); rintro e w1 ⟨rfl, rfl⟩)
      go_roundw
      case rel => exact ⟨1, rfl, by omega, Lib.hid ⟨by have := H.out.1; exact .inl ⟨by omega, by rcases this with ⟨_, h⟩ | ⟨h, _⟩; exact h; omega⟩, H.out.2⟩⟩
      case measure => simp [intOf]
    · have c0 := H.out.2.2.cell 1 rfl
      rw [HAB.out] at c0
      have hN := fun w1 => typesNo 4 (by omega) w1
      obtain ⟨p, l, c, rfl⟩ := H.out.slice
      go_wp2_with (go_at_call 76; (with_reducible refine (hN _).mono ?_); rintro e w1 ⟨rfl, rfl⟩)
      go_roundw
      case rel => exact ⟨2, rfl, by omega, Lib.hid ⟨by have := H.out.1; exact .inl ⟨by omega, by rcases this with ⟨_, h⟩ | ⟨h, _⟩; exact h; omega⟩, H.out.2⟩⟩
      case measure => simp [intOf]
    · have c0 := H.out.2.2.cell 2 rfl
      rw [HAB.out] at c0
      have hN := fun w1 => typesNo 8 (by omega) w1
      obtain ⟨p, l, c, rfl⟩ := H.out.slice
      go_wp2_with (go_at_call 76; (with_reducible refine (hN _).mono ?_); rintro e w1 ⟨rfl, rfl⟩)
      go_roundw
      case rel => exact ⟨3, rfl, by omega, Lib.hid ⟨by have := H.out.1; exact .inl ⟨by omega, by rcases this with ⟨_, h⟩ | ⟨h, _⟩; exact h; omega⟩, H.out.2⟩⟩
      case measure => simp [intOf]
    · obtain ⟨h4, hf, hc⟩ := H.out
      rcases h4 with ⟨_, rfl⟩ | ⟨h, _⟩
      rotate_left
      · omega
      have c0 := hc.cell 3 rfl
      rw [HAB.out] at c0
      have HH := Lib.hid (And.intro hf hc)
      clear hf hc H
      go_wp2_with (first | (go_at_call 76; (with_reducible refine (hY _).mono ?_); rintro e w1 ⟨rfl, rfl⟩) | (go_at_call 78; (with_reducible refine (hT _).mono ?_); rintro e w1 ⟨rfl, rfl⟩) | (at_builtin; refine wpList_push_str rfl _ _ rfl rfl _ _ _ rfl ?_; intro p cp w2 hf; have HG := Lib.hid hf; clear hf))
      go_roundw
      case rel => exact ⟨4, rfl, by omega, Lib.hid ⟨.inr ⟨by omega, _, _, rfl⟩, HH.out.1.trans HG.out, HH.out.2.fr HG.out (by simp)⟩⟩
      case measure => simp [intOf]
    · have c0 := H.out.2.2.cell 4 rfl
      rw [HAB.out] at c0
      have hN := fun w1 => typesNo 32 (by omega) w1
      obtain ⟨p, l, c, rfl⟩ := H.out.slice
      go_wp2_with (go_at_call 76; (with_reducible refine (hN _).mono ?_); rintro e w1 ⟨rfl, rfl⟩)
      go_roundw
      case rel => exact ⟨5, rfl, by omega, Lib.hid ⟨by have := H.out.1; exact .inr ⟨by omega, by rcases this with ⟨h, _⟩ | ⟨_, h⟩; omega; exact h⟩, H.out.2⟩⟩
      case measure => simp [intOf]
    · have c0 := H.out.2.2.cell 5 rfl
      rw [HAB.out] at c0
      have hN := fun w1 => typesNo 64 (by omega) w1
      obtain ⟨p, l, c, rfl⟩ := H.out.slice
      go_wp2_with (go_at_call 76; (with_reducible refine (hN _).mono ?_); rintro e w1 ⟨rfl, rfl⟩)
      go_roundw
      case rel => exact ⟨6, rfl, by omega, Lib.hid ⟨by have := H.out.1; exact .inr ⟨by omega, by rcases this with ⟨h, _⟩ | ⟨_, h⟩; omega; exact h⟩, H.out.2⟩⟩
      case measure => simp [intOf]
    · have c0 := H.out.2.2.cell 6 rfl
      rw [HAB.out] at c0
      have hN := fun w1 => typesNo 128 (by omega) w1
      obtain ⟨p, l, c, rfl⟩ := H.out.slice
      go_wp2_with (go_at_call 76; (with_reducible refine (hN _).mono ?_); rintro e w1 ⟨rfl, rfl⟩)
      go_roundw
      case rel => exact ⟨7, rfl, by omega, Lib.hid ⟨by have := H.out.1; exact .inr ⟨by omega, by rcases this with ⟨h, _⟩ | ⟨_, h⟩; omega; exact h⟩, H.out.2⟩⟩
      case measure => simp [intOf]
    · have HF : Hid (Fr [] w wr) := Lib.hid H.out.2.1
      obtain ⟨p, l, c, rfl⟩ := H.out.slice
      clear H
      go_wp2_with fail
      go_ret
      exact ⟨_, _, _, rfl, HF.out⟩
end Go.Proofs.YtpmggjplfcjkkaaGreatDoor
