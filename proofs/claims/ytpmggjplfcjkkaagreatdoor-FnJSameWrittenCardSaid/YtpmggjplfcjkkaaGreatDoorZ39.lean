/- validator.validate with the type "integer". -/
import Derived.Deep.RegionHeld3
import Derived.Test.YtpmggjplfcjkkaaGreatDoorZ38
import Derived.Test.YtpmggjplfcjkkaaGreatDoorZ29
import Derived.Test.YtpmggjplfcjkkaaGreatDoorZ30
import Derived.Test.YtpmggjplfcjkkaaGreatDoorZ32
import Derived.Lib.ItoaNum
set_option linter.unusedVariables false
set_option linter.unusedSimpArgs false
namespace Go.Proofs.YtpmggjplfcjkkaaGreatDoor
open Go.RowKit Nq
attribute [local go_sem] as44 as44_61 as44_65 as44_9

set_option maxRecDepth 100000 in
set_option maxHeartbeats 4000000 in
theorem vdTypes_ok {S : ByteArray} {w : World} {vb sb scb ub lc lb tb : Nat} {ng : Bool} {n d : Nat} (N : NumIs S ng n d) (hw : Wo w) (h : Vd w vb S sb scb ub (some ⟨lb, 0, none⟩) lc (.slice none 0 0)) (hs : Sch w sb (some ⟨tb, 0, none⟩) none) (ht : Cells w tb #[.int .i64 16] 73) (hd : d = 1) :
    Calls Tryz.prog 52 #[.pointer (some ⟨vb, 0, none⟩)] w (ValPost w vb ub 187 true) := by
  have v0 := h.v.cell 0 rfl
  have v2 := h.v.cell 2 rfl
  have v3 := h.v.cell 3 rfl
  have s9 : w.cell? ⟨sb, 9, none⟩ = some (.pointer none) := Cells.cell hs 9 rfl
  have s17 : w.cell? ⟨sb, 17, none⟩ = some (.pointer (some ⟨tb, 0, none⟩)) := Cells.cell hs 17 rfl
  have t0 := ht.cell 0 rfl
  have h73 := checkCycle h.s
  have h58 := typeOf_num S w
  have h75 := typesEmpty w
  have h76a := typesNo 8 (by omega) w
  have h76b := typesYes w
  have H77 : Calls Tryz.prog 77 #[.iface 44 (.string S)] w fun e w1 => e = .returned (.bool true) ∧ w1.cell? ⟨vb, 0, none⟩ = some (.iface 44 (.string S)) ∧ w1.cell? ⟨vb, 2, none⟩ = some (.pointer (some ⟨sb, 0, none⟩)) ∧ w1.cell? ⟨sb, 19, none⟩ = some (.pointer none) ∧ w1.cell? ⟨sb, 18, none⟩ = some (.pointer none) ∧ w1.cell? ⟨sb, 27, none⟩ = some (.pointer none) ∧ w1.cell? ⟨sb, 11, none⟩ = some (.pointer none) ∧
      Calls Tryz.prog 85 #[.pointer (some ⟨vb, 0, none⟩), .iface 44 (.string S)] w1 fun e w2 => e = .returned (.tuple #[]) ∧ w2.cell? ⟨vb, 5, none⟩ = some (.slice none 0 0) ∧ w2.cell? ⟨vb, 4, none⟩ = some (.pointer (some ⟨ub, 0, none⟩)) ∧ w2.cell? ⟨vb, 6, none⟩ = some (.bool false) ∧ w2.cell? ⟨sb, 7, none⟩ = some (.int .i64 2020) ∧
      Calls Tryz.prog 86 #[.pointer (some ⟨vb, 0, none⟩)] w2 (fun e w' => e = .returned (.tuple #[]) ∧ w2 = w') ∧ Calls Tryz.prog 87 #[.pointer (some ⟨vb, 0, none⟩)] w2 (fun e w' => e = .returned (.tuple #[]) ∧ w2 = w') ∧ Calls Tryz.prog 88 #[.pointer (some ⟨vb, 0, none⟩)] w2 (fun e w' => e = .returned (.tuple #[]) ∧ w2 = w') ∧ Hid (Fr [] w w2) := by
    have h77 := isInteger N hw
    rw [decide_eq_true hd] at h77
    refine h77.mono ?_
    rintro e w1 ⟨rfl, f1⟩
    have g := h.fr f1 (by simp) (by simp)
    have gs := hs.fr f1 (by simp)
    refine ⟨rfl, g.v.cell 0 rfl, g.v.cell 2 rfl, Cells.cell gs 19 rfl, Cells.cell gs 18 rfl, Cells.cell gs 27 rfl, Cells.cell gs 11 rfl, ?_⟩
    refine (numValidate_none g gs).mono ?_
    rintro e w2 ⟨rfl, f2⟩
    have g2 := g.fr f2 (by simp) (by simp)
    have gs2 := gs.fr f2 (by simp)
    exact ⟨rfl, g2.v.cell 5 rfl, g2.v.cell 4 rfl, g2.v.cell 6 rfl, Cells.cell gs2 7 rfl, validateRefs g2 gs2, condValidate g2 gs2, unevalValidate g2 gs2, Lib.hid (f1.trans f2)⟩
  clear N hw h hs ht hd
  go_enter Tryz.func52, Tryz.ntmps52
  go_wp2_with (first | (go_at_call 73; (with_reducible refine h73.mono ?_); rintro e w1 ⟨rfl, rfl⟩) | (go_at_call 58; (with_reducible refine h58.mono ?_); rintro e w1 ⟨rfl, rfl⟩) | (go_at_call 75; (with_reducible refine h75.mono ?_); rintro e w1 ⟨rfl, rfl⟩) | (go_at_call 76; (with_reducible refine h76a.mono ?_); rintro e w1 ⟨rfl, rfl⟩) | (go_at_call 76; (with_reducible refine h76b.mono ?_); rintro e w1 ⟨rfl, rfl⟩) | (go_at_call 77; (with_reducible refine H77.mono ?_); rintro e w1 ⟨rfl, q0, q2, q19, q18, q27, q11, k85⟩) | (go_at_call 85; (with_reducible refine k85.mono ?_); rintro e w2 ⟨rfl, d5, d4, d6, d7, k86, k87, k88, HF⟩) | (go_at_call 86; (with_reducible refine k86.mono ?_); rintro e w3 ⟨rfl, rfl⟩) | (go_at_call 87; (with_reducible refine k87.mono ?_); rintro e w3 ⟨rfl, rfl⟩) | (go_at_call 88; (with_reducible refine k88.mono ?_); rintro e w3 ⟨rfl, rfl⟩))
  go_ret2
  exact (show ValPost w vb ub 187 true (.returned (.tuple #[.pointer (some ⟨ub, 0, none⟩), .nilIface])) w2 by unfold ValPost; rw [if_pos rfl]; exact ⟨rfl, HF.out⟩)

set_option maxRecDepth 100000 in
set_option maxHeartbeats 4000000 in
theorem vdTypes_bad {S : ByteArray} {w : World} {vb sb scb ub lc lb tb : Nat} {ng : Bool} {n d : Nat} (N : NumIs S ng n d) (hw : Wo w) (h : Vd w vb S sb scb ub (some ⟨lb, 0, none⟩) lc (.slice none 0 0)) (hs : Sch w sb (some ⟨tb, 0, none⟩) none) (ht : Cells w tb #[.int .i64 16] 73) (hd : ¬ d = 1) :
    Calls Tryz.prog 52 #[.pointer (some ⟨vb, 0, none⟩)] w (ValPost w vb ub 187 false) := by
  have v0 := h.v.cell 0 rfl
  have v2 := h.v.cell 2 rfl
  have v3 := h.v.cell 3 rfl
  have s9 : w.cell? ⟨sb, 9, none⟩ = some (.pointer none) := Cells.cell hs 9 rfl
  have s17 : w.cell? ⟨sb, 17, none⟩ = some (.pointer (some ⟨tb, 0, none⟩)) := Cells.cell hs 17 rfl
  have t0 := ht.cell 0 rfl
  have h73 := checkCycle h.s
  have h58 := typeOf_num S w
  have h75 := typesEmpty w
  have h76a := typesNo 8 (by omega) w
  have h76b := typesYes w
  have hsb : sb < w.heap.size := Cells.lt hs
  have htb := ht.lt
  have H77 : Calls Tryz.prog 77 #[.iface 44 (.string S)] w fun e w1 => e = .returned (.bool false) ∧ w1.cell? ⟨sb, 17, none⟩ = some (.pointer (some ⟨tb, 0, none⟩)) ∧ w1.cell? ⟨tb, 0, none⟩ = some (.int .i64 16) ∧ Hid (Fr [] w w1) := by
    have h77 := isInteger N hw
    rw [decide_eq_false hd] at h77
    refine h77.mono ?_
    rintro e w1 ⟨rfl, f1⟩
    exact ⟨rfl, Cells.cell (hs.fr f1 (by simp)) 17 rfl, (ht.fr f1 (by simp)).cell 0 rfl, Lib.hid f1⟩
  have HK : Hid (∀ w1, Fr [] w w1 → w1.cell? ⟨sb, 17, none⟩ = some (.pointer (some ⟨tb, 0, none⟩)) ∧ w1.cell? ⟨tb, 0, none⟩ = some (.int .i64 16)) := Lib.hid fun w1 f => ⟨Cells.cell (hs.fr f (by simp)) 17 rfl, (ht.fr f (by simp)).cell 0 rfl⟩
  have HV : Hid (∀ w1 kv, Fr [] w w1 → Calls Tryz.prog 72 #[.pointer (some ⟨vb, 0, none⟩), .iface 187 kv] w1 fun e w' => ∃ eb, e = .returned (.pointer (some ⟨eb, 0, none⟩)) ∧ Hid (Fr [] w w') ∧ Hid (∀ k, ValPost w vb ub 187 false (.returned (.tuple #[.pointer none, .iface 127 (.pointer (some ⟨eb, 0, none⟩))])) (w'.drewN k))) := by
    refine Lib.hid fun w1 kv f => (vdError 187 kv (h.fr f (by simp) (by simp)) (hs.fr f (by simp))).mono ?_
    rintro e w' ⟨eb, a, c, rfl, hc, hf, hb⟩
    refine ⟨eb, rfl, Lib.hid (f.trans hf), Lib.hid fun k => ?_⟩
    unfold ValPost
    rw [if_neg (by decide)]
    exact ⟨eb, a, c, kv, rfl, hc.drewN k, ((f.trans hf).mono (by simp)).drewN k⟩
  clear N hw h hs ht hd
  go_enter Tryz.func52, Tryz.ntmps52
  go_upto_region 16 with (first | (go_at_call 73; (with_reducible refine h73.mono ?_); rintro e w1 ⟨rfl, rfl⟩) | (go_at_call 58; (with_reducible refine h58.mono ?_); rintro e w1 ⟨rfl, rfl⟩) | (go_at_call 75; (with_reducible refine h75.mono ?_); rintro e w1 ⟨rfl, rfl⟩) | (go_at_call 76; (with_reducible refine h76a.mono ?_); rintro e w1 ⟨rfl, rfl⟩) | (go_at_call 76; (with_reducible refine h76b.mono ?_); rintro e w1 ⟨rfl, rfl⟩) | (go_at_call 77; (with_reducible refine H77.mono ?_); rintro e w1 ⟨rfl, q17, q0, HF⟩))
  clear H77 v0 v2 v3 s9 s17 t0 h73 h58 h75 h76a h76b
  have h78 := fun w2 => typeText8 w2
  have h79 := fun w2 => typesToStrings w2
  have HFd := Lib.hid (HF.out.drewN 1)
  clear HF
  go_region_held3 (fun w' => w'.cell? ⟨sb, 17, none⟩ = some (.pointer (some ⟨tb, 0, none⟩)) ∧ w'.cell? ⟨tb, 0, none⟩ = some (.int .i64 16)) (first | exact ⟨q17, q0⟩ | exact hk | exact hk3 | go_keep) ((first | (go_at_call 78; (with_reducible refine (h78 _).mono ?_); rintro e w2 ⟨rfl, rfl⟩) | (go_at_call 79; (with_reducible refine (h79 _).mono ?_); rintro e w2 ⟨p, l, c, rfl, hf⟩; have HG := Lib.hid (HFd.out.trans hf); have hk := HK.out _ HG.out; clear hf) | (go_at_call 72; (with_reducible refine (HV.out _ _ (HG.out.alloc _)).mono ?_); rintro e w3 ⟨eb, rfl, HG3, HP⟩; have hk3 := HK.out _ HG3.out)))
  all_goals go_wp2_with fail
  all_goals go_ret2
  all_goals first | exact HP.out 0 | exact HP.out 1
end Go.Proofs.YtpmggjplfcjkkaaGreatDoor

/- impl.JInteger: whether a number is whole. -/
set_option linter.unusedVariables false
set_option linter.unusedSimpArgs false
namespace Go.Proofs.YtpmggjplfcjkkaaGreatDoor
open Go.RowKit Nq

theorem as187 (w : World) (v : Value) : (Instr.typeAssert (.iface 187 v) 77 128 true).run Tryz.prog w = .ok (.tuple #[.pointer none, .bool false]) w := by kernel_rfl
set_option maxRecDepth 100000 in
set_option maxHeartbeats 4000000 in
theorem implInteger {A : ByteArray} {ng : Bool} {n d : Nat} {w : World} (N : NumIs A ng n d) (hw : Wo w) :
    Calls Tryz.prog 10 #[.string A] w (BoolsPost w (decide (d = 1))) := by
  have h17 := N.rat w hw
  have H22 : Hid (∀ w1 : World, Calls Tryz.prog 22 #[.pointer (some ⟨w1.heap.size, 0, none⟩), .string ⟨#[105, 110, 116, 101, 103, 101, 114]⟩] ((w1.alloc (.cells #[.int .i64 0] 73)).alloc (.cells (schC (.pointer (some ⟨w1.heap.size, 0, none⟩)) (.pointer none)) 67)) fun e w' => e = .returned (.tuple #[]) ∧ Hid (Cells w' w1.heap.size #[.int .i64 16] 73 ∧ Sch w' (w1.heap.size + 1) (some ⟨w1.heap.size, 0, none⟩) none ∧ Fr [] w1 w')) := by
    refine Lib.hid fun w1 => ?_
    have hc := (Cells.new w1 #[.int .i64 0] 73).fr ((Fr.refl [] (w1.alloc (.cells #[.int .i64 0] 73))).alloc (.cells (schC (.pointer (some ⟨w1.heap.size, 0, none⟩)) (.pointer none)) 67)) (by simp)
    have hs := Cells.new (w1.alloc (.cells #[.int .i64 0] 73)) (schC (.pointer (some ⟨w1.heap.size, 0, none⟩)) (.pointer none)) 67
    rw [size_alloc] at hs
    have f0 : Fr [] w1 ((w1.alloc (.cells #[.int .i64 0] 73)).alloc (.cells (schC (.pointer (some ⟨w1.heap.size, 0, none⟩)) (.pointer none)) 67)) := ((Fr.refl _ _).alloc _).alloc _
    refine (typesAdd hc).mono ?_
    rintro e w' ⟨rfl, h1, h2⟩
    exact ⟨rfl, Lib.hid ⟨h1, hs.fr h2 (by simp), f0.trans_new h2 (fun x hx => by simp at hx; subst hx; right; exact Nat.le_refl _)⟩⟩
  have HV : Hid (∀ w1 w2 : World, Fr [] w w1 → (Cells w2 w1.heap.size #[.int .i64 16] 73 ∧ Sch w2 (w1.heap.size + 1) (some ⟨w1.heap.size, 0, none⟩) none ∧ Fr [] w1 w2) → Calls Tryz.prog 19 #[.pointer (some ⟨w1.heap.size + 1, 0, none⟩), .iface 44 (.string A)] w2 (SchPost w2 (decide (d = 1))) ∧ Fr [] w w2) := by
    refine Lib.hid fun w1 w2 hf hh => ?_
    obtain ⟨ht, hs, hf2⟩ := hh
    refine ⟨schemaValidate ?_, hf.trans hf2⟩
    refine schValidate (kt := 187) (Cells.lt hs) as187 (Cells.cell hs 8 rfl) fun w3 vb scb ub lb hv h3 hb => ?_
    have hs3 := hs.fr h3 (by simp)
    have ht3 := ht.fr h3 (by simp)
    have hw3 := hw.fr0 ((hf.trans hf2).trans h3)
    by_cases hd : d = 1
    · rw [decide_eq_true hd]
      exact vdTypes_ok N hw3 hv hs3 ht3 hd
    · rw [decide_eq_false hd]
      exact vdTypes_bad N hw3 hv hs3 ht3 hd
  generalize decide (d = 1) = ok at *
  clear N hw
  go_enter Tryz.func10, Tryz.ntmps10
  go_wp2_with (go_at_call 17; (with_reducible refine h17.mono ?_); rintro e w1 ⟨xb, rfl, hx⟩; have HX := Lib.hid hx.fr; clear hx h17)
  refine wp_build67 16 (.tmp 8) rfl rfl (build_types _ _) ?_
  have h22 := H22.out w1
  clear H22
  have s17 : ((w1.alloc (.cells #[.int .i64 0] 73)).alloc (.cells (schC (.pointer (some ⟨w1.heap.size, 0, none⟩)) (.pointer none)) 67)).cell? ⟨w1.heap.size + 1, 17, none⟩ = some (.pointer (some ⟨w1.heap.size, 0, none⟩)) := by
    have hs := Cells.new (w1.alloc (.cells #[.int .i64 0] 73)) (schC (.pointer (some ⟨w1.heap.size, 0, none⟩)) (.pointer none)) 67
    rw [size_alloc] at hs
    exact hs.cell 17 rfl
  go_wp2_with (go_at_call 22; (with_reducible refine h22.mono ?_); rintro e w2 ⟨rfl, HQ⟩; have hk := HV.out _ _ HX.out HQ.out; clear h22 s17)
  obtain ⟨h19, f2⟩ := hk
  have HF2 := Lib.hid f2
  clear f2 HV HX HQ
  cases ok with
  | true =>
    have h19' : Calls Tryz.prog 19 #[.pointer (some ⟨w1.heap.size + 1, 0, none⟩), .iface 44 (.string A)] w2 fun e w' => e = .returned .nilIface ∧ Hid (Fr [] w w') :=
      h19.mono fun e w' hp => ⟨by have := hp.1; rwa [if_pos rfl] at this, Lib.hid (HF2.out.trans hp.2)⟩
    clear h19
    refine h19'.mono ?_
    rintro e w3 ⟨rfl, HP⟩
    go_wp2_with fail
    go_ret2
    exact ⟨rfl, HP.out⟩
  | false =>
    have h19' : Calls Tryz.prog 19 #[.pointer (some ⟨w1.heap.size + 1, 0, none⟩), .iface 44 (.string A)] w2 fun e w' => ∃ p, e = .returned (.iface 127 (.pointer (some p))) ∧ Hid (Fr [] w w') := by
      refine h19.mono fun e w' hp => ?_
      have := hp.1
      rw [if_neg (by decide)] at this
      obtain ⟨p, hp1⟩ := this
      exact ⟨p, hp1, Lib.hid (HF2.out.trans hp.2)⟩
    clear h19
    refine h19'.mono ?_
    rintro e w3 ⟨p, rfl, HP⟩
    go_wp2_with fail
    go_ret2
    exact ⟨rfl, HP.out⟩
end Go.Proofs.YtpmggjplfcjkkaaGreatDoor

/- The plain law of spec.JShifted: the shifted text writes the same number. -/
set_option linter.unusedVariables false
set_option linter.unusedSimpArgs false
namespace Go.Proofs.YtpmggjplfcjkkaaGreatDoor
open Go.RowKit Nq

/-- A text's number, by what spec makes of it. -/
theorem numIs_of {S : ByteArray} {m : Bool} {D : ByteArray} {x : Int} (h : decF S = some (m, D, x)) : NumIs S m (rn (dv D) x) (rd (dv D) x) := by
  obtain ⟨neg, I, F, dot, ex, N, hd⟩ := decF_num h
  have h1 := N.is
  rw [hd.same.low.1, hd.same.low.2] at h1
  have h2 := hd.sg
  simp only at h2
  rw [← h2] at h1
  exact h1
theorem run_to {S : ByteArray} : ∀ (k i : Nat), (∀ j, i ≤ j → j < i + k → digAt S j = true) → digAt S (i + k) = false → run S i = i + k
  | 0, i, _, h => run_stop h
  | k + 1, i, h1, h2 => by
    rw [run_step (h1 i (by omega) (by omega)), run_to k (i + 1) (fun j a b => h1 j (by omega) (by omega)) (by rw [show i + 1 + k = i + (k + 1) by omega]; exact h2)]
    omega

theorem dec_digits : ∀ (u : Nat), dval ((Lib.decDigits u).map fun c => c.toNat - 48) = u ∧ ∀ c ∈ Lib.decDigits u, 48 ≤ c.toNat ∧ c.toNat ≤ 57 := by
  intro u
  induction u using Nat.strongRecOn with
  | _ u ih =>
    have hc : ∀ k, k < 10 → (UInt8.ofNat (48 + k)).toNat = 48 + k := fun k hk => by rw [UInt8.toNat_ofNat']; omega
    rw [Lib.decDigits]
    split
    · rename_i h
      refine ⟨?_, fun c hcc => ?_⟩
      · show dval [(UInt8.ofNat (48 + u)).toNat - 48] = u
        rw [hc u h]
        simp [dval]
      · rw [List.mem_singleton] at hcc
        rw [hcc, hc u h]
        omega
    · rename_i h
      obtain ⟨h1, h2⟩ := ih (u / 10) (by omega)
      refine ⟨?_, fun c hcc => ?_⟩
      · rw [List.map_append, dval_append, h1]
        show u / 10 * 10 ^ 1 + dval [(UInt8.ofNat (48 + u % 10)).toNat - 48] = u
        rw [hc (u % 10) (by omega)]
        simp [dval]
        omega
      · rcases List.mem_append.1 hcc with h3 | h3
        · exact h2 c h3
        · rw [List.mem_singleton] at h3
          rw [h3, hc (u % 10) (by omega)]
          omega
theorem dec_some (u : Nat) : Lib.decDigits u ≠ [] := by
  rw [Lib.decDigits]
  split <;> simp

abbrev itoaS (n : Int) : ByteArray := ⟨(Lib.itoa n).toArray⟩
theorem digs_mk (l : List UInt8) : digs ⟨l.toArray⟩ = l.map fun c => c.toNat - 48 := by rw [digs_eq]
theorem byteAt_mk {l : List UInt8} {i : Nat} (h : i < l.length) : byteAt ⟨l.toArray⟩ i = (l[i]).toNat := by
  have hs : i < (⟨l.toArray⟩ : ByteArray).size := by simpa [ByteArray.size] using h
  rw [byteAt_eq hs]
  simp [ByteArray.getElem_eq_getElem_data]
theorem toList_append (A B : ByteArray) : (A ++ B).data.toList = A.data.toList ++ B.data.toList := by rw [ByteArray.data_append, Array.toList_append]
theorem ext_list {A B : ByteArray} (h : A.data.toList = B.data.toList) : A = B := by
  cases A; cases B
  simpa using h
theorem extract_mid (A B C : ByteArray) : (A ++ B ++ C).extract A.size (A.size + B.size) = B := by
  apply ext_list
  have e1 : A.data.toList.length = A.size := by simp
  have e2 : B.data.toList.length = B.size := by simp
  rw [Lib.extract_data, toList_append, toList_append, Nat.add_sub_cancel_left, List.append_assoc, ← e1, List.drop_left, ← e2, List.take_left]
theorem extract_end (A B : ByteArray) : (A ++ B).extract A.size (A ++ B).size = B := by
  have h := extract_mid A B ⟨#[]⟩
  have e : A ++ B ++ (⟨#[]⟩ : ByteArray) = A ++ B := by
    apply ext_list
    rw [toList_append]
    simp
  rw [e] at h
  rw [ByteArray.size_append]
  exact h

/-- The exponent's text writes its number. -/
theorem expF_e {n ex : Int} (h : expF (⟨#[101]⟩ ++ itoaS n) = some ex) : ex = n := by
  have hs : ((⟨#[101]⟩ : ByteArray) ++ itoaS n).size = 1 + (itoaS n).size := by rw [ByteArray.size_append]; rfl
  have e0 : (⟨#[101]⟩ : ByteArray).size = 1 := rfl
  have hx1 : ((⟨#[101]⟩ : ByteArray) ++ itoaS n).extract 1 ((⟨#[101]⟩ : ByteArray) ++ itoaS n).size = itoaS n := extract_end ⟨#[101]⟩ (itoaS n)
  have hb1 : byteAt ((⟨#[101]⟩ : ByteArray) ++ itoaS n) 1 = byteAt (itoaS n) 0 := by rw [byteAt_append, e0, if_neg (by decide)]
  have hb0 : byteAt ((⟨#[101]⟩ : ByteArray) ++ itoaS n) 0 = 101 := by rw [byteAt_append, e0, if_pos (by decide)]; rfl
  unfold expF at h
  rw [if_neg (by rw [hs]; omega), if_pos (.inl hb0), hb1, hx1, hs] at h
  have hval : ∀ (neg : Bool) (V : ByteArray) (y : Int), expU neg V = some y → y = if neg then -(dval (digs V) : Int) else dval (digs V) := by
    intro neg V y hy
    unfold expU at hy
    split at hy
    · exact (Option.some.inj hy).symm
    · cases hy
  by_cases hn : n < 0
  · have hi : Lib.itoa n = 45 :: Lib.decDigits n.natAbs := by unfold Lib.itoa; rw [if_pos hn]
    have e1 : itoaS n = (⟨#[45]⟩ : ByteArray) ++ ⟨(Lib.decDigits n.natAbs).toArray⟩ := by
      apply ext_list
      rw [toList_append]
      simp [itoaS, hi]
    rw [e1] at h
    have hc : byteAt ((⟨#[45]⟩ : ByteArray) ++ ⟨(Lib.decDigits n.natAbs).toArray⟩) 0 = 45 := by rw [byteAt_append, if_pos (by decide)]; rfl
    rw [if_pos hc] at h
    have hx : ((⟨#[45]⟩ : ByteArray) ++ ⟨(Lib.decDigits n.natAbs).toArray⟩).extract 1 (1 + ((⟨#[45]⟩ : ByteArray) ++ ⟨(Lib.decDigits n.natAbs).toArray⟩).size - 1) = ⟨(Lib.decDigits n.natAbs).toArray⟩ := by
      rw [Nat.add_sub_cancel_left]
      exact extract_end ⟨#[45]⟩ _
    rw [hx] at h
    have := hval _ _ _ h
    rw [digs_mk, (dec_digits _).1] at this
    simp at this
    omega
  · have hi : Lib.itoa n = Lib.decDigits n.toNat := by unfold Lib.itoa; rw [if_neg hn]
    have e1 : itoaS n = ⟨(Lib.decDigits n.toNat).toArray⟩ := by unfold itoaS; rw [hi]
    have hp : 0 < (Lib.decDigits n.toNat).length := List.length_pos_iff.2 (dec_some _)
    have hd : 48 ≤ byteAt (itoaS n) 0 := by
      rw [e1, byteAt_mk hp]
      exact ((dec_digits _).2 _ (List.getElem_mem hp)).1
    rw [if_neg (by omega), if_neg (by omega)] at h
    have := hval _ _ _ h
    rw [e1, digs_mk, (dec_digits _).1] at this
    simp at this
    omega

/-- The text that spec.JShifted makes. -/
def shiftB (D : ByteArray) (z : Nat) : ByteArray := if D.size = 0 then ⟨#[48]⟩ else zerN z D
def shiftT (m : Bool) (D : ByteArray) (x : Int) (z : Nat) : ByteArray := (if m then ⟨#[45]⟩ else ⟨#[]⟩) ++ shiftB D z ++ (⟨#[101]⟩ ++ itoaS (x - z))
theorem shiftB_ok {D : ByteArray} (h : Bar D) (z : Nat) : Dg (shiftB D z) ∧ 0 < (shiftB D z).size ∧ dv (shiftB D z) = dv D * 10 ^ z ∧ (shiftB D z).size ≤ D.size + z + 1 := by
  unfold shiftB
  split
  · rename_i h0
    refine ⟨dg_zero, by decide, ?_, by show 1 ≤ _; omega⟩
    rw [dv_zero h0]
    simp
    rfl
  · obtain ⟨h1, h2, h3⟩ := zerN_spec z D (by omega) h
    exact ⟨h1.dg, by omega, h2, by omega⟩
theorem shift_dec {m : Bool} {D : ByteArray} {x : Int} {z : Nat} {r : Bool × ByteArray × Int} (hD : Bar D) (hm : m = true → D.size ≠ 0) (h : decF (shiftT m D x z) = some r) : r = leanV m (shiftB D z) (x - z) ∧ (-99 ≤ x - (z : Int) ∧ x - (z : Int) ≤ 99) ∧ (shiftB D z).size ≤ 40 := by
  obtain ⟨hg, hp, _, _⟩ := shiftB_ok hD z
  obtain ⟨B, hB⟩ : ∃ B, shiftB D z = B := ⟨_, rfl⟩
  obtain ⟨E, hE⟩ : ∃ E, (⟨#[101]⟩ : ByteArray) ++ itoaS (x - z) = E := ⟨_, rfl⟩
  obtain ⟨Q, hQ⟩ : ∃ Q : ByteArray, (if m then ⟨#[45]⟩ else ⟨#[]⟩) = Q := ⟨_, rfl⟩
  have hT : shiftT m D x z = Q ++ B ++ E := by unfold shiftT; rw [hB, hE, hQ]
  rw [hB] at hg hp ⊢
  rw [hT] at h
  have hQs : Q.size = if m then 1 else 0 := by rw [← hQ]; cases m <;> rfl
  have hEp : byteAt E 0 = 101 := by rw [← hE, byteAt_append, if_pos (by decide)]; rfl
  have hb : ∀ j, j < B.size → byteAt (Q ++ B ++ E) (Q.size + j) = byteAt B j := by
    intro j hj
    rw [byteAt_append, if_pos (by simp only [ByteArray.size_append]; omega), byteAt_append, if_neg (by omega), Nat.add_sub_cancel_left]
  have hbe : byteAt (Q ++ B ++ E) (Q.size + B.size) = 101 := by
    rw [byteAt_append, if_neg (by simp only [ByteArray.size_append]; omega), ByteArray.size_append, Nat.sub_self]
    exact hEp
  have hAt : decAt (Q ++ B ++ E) = Q.size := by
    unfold decAt
    cases m with
    | true =>
      have : byteAt (Q ++ B ++ E) 0 = 45 := by
        rw [byteAt_append, if_pos (by simp only [ByteArray.size_append]; omega), byteAt_append, if_pos (by rw [hQs]; decide), ← hQ]
        rfl
      rw [if_pos this, hQs]
      rfl
    | false =>
      have h0 := hb 0 hp
      have h1 := hg 0 hp
      have hq0 : Q.size = 0 := hQs
      rw [hq0, Nat.zero_add] at h0
      rw [if_neg (by omega), hq0]
  have hWh : decWh (Q ++ B ++ E) = Q.size + B.size := by
    unfold decWh
    rw [hAt]
    refine run_to _ _ (fun j h1 h2 => ?_) ?_
    · have h3 := hb (j - Q.size) (by omega)
      rw [show Q.size + (j - Q.size) = j by omega] at h3
      have h4 := hg (j - Q.size) (by omega)
      unfold digAt
      exact decide_eq_true (by omega)
    · unfold digAt
      exact decide_eq_false (by omega)
  have hPart : decPart (Q ++ B ++ E) = Q.size + B.size := by
    unfold decPart
    rw [hWh, if_neg (by omega)]
  unfold decF at h
  split at h
  · cases h
  rename_i h40
  simp only [ByteArray.size_append] at h40
  split at h
  · cases h
  split at h
  · cases h
  obtain ⟨ex, hex, hr⟩ := Option.map_eq_some_iff.1 h
  rw [hWh, hPart, hAt, if_neg (by omega), extract_mid] at hr
  have e2 : (Q ++ B ++ E).extract (Q.size + B.size) (Q ++ B ++ E).size = E := by
    have := extract_end (Q ++ B) E
    rwa [ByteArray.size_append (a := Q) (b := B)] at this
  rw [hPart, e2, ← hE] at hex
  have hb99 := expF_bound hex
  obtain rfl := expF_e hex
  have hq : (Q.size == 1) = m := by rw [hQs]; cases m <;> rfl
  rw [hq] at hr
  exact ⟨hr.symm, hb99, by omega⟩

/-- The shifted text's number is the text's own. -/
theorem shift_num {m m' : Bool} {D D' : ByteArray} {x x' : Int} {z : Nat} (hd : Dok m D x) (h : decF (shiftT m D x z) = some (m', D', x')) : NumIs (shiftT m D x z) m (rn (dv D) x) (rd (dv D) x) := by
  obtain ⟨hg, hp, hv, hs⟩ := shiftB_ok hd.bar z
  obtain ⟨hr, hex, hB⟩ := shift_dec hd.bar hd.m h
  have hk := leanV_ok (neg := m) (x := x - z) hg hB (by omega)
  rw [← hr] at hk
  have h1 := hk.same
  rw [hv] at h1
  simp only at h1
  have h2 := SameNum.shift (dv D) (x - z) z
  rw [Int.sub_add_cancel] at h2
  have hn := numIs_of h
  rw [← h1.low.1, ← h1.low.2, h2.low.1, h2.low.2] at hn
  have hsg : m' = m := by
    have := hk.sg
    simp only at this
    rw [this]
    cases m with
    | false => rfl
    | true =>
      have h3 := hd.m rfl
      have h4 : dv (shiftB D z) ≠ 0 := by
        rw [hv]
        exact Nat.mul_ne_zero (fun e => h3 (hd.bar.zero_iff.1 e)) (Nat.pos_iff_ne_zero.1 (Nat.pow_pos (by decide)))
      simp [h4]
  rw [hsg] at hn
  exact hn
end Go.Proofs.YtpmggjplfcjkkaaGreatDoor
