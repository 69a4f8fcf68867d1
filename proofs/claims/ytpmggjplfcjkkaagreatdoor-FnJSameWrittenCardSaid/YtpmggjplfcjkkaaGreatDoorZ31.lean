/- Schema.Validate. -/
import Derived.Test.YtpmggjplfcjkkaaGreatDoorZ30
set_option linter.unusedVariables false
set_option linter.unusedSimpArgs false
namespace Go.Proofs.YtpmggjplfcjkkaaGreatDoor
open Go.RowKit Nq

theorem make_texts (w : World) : (Instr.makeSlice 30 (.int .i64 0) (.int .i64 8)).run Tryz.prog w = .ok (.slice (some ⟨w.heap.size, 0, none⟩) 0 8) (w.alloc (.cells #[.string ⟨#[]⟩, .string ⟨#[]⟩, .string ⟨#[]⟩, .string ⟨#[]⟩, .string ⟨#[]⟩, .string ⟨#[]⟩, .string ⟨#[]⟩, .string ⟨#[]⟩] 9)) := by kernel_rfl
theorem as127 (w : World) (v : Value) : (Instr.typeAssert (.iface 127 v) 69 127 false).run Tryz.prog w = .ok v w := by kernel_rfl
attribute [local go_sem] make_texts as127
def VAt (w0 w : World) (S : ByteArray) (sb : Nat) (v : Value) : Prop := ∃ vb scb ub lb, v = .pointer (some ⟨vb, 0, none⟩) ∧ Hid (Vd w vb S sb scb ub (some ⟨lb, 0, none⟩) 8 (.slice none 0 0) ∧ Fr [] w0 w ∧ w0.heap.size ≤ vb)
def pick4 (A B C D : Obj) : Nat → Obj
  | 0 => A
  | 1 => B
  | 2 => C
  | _ => D
theorem at4 (w : World) (A B C D : Obj) (k : Nat) (hk : k < 4) : ((((w.alloc A).alloc B).alloc C).alloc D).drew.heap[w.heap.size + k]? = some (pick4 A B C D k) := by
  have s1 := size_alloc w A
  have s2 := size_alloc (w.alloc A) B
  have s3 := size_alloc ((w.alloc A).alloc B) C
  have a0 := alloc_at w A
  have a1 := alloc_at (w.alloc A) B
  have a2 := alloc_at ((w.alloc A).alloc B) C
  have a3 := alloc_at (((w.alloc A).alloc B).alloc C) D
  rw [s1] at a1
  rw [s2, s1] at a2
  rw [s3, s2, s1] at a3
  show ((((w.alloc A).alloc B).alloc C).alloc D).heap[w.heap.size + k]? = _
  match k, hk with
  | 0, _ => exact (Below.heap_alloc _ _ _ (by rw [s3, s2, s1]; omega)).trans ((Below.heap_alloc _ _ _ (by rw [s2, s1]; omega)).trans ((Below.heap_alloc _ _ _ (by rw [s1]; omega)).trans a0))
  | 1, _ => exact (Below.heap_alloc _ _ _ (by rw [s3, s2, s1]; omega)).trans ((Below.heap_alloc _ _ _ (by rw [s2, s1]; omega)).trans a1)
  | 2, _ => exact (Below.heap_alloc _ _ _ (by rw [s3, s2, s1]; omega)).trans a2
  | 3, _ => exact a3
theorem VAt.of4 {w : World} {A B C D : Obj} {S : ByteArray} {sb vb scb ub lb : Nat} (hsb : sb < w.heap.size) (i j : Nat) (hi : i < 4) (hj : j < 4) (hij : i ≠ j)
    (hv : pick4 A B C D i = .cells #[.iface 44 (.string S), .slice (some ⟨lb, 0, none⟩) 0 8, .pointer (some ⟨sb, 0, none⟩), .pointer (some ⟨scb, 0, none⟩), .pointer (some ⟨ub, 0, none⟩), .slice none 0 0, .bool false] 124)
    (hs : pick4 A B C D j = .cells #[.pointer (some ⟨sb, 0, none⟩), .string ⟨#[]⟩, .int .i64 0, .pointer none] 119) (e1 : vb = w.heap.size + i) (e2 : scb = w.heap.size + j) : VAt w ((((w.alloc A).alloc B).alloc C).alloc D).drew S sb (.pointer (some ⟨vb, 0, none⟩)) := by
  have h1 := at4 w A B C D i hi
  have h2 := at4 w A B C D j hj
  rw [hv, ← e1] at h1
  rw [hs, ← e2] at h2
  exact ⟨_, _, ub, lb, rfl, Lib.hid ⟨⟨h1, h2, by omega, by omega, by omega⟩, (((((Fr.refl [] w).alloc _).alloc _).alloc _).alloc _).drew, by omega⟩⟩
def SchPost (w : World) (ok : Bool) (e : Ending) (w' : World) : Prop := (if ok then e = .returned .nilIface else ∃ p, e = .returned (.iface 127 (.pointer (some p)))) ∧ Fr [] w w'
set_option maxRecDepth 100000 in
set_option maxHeartbeats 4000000 in
theorem schValidate {S : ByteArray} {w : World} {sb : Nat} {kt : TypeId} {ok : Bool} (hsb : sb < w.heap.size) (hk : ∀ (w : World) (v : Value), (Instr.typeAssert (.iface kt v) 77 128 true).run Tryz.prog w = .ok (.tuple #[.pointer none, .bool false]) w) (hs8 : w.cell? ⟨sb, 8, none⟩ = some (.string ⟨#[]⟩)) (h52 : ∀ w1 vb scb ub lb, Vd w1 vb S sb scb ub (some ⟨lb, 0, none⟩) 8 (.slice none 0 0) → Fr [] w w1 → w.heap.size ≤ vb → Calls Tryz.prog 52 #[.pointer (some ⟨vb, 0, none⟩)] w1 (ValPost w1 vb ub kt ok)) :
    Calls Tryz.prog 34 #[.pointer (some ⟨sb, 0, none⟩), .iface 44 (.string S)] w (SchPost w ok) := by
  have h51 := fun w1 => uneval_num S ⟨sb, 0, none⟩ w1
  have H52 := Lib.hid h52
  clear h52
  go_enter Tryz.func34, Tryz.ntmps34
  go_upto_region 1 with fail
  go_cut [5] from 12 to 21 (fun v5 wc => VAt w wc S sb v5)
  case first =>
    go_region_held3 (fun w' => True) (exact trivial) ((go_at_call 51; (with_reducible refine (h51 _).mono ?_); rintro e w1 ⟨rfl, rfl⟩))
    all_goals (go_wp2_with fail; go_meet)
    all_goals (first | exact VAt.of4 hsb 0 1 (by decide) (by decide) (by decide) rfl rfl (by omega) (by omega) | exact VAt.of4 hsb 0 2 (by decide) (by decide) (by decide) rfl rfl (by omega) (by omega) | exact VAt.of4 hsb 0 3 (by decide) (by decide) (by decide) rfl rfl (by omega) (by omega) | exact VAt.of4 hsb 1 0 (by decide) (by decide) (by decide) rfl rfl (by omega) (by omega) | exact VAt.of4 hsb 1 2 (by decide) (by decide) (by decide) rfl rfl (by omega) (by omega) | exact VAt.of4 hsb 1 3 (by decide) (by decide) (by decide) rfl rfl (by omega) (by omega) | exact VAt.of4 hsb 2 0 (by decide) (by decide) (by decide) rfl rfl (by omega) (by omega) | exact VAt.of4 hsb 2 1 (by decide) (by decide) (by decide) rfl rfl (by omega) (by omega) | exact VAt.of4 hsb 2 3 (by decide) (by decide) (by decide) rfl rfl (by omega) (by omega) | exact VAt.of4 hsb 3 0 (by decide) (by decide) (by decide) rfl rfl (by omega) (by omega) | exact VAt.of4 hsb 3 1 (by decide) (by decide) (by decide) rfl rfl (by omega) (by omega) | exact VAt.of4 hsb 3 2 (by decide) (by decide) (by decide) rfl rfl (by omega) (by omega))
  case rest =>
    obtain ⟨vb, scb, ub, lb, rfl, HV⟩ := hcut
    obtain ⟨hv, hf, hb⟩ := HV.out
    have h52 := H52.out wc vb scb ub lb hv hf hb
    clear H52 HV hv
    cases ok with
    | true =>
      have h52' : Calls Tryz.prog 52 #[.pointer (some ⟨vb, 0, none⟩)] wc fun e w' => e = .returned (.tuple #[.pointer (some ⟨ub, 0, none⟩), .nilIface]) ∧ Hid (SchPost w true (.returned .nilIface) w') := by
        refine h52.mono ?_
        intro e w' hp
        unfold ValPost at hp
        rw [if_pos rfl] at hp
        exact ⟨hp.1, Lib.hid ⟨by rw [if_pos rfl], hf.trans hp.2⟩⟩
      clear h52 hf hb hs8 hk
      go_wp2_with (go_at_call 52; (with_reducible refine h52'.mono ?_); rintro e w1 ⟨rfl, HP⟩)
      go_ret
      exact HP.out
    | false =>
      have h52' : Calls Tryz.prog 52 #[.pointer (some ⟨vb, 0, none⟩)] wc fun e w' => ∃ eb kv, e = .returned (.tuple #[.pointer none, .iface 127 (.pointer (some ⟨eb, 0, none⟩))]) ∧ w'.cell? ⟨eb, 2, none⟩ = some (.iface kt kv) ∧ w'.cell? ⟨sb, 8, none⟩ = some (.string ⟨#[]⟩) ∧ sb < w'.heap.size ∧ Hid (Fr [] w w') := by
        refine h52.mono ?_
        intro e w' hp
        unfold ValPost at hp
        rw [if_neg (by decide)] at hp
        obtain ⟨eb, a, l, kv, rfl, hc, hf2⟩ := hp
        have hf3 : Fr [] w w' := hf.trans_new hf2 (fun x hx => by simp at hx; subst hx; right; exact hb)
        exact ⟨eb, kv, rfl, hc.cell 2 rfl, (cell_fr hf3 hsb (by simp)).trans hs8, Nat.lt_of_lt_of_le hsb hf3.size, Lib.hid hf3⟩
      have HE : Hid (∀ (w' : World) p, Fr [] w w' → SchPost w false (.returned (.iface 127 (.pointer (some p)))) w') := Lib.hid fun w' p hf => ⟨by rw [if_neg (by decide)]; exact ⟨p, rfl⟩, hf⟩
      clear h52 hf hb hs8
      go_upto_region 10 with (go_at_call 52; (with_reducible refine h52'.mono ?_); rintro e w1 ⟨eb, kv, rfl, q2, q8, hlt, HF⟩)
      have HW := Lib.hid (HF.out.alloc (.cells #[.pointer (some ⟨eb, 0, none⟩)] 127))
      have q8' : (w1.alloc (.cells #[.pointer (some ⟨eb, 0, none⟩)] 127)).cell? ⟨sb, 8, none⟩ = some (.string ⟨#[]⟩) := (cell_fr ((Fr.refl [] w1).alloc _) hlt (by simp)).trans q8
      have hlt' : sb < (w1.alloc (.cells #[.pointer (some ⟨eb, 0, none⟩)] 127)).heap.size := Nat.lt_of_lt_of_le hlt ((Fr.refl [] w1).alloc _).size
      generalize World.alloc w1 _ = w2 at *
      clear q8 hlt q2 HF h52'
      have hne := World.new_ne w2 ⟨sb, 8, none⟩ q8'
      go_region_held3 (fun w' => w'.cell? ⟨sb, 8, none⟩ = some (.string ⟨#[]⟩)) (first | exact q8' | go_keep) ((fail))
      all_goals
        go_wp2_with fail
        go_ret
        exact HE.out _ _ (by repeat (first | exact HW.out | apply Fr.drew | apply Fr.alloc))

set_option maxRecDepth 100000 in
/-- Schema.Validate -/
theorem schemaValidate {S : ByteArray} {w : World} {sb : Nat} {ok : Bool} (h : Calls Tryz.prog 34 #[.pointer (some ⟨sb, 0, none⟩), .iface 44 (.string S)] w (SchPost w ok)) :
    Calls Tryz.prog 19 #[.pointer (some ⟨sb, 0, none⟩), .iface 44 (.string S)] w (SchPost w ok) := by
  have h' : Calls Tryz.prog 34 #[.pointer (some ⟨sb, 0, none⟩), .iface 44 (.string S)] w fun e w' => ∃ v, e = .returned v ∧ Hid (SchPost w ok (.returned v) w') := by
    refine h.mono ?_
    intro e w' hp
    obtain ⟨h1, h2⟩ := id hp
    cases ok with
    | true => rw [if_pos rfl] at h1; subst h1; exact ⟨_, rfl, Lib.hid hp⟩
    | false => rw [if_neg (by decide)] at h1; obtain ⟨p, rfl⟩ := h1; exact ⟨_, rfl, Lib.hid hp⟩
  clear h
  go_enter Tryz.func19, Tryz.ntmps19
  go_wp2_with (go_at_call 34; (with_reducible refine h'.mono ?_); rintro e w1 ⟨v, rfl, HP⟩)
  go_ret
  exact HP.out
end Go.Proofs.YtpmggjplfcjkkaaGreatDoor
