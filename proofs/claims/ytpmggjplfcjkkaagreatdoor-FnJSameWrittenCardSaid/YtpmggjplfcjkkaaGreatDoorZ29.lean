/- Rat.SetString, whole: a text that writes a number gives that number in lowest terms. -/
import Derived.Test.YtpmggjplfcjkkaaGreatDoorZ26
import Derived.Test.YtpmggjplfcjkkaaGreatDoorZ27
import Derived.Test.YtpmggjplfcjkkaaGreatDoorZ28
import Derived.Test.YtpmggjplfcjkkaaGreatDoorZ25
import Derived.Deep.RegionHeld3
import Derived.Deep.RegionWith
import Derived.Test.YtpmggjplfcjkkaaGreatDoorZ17
import Derived.BigQuiet
set_option linter.unusedVariables false
set_option linter.unusedSimpArgs false
namespace Go.Proofs.YtpmggjplfcjkkaaGreatDoor
open Go.RowKit Nq

theorem setString {rb : Nat} {S : ByteArray} {neg : Bool} {I F : List Nat} {dot : Bool} {ex : Int} {eb : Addr} {w : World} (hz : Cells w rb #[.bool false, .slice none 0 0, .bool false, .slice none 0 0] 101) (N : NumT S neg I F dot ex) (hT : Th w) (hE : w.cell? ⟨0, 0, none⟩ = some (.iface 418 (.pointer (some eb)))) (h14 : 14 ≤ rb) :
    Calls Tryz.prog 50 #[.pointer (some ⟨rb, 0, none⟩), .string S] w (SetPost w rb (neg && dval (I ++ F) != 0) (rn (dval (I ++ F)) (ex - F.length)) (rd (dval (I ++ F)) (ex - F.length))) := by
  have P := setPre hz N hT hE h14
  have hMl : dval (I ++ F) < 10 ^ 100 := Nat.lt_of_lt_of_le (dval_lt N.txt.dig) (Nat.pow_le_pow_right (by decide) (by simpa using N.len))
  have hex := N.exl
  have hF : F.length ≤ 100 := by have := N.len; omega
  have hnf := N.txt.nf
  generalize dval (I ++ F) = M at *
  by_cases h0 : M = 0
  · have := setString_zero P h0
    rw [h0, rn_zero, rd_zero]
    simpa using this
  · have hM0 : 0 < M := by omega
    have hb : (neg && M != 0) = neg := by simp [h0]
    rw [hb]
    obtain ⟨cnt, hcnt⟩ : ∃ cnt : Int, (if dot then -(F.length : Int) else I.length) = cnt := ⟨_, rfl⟩
    rw [hcnt] at P
    have hf : -(F.length : Int) = if cnt < 0 then cnt else 0 := by
      have hcn : cnt = -(F.length : Int) ∨ (F.length = 0 ∧ 0 ≤ cnt) := by
        cases dot with
        | true => left; rw [if_pos rfl] at hcnt; exact hcnt.symm
        | false => right; rw [if_neg (by decide)] at hcnt; exact ⟨by rw [hnf rfl]; rfl, by omega⟩
      split <;> omega
    obtain ⟨E, hE'⟩ : ∃ E : Int, ex - (F.length : Int) = E := ⟨_, rfl⟩
    rw [hE']
    unfold rn rd
    by_cases e0 : E = 0
    · exact setString_e0 P hM0 hMl hf (by omega) (by omega) hex.1 hex.2 (by omega) e0
    · by_cases hp : 0 < E
      · obtain ⟨k, rfl⟩ : ∃ k : Nat, E = k := ⟨E.toNat, by omega⟩
        exact setString_pos P hM0 hMl hf (by omega) (by omega) hex.1 hex.2 (by omega) (by omega) (by omega)
      · obtain ⟨k, rfl⟩ : ∃ k : Nat, E = -(k : Int) := ⟨(-E).toNat, by omega⟩
        exact setString_neg P hM0 hMl hf (by omega) (by omega) hex.1 hex.2 (by omega) (by omega) (by omega)
end Go.Proofs.YtpmggjplfcjkkaaGreatDoor

/- jsonwhole.Rat: a number's text as a rational. -/
set_option linter.unusedVariables false
set_option linter.unusedSimpArgs false
namespace Go.Proofs.YtpmggjplfcjkkaaGreatDoor
open Go.RowKit Nq
attribute [local go_sem] as44

/-- The world that the calls need: the thresholds, io.EOF. -/
structure Wo (w : World) : Prop where
  t : Th w
  e : ∃ eb : Addr, w.cell? ⟨0, 0, none⟩ = some (.iface 418 (.pointer (some eb)))
theorem Wo.fr {S : List Nat} {w w' : World} (h : Wo w) (hf : Fr S w w') (hS : ∀ b ∈ S, 14 ≤ b) : Wo w' := by
  obtain ⟨eb, he⟩ := h.e
  have := h.t.size
  exact ⟨h.t.fr hf hS, eb, (cell_fr hf (by omega) (fun hin => by have := hS _ hin; omega)).trans he⟩
theorem Wo.fr0 {w w' : World} (h : Wo w) (hf : Fr [] w w') : Wo w' := h.fr hf (by simp)

/-- A fresh rational. -/
structure NewRat (w : World) (rb : Nat) (neg : Bool) (n d : Nat) (w' : World) : Prop where
  is : ∃ ao bo nb, RatIs w' rb ao bo neg nb n d ∧ (∀ x, ao = some x → w.heap.size ≤ x) ∧ ∀ x, bo = some x → w.heap.size ≤ x
  fr : Fr [] w w'
  new : w.heap.size ≤ rb

abbrev ratNew : Obj := .cells #[.bool false, .slice none 0 0, .bool false, .slice none 0 0] 101
theorem newRat {S : ByteArray} {neg : Bool} {I F : List Nat} {dot : Bool} {ex : Int} {w : World} (N : NumT S neg I F dot ex) (h : Wo w) :
    Calls Tryz.prog 50 #[.pointer (some ⟨w.heap.size, 0, none⟩), .string S] (w.alloc ratNew) fun e w' => e = .returned (.tuple #[.pointer (some ⟨w.heap.size, 0, none⟩), .bool true]) ∧ NewRat w w.heap.size (neg && dval (I ++ F) != 0) (rn (dval (I ++ F)) (ex - F.length)) (rd (dval (I ++ F)) (ex - F.length)) w' := by
  have f1 : Fr [] w (w.alloc ratNew) := (Fr.refl _ _).alloc _
  have h1 := h.fr0 f1
  obtain ⟨eb, he⟩ := h1.e
  have hsz : (w.alloc ratNew).heap.size = w.heap.size + 1 := size_alloc _ _
  refine (setString (Cells.new w _ 101) N h1.t he (by have := h.t.size; omega)).mono ?_
  rintro e w' ⟨rfl, ao, bo, nb, h2, h3, h4, h5⟩
  exact ⟨rfl, ⟨ao, bo, nb, h2, fun x hx => Nat.le_trans f1.size (h4 x hx), fun x hx => Nat.le_trans f1.size (h5 x hx)⟩, f1.trans_new h3 (fun x hx => by simp at hx; subst hx; right; omega), Nat.le_refl _⟩

/-- What Rat hands back. -/
def RatPost (w : World) (neg : Bool) (n d : Nat) (e : Ending) (w' : World) : Prop := ∃ rb, e = .returned (.pointer (some ⟨rb, 0, none⟩)) ∧ NewRat w rb neg n d w'

set_option maxRecDepth 100000 in
set_option maxHeartbeats 1000000 in
theorem numVal {S : ByteArray} {neg : Bool} {I F : List Nat} {dot : Bool} {ex : Int} {cb mb : Nat} {w : World} (N : NumT S neg I F dot ex) (h : Wo w) (hc : w.cell? ⟨cb, 1, none⟩ = some (.map (some mb))) (hm : w.heap[mb]? = some (.map #[⟨.string ⟨#[110]⟩, .iface 44 (.string S), 0⟩] 1)) :
    Calls Tryz.prog 32 #[.pointer (some ⟨cb, 0, none⟩), .string ⟨#[110]⟩] w (RatPost w (neg && dval (I ++ F) != 0) (rn (dval (I ++ F)) (ex - F.length)) (rd (dval (I ++ F)) (ex - F.length))) := by
  have h50 := newRat N h
  have hl := run_lookup_one hm
  generalize (neg && dval (I ++ F) != 0) = ng at *
  generalize rn (dval (I ++ F)) (ex - F.length) = n at *
  generalize rd (dval (I ++ F)) (ex - F.length) = d at *
  clear N h hm
  go_enter Tryz.func32, Tryz.ntmps32
  go_wp2_with (go_at_call 50; (with_reducible refine h50.mono ?_); rintro e w1 ⟨rfl, hn⟩; have HN := Lib.hid hn; clear hn h50)
  go_ret
  exact ⟨_, rfl, HN.out⟩

set_option maxRecDepth 100000 in
set_option maxHeartbeats 1000000 in
/-- jsonwhole.Rat -/
theorem wholeRat {S : ByteArray} {neg : Bool} {I F : List Nat} {dot : Bool} {ex : Int} {w : World} (N : NumT S neg I F dot ex) (h : Wo w) :
    Calls Tryz.prog 17 #[.string S] w (RatPost w (neg && dval (I ++ F) != 0) (rn (dval (I ++ F)) (ex - F.length)) (rd (dval (I ++ F)) (ex - F.length))) := by
  have hu := run_first_entry w ⟨#[110]⟩ (.iface 44 (.string S))
  have f1 : Fr [] w (w.alloc (.map #[⟨.string ⟨#[110]⟩, .iface 44 (.string S), 0⟩] 1)) := (Fr.refl _ _).alloc _
  have H32 : Hid (∀ w2 cb, Fr [] w w2 → w2.cell? ⟨cb, 1, none⟩ = some (.map (some w.heap.size)) → w2.heap[w.heap.size]? = some (.map #[⟨.string ⟨#[110]⟩, .iface 44 (.string S), 0⟩] 1) → Calls Tryz.prog 32 #[.pointer (some ⟨cb, 0, none⟩), .string ⟨#[110]⟩] w2 (RatPost w (neg && dval (I ++ F) != 0) (rn (dval (I ++ F)) (ex - F.length)) (rd (dval (I ++ F)) (ex - F.length)))) := by
    refine Lib.hid fun w2 cb hf hc hm => (numVal N (h.fr0 hf) hc hm).mono ?_
    rintro e w3 ⟨rb, rfl, ⟨ao, bo, nb, h1, h2, h3⟩, h4, h5⟩
    have hs := hf.size
    exact ⟨rb, rfl, ⟨ao, bo, nb, h1, fun x hx => Nat.le_trans hs (h2 x hx), fun x hx => Nat.le_trans hs (h3 x hx)⟩, hf.trans h4, Nat.le_trans hs h5⟩
  generalize (neg && dval (I ++ F) != 0) = ng at *
  generalize rn (dval (I ++ F)) (ex - F.length) = n at *
  generalize rd (dval (I ++ F)) (ex - F.length) = d at *
  clear N h f1
  have hmk : (Instr.makeMap 61 none).run Tryz.prog w = .ok (.map (some w.heap.size)) (w.alloc (.map #[] 0)) := run_makeMap_plain w 61
  have hcall : Calls Tryz.prog 32 #[.pointer (some ⟨w.heap.size + 1, 0, none⟩), .string ⟨#[110]⟩] ((w.alloc (.map #[⟨.string ⟨#[110]⟩, .iface 44 (.string S), 0⟩] 1)).alloc (.cells #[.pointer none, .map (some w.heap.size), .string ⟨#[]⟩, .string ⟨#[]⟩, .pointer none, .pointer none, .pointer none] 94)) (RatPost w ng n d) := by
    have hs : (w.alloc (.map #[⟨.string ⟨#[110]⟩, .iface 44 (.string S), 0⟩] 1)).heap.size = w.heap.size + 1 := size_alloc _ _
    have hc := Cells.new (w.alloc (.map #[⟨.string ⟨#[110]⟩, .iface 44 (.string S), 0⟩] 1)) #[.pointer none, .map (some w.heap.size), .string ⟨#[]⟩, .string ⟨#[]⟩, .pointer none, .pointer none, .pointer none] 94
    rw [hs] at hc
    refine H32.out _ _ (((Fr.refl [] w).alloc _).alloc _) (hc.cell 1 rfl) ?_
    rw [Below.heap_alloc _ _ _ (by rw [hs]; omega)]
    exact alloc_at w _
  clear H32
  go_enter Tryz.func17, Tryz.ntmps17
  go_wp2_with (go_at_call 32; (with_reducible refine hcall.mono ?_); rintro e w2 ⟨rb, rfl, hn⟩; have HN := Lib.hid hn; clear hn hcall)
  go_ret
  exact ⟨rb, rfl, HN.out⟩
end Go.Proofs.YtpmggjplfcjkkaaGreatDoor

/- The validator's errors. -/
set_option linter.unusedVariables false
set_option linter.unusedSimpArgs false
namespace Go.Proofs.YtpmggjplfcjkkaaGreatDoor
open Go.RowKit Nq

def CloneEmpty (w : World) (e : Ending) (w' : World) : Prop := ∃ a c, e = .returned (.slice a 0 c) ∧ Fr [] w w'
set_option maxRecDepth 100000 in
set_option maxHeartbeats 1000000 in
theorem cloneEmpty (lb lc : Nat) (w : World) : Calls Tryz.prog 185 #[.slice (some ⟨lb, 0, none⟩) 0 lc] w (CloneEmpty w) := by
  have he : (binOp .eql 30 (.slice (some ⟨lb, 0, none⟩) 0 lc) (.slice none 0 0)).run Tryz.prog w = .ok (.bool false) w := Lib.run_eql_slice_nil w 30 9 (some ⟨lb, 0, none⟩) 0 lc 0 0 (by kernel_rfl)
  go_enter Tryz.func185, Tryz.ntmps185
  go_wp2
  go_ret
  exact ⟨_, _, rfl, (Fr.refl _ _).alloc _⟩
set_option maxRecDepth 100000 in
set_option maxHeartbeats 1000000 in
theorem instLoc {w : World} {vb sb scb ub lc lb : Nat} {S : ByteArray} {ev : Value} (h : Vd w vb S sb scb ub (some ⟨lb, 0, none⟩) lc ev) : Calls Tryz.prog 125 #[.pointer (some ⟨vb, 0, none⟩)] w (CloneEmpty w) := by
  have c1 := h.v.cell 1 rfl
  have hc := cloneEmpty lb lc w
  clear h
  go_enter Tryz.func125, Tryz.ntmps125
  go_wp2_with (go_at_call 185; (with_reducible refine hc.mono ?_); rintro e w1 ⟨a, c, rfl, hf⟩; have HF := Lib.hid hf; clear hf)
  go_ret
  exact ⟨_, _, rfl, HF.out⟩

/-- An error made by the validator. -/
def ErrPost (w : World) (kt : TypeId) (kv : Value) (e : Ending) (w' : World) : Prop :=
  ∃ eb a c, e = .returned (.pointer (some ⟨eb, 0, none⟩)) ∧ Cells w' eb #[.string ⟨#[]⟩, .slice a 0 c, .iface kt kv, .slice none 0 0] 131 ∧ Fr [] w w' ∧ w.heap.size ≤ eb
set_option maxRecDepth 100000 in
set_option maxHeartbeats 1000000 in
theorem vdError {w : World} {vb sb scb ub lc lb : Nat} {S : ByteArray} {ev : Value} {tp mp : Option Addr} (kt : TypeId) (kv : Value) (h : Vd w vb S sb scb ub (some ⟨lb, 0, none⟩) lc ev) (hs : Sch w sb tp mp) :
    Calls Tryz.prog 72 #[.pointer (some ⟨vb, 0, none⟩), .iface kt kv] w (ErrPost w kt kv) := by
  have c6 := h.v.cell 6 rfl
  have c2 : w.drew.cell? ⟨vb, 2, none⟩ = some (.pointer (some ⟨sb, 0, none⟩)) := h.v.cell 2 rfl
  have s8 : w.drew.cell? ⟨sb, 8, none⟩ = some (.string ⟨#[]⟩) := Cells.cell hs 8 rfl
  have f0 : Fr [] w w.drew := (Fr.refl [] w).drewN 1
  have hc := instLoc (h.fr f0 (by simp) (by simp))
  have hvb := h.v.lt
  have hsb : sb < w.heap.size := Cells.lt hs
  have HK : Hid (∀ w1, Fr [] w.drew w1 → w1.cell? ⟨vb, 2, none⟩ = some (.pointer (some ⟨sb, 0, none⟩)) ∧ w1.cell? ⟨sb, 8, none⟩ = some (.string ⟨#[]⟩)) :=
    Lib.hid fun w1 f => ⟨(cell_fr f hvb (by simp)).trans c2, (cell_fr f hsb (by simp)).trans s8⟩
  clear h hs hvb hsb
  go_enter Tryz.func72, Tryz.ntmps72
  go_wp2_with fail
  go_region_held3 (fun w' => w'.cell? ⟨vb, 2, none⟩ = some (.pointer (some ⟨sb, 0, none⟩)) ∧ w'.cell? ⟨sb, 8, none⟩ = some (.string ⟨#[]⟩)) (first | exact ⟨c2, s8⟩ | exact hk | go_keep) ((go_at_call 125; (with_reducible refine hc.mono ?_); rintro e w1 ⟨a, c, rfl, hf⟩; have HF := Lib.hid hf; have hk := HK.out w1 hf; clear hf))
  go_wp2_with fail
  go_ret
  exact ⟨w1.heap.size, a, c, rfl, Cells.new w1 _ _, (f0.trans HF.out).alloc _, Nat.le_trans (Nat.le_refl _) HF.out.size⟩

/-- An error is noted. -/
def Noted (w : World) (vb : Nat) (S : ByteArray) (sb scb ub lc lb : Nat) (kt : TypeId) (kv : Value) (e : Ending) (w' : World) : Prop :=
  e = .returned (.tuple #[]) ∧ ∃ ab c eb a l, Vd w' vb S sb scb ub (some ⟨lb, 0, none⟩) lc (.slice (some ⟨ab, 0, none⟩) 1 c) ∧ w'.cell? ⟨ab, 0, none⟩ = some (.pointer (some ⟨eb, 0, none⟩)) ∧ Cells w' eb #[.string ⟨#[]⟩, .slice a 0 l, .iface kt kv, .slice none 0 0] 131 ∧ Fr [vb] w w'
theorem Noted.mk {w w1 : World} {vb sb scb ub lc lb eb l c : Nat} {S : ByteArray} {kt : TypeId} {kv : Value} {a : Option Addr} {Z : Array Value} {O1 : Obj} (h : Vd w vb S sb scb ub (some ⟨lb, 0, none⟩) lc (.slice none 0 0)) (he : Cells w1 eb #[.string ⟨#[]⟩, .slice a 0 l, .iface kt kv, .slice none 0 0] 131) (hf : Fr [] w w1) (hb : w.heap.size ≤ eb) :
    Noted w vb S sb scb ub lc lb kt kv (.returned (.tuple #[])) ((((w1.setCell ⟨vb, 5, none⟩ (.slice (some ⟨w1.heap.size + 1, 0, none⟩) 1 c)).alloc O1).alloc (.cells (#[.pointer (some ⟨eb, 0, none⟩)] ++ Z) 127)).drew) := by
  have hvb := h.v.lt
  have hs1 : (w1.setCell ⟨vb, 5, none⟩ (.slice (some ⟨w1.heap.size + 1, 0, none⟩) 1 c)).heap.size = w1.heap.size := size_set _ _ _
  have h1 := h.fr hf (by simp) (by simp)
  have f1 : Fr [vb] w1 (w1.setCell ⟨vb, 5, none⟩ (.slice (some ⟨w1.heap.size + 1, 0, none⟩) 1 c)) := (Fr.refl _ _).set (.inl (by simp)) _ _
  have h2 : Vd (w1.setCell ⟨vb, 5, none⟩ (.slice (some ⟨w1.heap.size + 1, 0, none⟩) 1 c)) vb S sb scb ub (some ⟨lb, 0, none⟩) lc (.slice (some ⟨w1.heap.size + 1, 0, none⟩) 1 c) :=
    ⟨h1.v.set 5 _, h1.s.fr f1 (by simpa using h.ne.1), h.ne⟩
  have he2 := he.fr f1 (by simp; omega)
  generalize w1.setCell ⟨vb, 5, none⟩ (.slice (some ⟨w1.heap.size + 1, 0, none⟩) 1 c) = w2 at *
  have f2 : Fr [] w2 ((w2.alloc O1).alloc (.cells (#[.pointer (some ⟨eb, 0, none⟩)] ++ Z) 127)).drew := (((Fr.refl _ _).alloc _).alloc _).drew
  have hs2 : (w2.alloc O1).heap.size = w1.heap.size + 1 := by rw [size_alloc, hs1]
  have hc := Cells.new (w2.alloc O1) (#[.pointer (some ⟨eb, 0, none⟩)] ++ Z) 127
  rw [hs2] at hc
  refine ⟨rfl, w1.heap.size + 1, c, eb, a, l, h2.fr f2 (by simp) (by simp), ?_, he2.fr f2 (by simp), ((hf.mono (by simp)).trans f1).trans (f2.mono (by simp))⟩
  exact Cells.cell (hc.drewN 1) 0 (by rw [Array.getElem?_append_left (Nat.zero_lt_one)]; rfl)
set_option maxRecDepth 100000 in
set_option maxHeartbeats 2000000 in
theorem addError {w : World} {vb sb scb ub lc lb : Nat} {S : ByteArray} {tp mp : Option Addr} (kt : TypeId) (kv : Value) (h : Vd w vb S sb scb ub (some ⟨lb, 0, none⟩) lc (.slice none 0 0)) (hs : Sch w sb tp mp) :
    Calls Tryz.prog 129 #[.pointer (some ⟨vb, 0, none⟩), .iface kt kv] w (Noted w vb S sb scb ub lc lb kt kv) := by
  have f0 : Fr [] w w.drew := (Fr.refl [] w).drewN 1
  have c5 : w.cell? ⟨vb, 5, none⟩ = some (.slice none 0 0) := h.v.cell 5 rfl
  have hvb := h.v.lt
  have hc : Calls Tryz.prog 72 #[.pointer (some ⟨vb, 0, none⟩), .iface kt kv] w.drew fun e w1 => ∃ eb a c, e = .returned (.pointer (some ⟨eb, 0, none⟩)) ∧ w1.cell? ⟨vb, 5, none⟩ = some (.slice none 0 0) ∧ w1.frozen? ⟨vb, 5, none⟩ = false ∧ vb < w1.heap.size ∧ Hid (Cells w1 eb #[.string ⟨#[]⟩, .slice a 0 c, .iface kt kv, .slice none 0 0] 131 ∧ Fr [] w w1 ∧ w.heap.size ≤ eb) := by
    refine (vdError kt kv (h.fr f0 (by simp) (by simp)) (hs.fr f0 (by simp))).mono ?_
    rintro e w1 ⟨eb, a, c, rfl, h1, h2, h3⟩
    have hv := (h.fr f0 (by simp) (by simp)).fr h2 (by simp) (by simp)
    exact ⟨eb, a, c, rfl, hv.v.cell 5 rfl, hv.v.frozen 5, hv.v.lt, Lib.hid ⟨h1, f0.trans h2, h3⟩⟩
  have H := Lib.hid h
  clear h hs f0
  go_enter Tryz.func129, Tryz.ntmps129
  refine wp_region_noPanic ?_
  go_region_with (go_at_call 72; (with_reducible refine hc.mono ?_); rintro e w1 ⟨eb, a, l, rfl, d5, z5, hv1, HP⟩)
  all_goals refine NoPanic.normal ?_
  all_goals exact ⟨rfl, .tuple #[], results_none rfl _ _ _, rfl, (Noted.mk H.out HP.out.1 HP.out.2.1 HP.out.2.2).2⟩
end Go.Proofs.YtpmggjplfcjkkaaGreatDoor

/- IsInt, Sign. -/
set_option linter.unusedVariables false
set_option linter.unusedSimpArgs false
namespace Go.Proofs.YtpmggjplfcjkkaaGreatDoor
open Go.RowKit Nq

set_option maxRecDepth 100000 in
set_option maxHeartbeats 2000000 in
theorem ratIsInt {rb : Nat} {ao bo : Option Nat} {na nb : Bool} {n d : Nat} {w : World} (h : RatIs w rb ao bo na nb n d) (d0 : 0 < d) :
    Calls Tryz.prog 127 #[.pointer (some ⟨rb, 0, none⟩)] w fun e w' => e = .returned (.bool (decide (d = 1))) ∧ Fr [] w w' := by
  obtain ⟨a, l, c, a', l', c', c0, c1, c2, c3, i1, i2, e1, e2, l1, l2⟩ := h.cells
  have hl' : 0 < l' := by
    rcases Nat.eq_zero_or_pos l' with e | e
    · have := e2.1 e; omega
    · exact e
  have hd2 : ((l' : Int) == 0) = false := by rw [beq_eq_false_iff_ne]; omega
  have h1 : Calls Tryz.prog 168 #[] w.drew fun e w' => e = .returned (.slice (some ⟨w.heap.size, 0, none⟩) 1 1) ∧ w' = (w.alloc (.cells #[.int .u64 1] 168)).drew := natOne w.drew
  have f1 : Fr [] w (w.alloc (.cells #[.int .u64 1] 168)) := (Fr.refl _ _).alloc _
  have c3' : (w.alloc (.cells #[.int .u64 1] 168)).cell? ⟨rb, 3, none⟩ = some (.slice a' l' c') := (cell_fr f1 h.lt.1 (by simp)).trans c3
  have hcmp : Calls Tryz.prog 57 #[.slice a' l' c', .slice (some ⟨w.heap.size, 0, none⟩) 1 1] (w.alloc (.cells #[.int .u64 1] 168)).drew fun e w' => e = .returned (.int .i64 (cmpW d 1)) ∧ Hid (Fr [] w w') ∧ w'.cell? ⟨rb, 3, none⟩ = some (.slice a' l' c') := by
    refine (cmp_N (i2.fr ((f1.drewN 1)) (by simp)) ((new_word w 1 (by rw [Bw_eq]; omega) (by omega)).drewN 1)).mono ?_
    rintro e w' ⟨rfl, k, rfl⟩
    have f2 : Fr [] w (((w.alloc (.cells #[.int .u64 1] 168)).drewN 1).drewN k) := (f1.drewN 1).drewN k
    exact ⟨rfl, Lib.hid f2, (cell_fr f2 h.lt.1 (by simp)).trans c3⟩
  obtain ⟨cw, hcw⟩ : ∃ c : Int, c = cmpW d 1 := ⟨_, rfl⟩
  rw [← hcw] at hcmp
  have hres : (decide (d = 1) = true ∧ cw = 0) ∨ (decide (d = 1) = false ∧ cw = 1) := by
    rcases Nat.lt_trichotomy d 1 with h | h | h
    · omega
    · left; subst h; exact ⟨rfl, by rw [hcw]; exact cmpW_eq 1⟩
    · right; exact ⟨by simp; omega, by rw [hcw]; exact cmpW_gt h⟩
  clear hcw h i1 i2 e1 e2 c0 c1 c2 d0 f1
  rcases hres with ⟨r1, rfl⟩ | ⟨r1, rfl⟩
  all_goals
    rw [r1]
    clear r1
    go_enter Tryz.func127, Tryz.ntmps127
    go_wp2_with fail
    go_region_held3 (fun w' => w'.cell? ⟨rb, 3, none⟩ = some (.slice a' l' c')) (first | exact c3 | exact c3' | exact j1 | go_keep) ((first | (go_at_call 168; (with_reducible refine h1.mono ?_); rintro e w1 ⟨rfl, rfl⟩) | (go_at_call 57; (with_reducible refine hcmp.mono ?_); rintro e w2 ⟨rfl, hf, j1⟩)))
    all_goals go_wp2
    all_goals go_ret
    all_goals exact ⟨rfl, hf.out⟩

set_option maxRecDepth 100000 in
theorem intSign {bx ox : Nat} {xo : Option Nat} {xneg : Bool} {xn : Nat} {w : World} (hx : IntRd w bx ox xo xneg xn) :
    Calls Tryz.prog 33 #[.pointer (some ⟨bx, ox, none⟩)] w fun e w' => e = .returned (.int .i64 (if xn = 0 then 0 else if xneg then -1 else 1)) ∧ w' = w := by
  obtain ⟨v, T, vs, x1, xT, x2, x3, x4⟩ := hx
  have c1 := x1.cell ox x2
  have c2 := x1.cell (ox + 1) x3
  obtain ⟨a, l, c, rfl, e1, e2, e3⟩ := x4.len
  by_cases h0 : xn = 0
  · have hl := e1.2 h0
    subst hl
    rw [if_pos h0]
    clear x1 x2 x3 x4 e1 e2
    go_enter Tryz.func33, Tryz.ntmps33
    go_wp2
    go_ret
    exact ⟨rfl, rfl⟩
  · have hl : ((l : Int) == 0) = false := by
      rw [beq_eq_false_iff_ne]
      intro e
      exact h0 (e1.1 (by omega))
    rw [if_neg h0]
    clear x1 x2 x3 x4 e1 e2
    cases xneg
    all_goals
      go_enter Tryz.func33, Tryz.ntmps33
      go_wp2
      go_ret
      exact ⟨rfl, rfl⟩
set_option maxRecDepth 100000 in
theorem ratSign {rb : Nat} {ao bo : Option Nat} {na nb : Bool} {n d : Nat} {w : World} (h : RatIs w rb ao bo na nb n d) :
    Calls Tryz.prog 18 #[.pointer (some ⟨rb, 0, none⟩)] w fun e w' => e = .returned (.int .i64 (if n = 0 then 0 else if na then -1 else 1)) ∧ w' = w := by
  have h1 := intSign h.rda
  generalize (if n = 0 then (0 : Int) else if na then -1 else 1) = r at *
  clear h
  go_enter Tryz.func18, Tryz.ntmps18
  go_wp2_with (go_at_call 33; (with_reducible refine h1.mono ?_); rintro e w1 ⟨rfl, rfl⟩)
  go_ret
  exact ⟨rfl, rfl⟩
end Go.Proofs.YtpmggjplfcjkkaaGreatDoor

/- The number that numValidate makes once (its closure). -/
set_option linter.unusedVariables false
set_option linter.unusedSimpArgs false
namespace Go.Proofs.YtpmggjplfcjkkaaGreatDoor
open Go.RowKit Nq

/-- The closure's two variables: the number, the value. -/
structure Clo (w : World) (nb xb : Nat) (np : Option Addr) (S : ByteArray) : Prop where
  n : Cells w nb #[.pointer np] 42
  x : Cells w xb #[.iface 44 (.string S)] 20
  ne : nb ≠ xb
set_option maxRecDepth 100000 in
set_option maxHeartbeats 1000000 in
/-- The first call. -/
theorem numFirst {S : ByteArray} {neg : Bool} {I F : List Nat} {dot : Bool} {ex : Int} {nb xb : Nat} {w : World} (N : NumT S neg I F dot ex) (h : Wo w) (hc : Clo w nb xb none S) :
    Calls Tryz.prog 136 #[.pointer (some ⟨nb, 0, none⟩), .pointer (some ⟨xb, 0, none⟩)] w fun e w' => e = .returned (.pointer (some ⟨w.heap.size, 0, none⟩)) ∧ Hid (Clo w' nb xb (some ⟨w.heap.size, 0, none⟩) S ∧ (∃ ao bo nb', RatIs w' w.heap.size ao bo (neg && dval (I ++ F) != 0) nb' (rn (dval (I ++ F)) (ex - F.length)) (rd (dval (I ++ F)) (ex - F.length)) ∧ (∀ x, ao = some x → w.heap.size ≤ x) ∧ ∀ x, bo = some x → w.heap.size ≤ x) ∧ Fr [nb] w w') := by
  have h50 := newRat N h
  have h59 : ∀ w1, Calls Tryz.prog 59 #[.iface 44 (.string S)] w1 fun e w' => e = .returned (.string S) ∧ w1 = w' := numText_num S
  have c0 := hc.n.cell 0 rfl
  have x0 := hc.x.cell 0 rfl
  have hnb := hc.n.lt
  have hxb := hc.x.lt
  have hne := hc.ne
  have HK : Hid (∀ w1, NewRat w w.heap.size (neg && dval (I ++ F) != 0) (rn (dval (I ++ F)) (ex - F.length)) (rd (dval (I ++ F)) (ex - F.length)) w1 → (∃ x, w1.cell? ⟨nb, 0, none⟩ = some x) ∧ w1.frozen? ⟨nb, 0, none⟩ = false ∧ Hid (Clo (w1.setCell ⟨nb, 0, none⟩ (.pointer (some ⟨w.heap.size, 0, none⟩))) nb xb (some ⟨w.heap.size, 0, none⟩) S ∧ (∃ ao bo nb', RatIs (w1.setCell ⟨nb, 0, none⟩ (.pointer (some ⟨w.heap.size, 0, none⟩))) w.heap.size ao bo (neg && dval (I ++ F) != 0) nb' (rn (dval (I ++ F)) (ex - F.length)) (rd (dval (I ++ F)) (ex - F.length)) ∧ (∀ x, ao = some x → w.heap.size ≤ x) ∧ ∀ x, bo = some x → w.heap.size ≤ x) ∧ Fr [nb] w (w1.setCell ⟨nb, 0, none⟩ (.pointer (some ⟨w.heap.size, 0, none⟩))))) := by
    refine Lib.hid fun w1 hn => ?_
    obtain ⟨ao, bo, nb', r1, r2, r3⟩ := hn.is
    have hf := hn.fr
    have n1 := hc.n.fr hf (by simp)
    have f1 : Fr [nb] w1 (w1.setCell ⟨nb, 0, none⟩ (.pointer (some ⟨w.heap.size, 0, none⟩))) := (Fr.refl _ _).set (.inl (by simp)) _ _
    refine ⟨⟨_, n1.cell 0 rfl⟩, n1.frozen 0, Lib.hid ⟨⟨n1.set 0 _, (hc.x.fr hf (by simp)).fr f1 (by simpa using fun e => hne e.symm), hne⟩, ⟨ao, bo, nb', r1.fr f1 (by simp; omega) (fun x hx => by simp; have := r2 x hx; omega) (fun x hx => by simp; have := r3 x hx; omega), r2, r3⟩, (hf.mono (by simp)).trans f1⟩⟩
  generalize (neg && dval (I ++ F) != 0) = ng at *
  generalize rn (dval (I ++ F)) (ex - F.length) = n at *
  generalize rd (dval (I ++ F)) (ex - F.length) = d at *
  clear N h hc hne
  go_enter Tryz.func136, Tryz.ntmps136
  go_wp2_with (first | (go_at_call 59; (with_reducible refine (h59 _).mono ?_); rintro e w1 ⟨rfl, rfl⟩) | (go_at_call 50; (with_reducible refine h50.mono ?_); rintro e w1 ⟨rfl, hn⟩; obtain ⟨⟨x, k1⟩, k2, HP⟩ := HK.out w1 hn; clear hn h50 HK))
  go_ret
  exact ⟨rfl, HP⟩
set_option maxRecDepth 100000 in
/-- The later calls. -/
theorem numLater {S : ByteArray} {nb xb : Nat} {p : Addr} {w : World} (hc : Clo w nb xb (some p) S) : Calls Tryz.prog 136 #[.pointer (some ⟨nb, 0, none⟩), .pointer (some ⟨xb, 0, none⟩)] w fun e w' => e = .returned (.pointer (some p)) ∧ w = w' := by
  have c0 := hc.n.cell 0 rfl
  clear hc
  go_enter Tryz.func136, Tryz.ntmps136
  go_wp2_with fail
  go_ret
  exact ⟨rfl, rfl⟩
end Go.Proofs.YtpmggjplfcjkkaaGreatDoor

/- numValidate without keywords of numbers. -/
set_option linter.unusedVariables false
set_option linter.unusedSimpArgs false
namespace Go.Proofs.YtpmggjplfcjkkaaGreatDoor
open Go.RowKit Nq

theorem makeFun (fn : Fn) (first cap : Array Value) (w : World) : (Instr.makeFunc fn first cap).run Tryz.prog w = .ok (.func fn first cap) w := rfl
attribute [local go_sem] makeFun
set_option maxRecDepth 100000 in
set_option maxHeartbeats 2000000 in
theorem numValidate_none {w : World} {vb sb scb ub lc : Nat} {S : ByteArray} {la : Option Addr} {ev : Value} {tp : Option Addr} (h : Vd w vb S sb scb ub la lc ev) (hs : Sch w sb tp none) :
    Calls Tryz.prog 85 #[.pointer (some ⟨vb, 0, none⟩), .iface 44 (.string S)] w fun e w' => e = .returned (.tuple #[]) ∧ Fr [] w w' := by
  have f0 : Fr [] w ((w.alloc (.cells #[.iface 44 (.string S)] 20)).alloc (.cells #[.pointer none] 42)) := ((Fr.refl _ _).alloc _).alloc _
  have f1 : Fr [] w (w.alloc (.cells #[.iface 44 (.string S)] 20)) := (Fr.refl _ _).alloc _
  have c2 : (w.alloc (.cells #[.iface 44 (.string S)] 20)).cell? ⟨vb, 2, none⟩ = some (.pointer (some ⟨sb, 0, none⟩)) := (h.v.fr f1 (by simp)).cell 2 rfl
  have hs1 := hs.fr f0 (by simp)
  have s1 : ((w.alloc (.cells #[.iface 44 (.string S)] 20)).alloc (.cells #[.pointer none] 42)).cell? ⟨sb, 53, none⟩ = some (.pointer none) := Cells.cell hs1 53 rfl
  have s2 : ((w.alloc (.cells #[.iface 44 (.string S)] 20)).alloc (.cells #[.pointer none] 42)).cell? ⟨sb, 54, none⟩ = some (.pointer none) := Cells.cell hs1 54 rfl
  have s3 : ((w.alloc (.cells #[.iface 44 (.string S)] 20)).alloc (.cells #[.pointer none] 42)).cell? ⟨sb, 55, none⟩ = some (.pointer none) := Cells.cell hs1 55 rfl
  have s4 : ((w.alloc (.cells #[.iface 44 (.string S)] 20)).alloc (.cells #[.pointer none] 42)).cell? ⟨sb, 56, none⟩ = some (.pointer none) := Cells.cell hs1 56 rfl
  have s5 : ((w.alloc (.cells #[.iface 44 (.string S)] 20)).alloc (.cells #[.pointer none] 42)).cell? ⟨sb, 57, none⟩ = some (.pointer none) := Cells.cell hs1 57 rfl
  have HF := Lib.hid f0
  clear f0 f1 h hs hs1
  go_enter Tryz.func85, Tryz.ntmps85
  go_wp2_with fail
  generalize World.alloc (World.alloc _ _) _ = w1 at *
  clear c2
  go_quiet (fail)
  go_wp2_with fail
  go_quiet (fail)
  go_wp2_with fail
  go_quiet (fail)
  go_wp2_with fail
  go_quiet (fail)
  go_wp2_with fail
  exact ⟨rfl, .tuple #[], results_none rfl _ _ _, rfl, HF.out.drewN _⟩
end Go.Proofs.YtpmggjplfcjkkaaGreatDoor
