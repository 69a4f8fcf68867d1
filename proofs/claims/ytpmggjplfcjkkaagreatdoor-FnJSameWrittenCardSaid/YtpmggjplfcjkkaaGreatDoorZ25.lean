/- Rat.SetString: from the text to the mantissa and the exponent. -/
import Derived.Test.YtpmggjplfcjkkaaGreatDoorZ11
import Derived.Test.YtpmggjplfcjkkaaGreatDoorZ21
import Derived.Test.YtpmggjplfcjkkaaGreatDoorZ24
import Derived.Test.YtpmggjplfcjkkaaGreatDoorZ01
import Derived.WideMake
import Derived.MapKept
import Derived.Handy
import Derived.Deep.RegionHeld3
import Derived.Deep.RegionWith
set_option linter.unusedVariables false
set_option linter.unusedSimpArgs false
namespace Go.Proofs.YtpmggjplfcjkkaaGreatDoor
open Go.RowKit Nq

/-- Where the exponent begins. -/
def expAt (neg : Bool) (I F : List Nat) (dot : Bool) : Nat := (if neg then 1 else 0) + I.length + (if dot then 1 + F.length else 0)
/-- S writes a number: sign, digits, a point with digits or none, an exponent or none. -/
structure NumT (S : ByteArray) (neg : Bool) (I F : List Nat) (dot : Bool) (ex : Int) : Prop where
  sz : S.size ≤ 100000
  p : byteAt S 0 ≠ 43
  m : neg = (byteAt S 0 == 45)
  txt : Txt S (if neg then 1 else 0) I F dot
  ex : (expAt neg I F dot = S.size ∧ ex = 0) ∨ ∃ q sg D, ExpT S (expAt neg I F dot) q sg D ∧ ex = expV sg D
  ns : ∀ i, i < S.size → byteAt S i ≠ 47
  len : I.length + F.length ≤ 100

theorem NumT.pos {S : ByteArray} {neg : Bool} {I F : List Nat} {dot : Bool} {ex : Int} (h : NumT S neg I F dot ex) : 0 < S.size := by
  have h1 := h.txt.he
  have h2 := pos_of_ne h.txt.ni
  omega
theorem expV_le {sg : Option Bool} {D : List Nat} (h : ∀ d ∈ D, d < 10) (hl : D.length ≤ 2) : -99 ≤ expV sg D ∧ expV sg D ≤ 99 := by
  have h1 := dval_lt h
  have h2 : 10 ^ D.length ≤ 10 ^ 2 := Nat.pow_le_pow_right (by decide) hl
  unfold expV
  split <;> omega
theorem NumT.exl {S : ByteArray} {neg : Bool} {I F : List Nat} {dot : Bool} {ex : Int} (h : NumT S neg I F dot ex) : -99 ≤ ex ∧ ex ≤ 99 := by
  rcases h.ex with ⟨_, e⟩ | ⟨q, sg, D, h1, e⟩
  · rw [e]; decide
  · rw [e]; exact expV_le h1.d10 h1.l

/-- What stands in memory when the text is read. -/
structure Sr (w0 w : World) (rb : Nat) (zo : Option Nat) (M : Nat) : Prop where
  r : RatIs w rb zo none false false M 0
  nil : w.cell? ⟨rb, 3, none⟩ = some (.slice none 0 0)
  fr : Fr [rb] w0 w
  new : ∀ x, zo = some x → w0.heap.size ≤ x
theorem Sr.fr1 {w0 w w' : World} {rb b : Nat} {zo : Option Nat} {M : Nat} (h : Sr w0 w rb zo M) (hb : w0.heap.size ≤ b) (hrb : rb < w0.heap.size) (hz : zo ≠ some b) (hF : Fr [b] w w') : Sr w0 w' rb zo M := by
  have hne : rb ≠ b := by omega
  have hr := h.r.lt.1
  refine ⟨h.r.fr hF (by simpa using hne) (fun x hx => by simp; rintro rfl; exact hz hx) (by simp), ?_, h.fr.trans_new hF (fun x hx => by simp at hx; subst hx; exact .inr hb), h.new⟩
  rw [cell_fr hF hr (by simpa using hne)]; exact h.nil
theorem Sr.stk {w0 w : World} {rb : Nat} {zo : Option Nat} {M : Nat} (h : Sr w0 w rb zo M) (hrb : rb < w0.heap.size) (h14 : 14 ≤ rb) (hT : Th w0) : Sp w0 (w.alloc (.cells #[.pointer none] 139)) rb zo none M 0 w.heap.size ∧ (w.alloc (.cells #[.pointer none] 139)).cell? ⟨rb, 3, none⟩ = some (.slice none 0 0) := by
  have f : Fr [] w (w.alloc (.cells #[.pointer none] 139)) := (Fr.refl _ _).alloc _
  refine ⟨⟨h.r.fr f (by simp) (by simp) (by simp), .inl ⟨alloc_at w _, rfl, rfl⟩, h.fr.trans (f.mono (by simp)), fun x hx => ⟨h.new x hx, ?_⟩, by simp, h.fr.size, hrb, h14, hT⟩, ?_⟩
  · have := (h.r.lt.2.1 x hx).1; omega
  · rw [cell_fr f h.r.lt.1 (by simp)]; exact h.nil
/-- Behind the scan: the mantissa goes into the rational. -/
theorem Sr.of_scan {w0 w2 w3 : World} {rb b : Nat} {S : ByteArray} {pe M : Nat} {zv : Value} {zo : Option Nat} (hz : Cells w0 rb #[.bool false, .slice none 0 0, .bool false, .slice none 0 0] 101) (hF : Fr [] w0 w2) (hb : w0.heap.size ≤ b) (hb2 : b < w2.heap.size) (h : ScanEnd w2 b S pe M zv zo w3) :
    (∃ x, w3.cell? ⟨rb, 1, none⟩ = some x) ∧ w3.frozen? ⟨rb, 1, none⟩ = false ∧ Sr w0 (w3.setCell ⟨rb, 1, none⟩ zv) rb zo M ∧ Rdr (w3.setCell ⟨rb, 1, none⟩ zv) b S pe ∧ Fr [rb] w0 (w3.setCell ⟨rb, 1, none⟩ zv) ∧ zo ≠ some b := by
  have hlt := hz.lt
  have hne : rb ≠ b := by omega
  have c2 := hz.fr hF (by simp)
  have c3 := c2.fr h.fr (by simpa using hne)
  have f : Fr [rb] w3 (w3.setCell ⟨rb, 1, none⟩ zv) := (Fr.refl _ _).set (.inl (by simp)) _ _
  have hzr : ∀ x, zo = some x → x ≠ rb := fun x hx => h.is.ne_cells c3 (by decide) hx
  have fr : Fr [rb] w0 (w3.setCell ⟨rb, 1, none⟩ zv) := ((hF.mono (by simp)).trans_new h.fr (fun x hx => by simp at hx; subst hx; exact .inr hb)).trans f
  refine ⟨⟨_, c3.cell 1 rfl⟩, c3.frozen 1, ⟨⟨zv, .slice none 0 0, c3.set 1 zv, h.is.fr f (fun x hx => by simpa using hzr x hx), IsN.nil _, by simp⟩, (c3.set 1 zv).cell 3 rfl, fr, fun x hx => Nat.le_trans hF.size (h.new x hx)⟩, h.rdr.fr f (by simpa using fun e => hne e.symm), fr, fun e => ?_⟩
  have := h.new b e
  omega
end Go.Proofs.YtpmggjplfcjkkaaGreatDoor

/- The plain law of spec.jDecimalOf: what it takes is a number's text, and what it hands back has the number's value. -/
set_option linter.unusedVariables false
set_option linter.unusedSimpArgs false
namespace Go.Proofs.YtpmggjplfcjkkaaGreatDoor
open Go.RowKit Nq

theorem ext_ext {S : ByteArray} {c k : Nat} (hc : c ≤ S.size) : (S.extract c S.size).extract k (S.size - c) = S.extract (c + k) S.size := by
  rw [ByteArray.extract_extract]
  congr 1
  omega
theorem allDig_pos {V : ByteArray} (h : allDig V = true) : 0 < V.size := by
  unfold allDig at h
  simp at h
  exact h.2
theorem expU_some {S : ByteArray} {neg : Bool} {q : Nat} {ex : Int} (hq : q ≤ S.size) (h : expU neg (S.extract q S.size) = some ex) :
    ∃ D : List Nat, (∀ (j : Nat) (h : j < D.length), byteAt S (q + j) = 48 + D[j]) ∧ (∀ d ∈ D, d < 10) ∧ D ≠ [] ∧ D.length ≤ 2 ∧ q + D.length = S.size ∧ ex = if neg then -(dval D : Int) else dval D := by
  unfold expU at h
  split at h
  · rename_i hh
    have hz : (S.extract q S.size).size = S.size - q := by simp [ByteArray.size_extract]
    have hd := Dg.of_all hh.1
    have h0 := allDig_pos hh.1
    refine ⟨digs (S.extract q S.size), fun j hj => ?_, hd.ten, fun e => ?_, by rw [digs_len]; exact hh.2, by rw [digs_len]; omega, (Option.some.inj h).symm⟩
    · rw [digs_get]
      rw [digs_len] at hj
      have := hd j hj
      rw [byteAt_extract (Nat.le_refl _) (by omega)] at this ⊢
      omega
    · have := congrArg List.length e
      rw [digs_len] at this
      simp at this
      omega
  · exact absurd h (by simp)
theorem expF_num {S : ByteArray} {c : Nat} {ex : Int} (hc : c ≤ S.size) (h : expF (S.extract c S.size) = some ex) : (c = S.size ∧ ex = 0) ∨ ∃ q sg D, ExpT S c q sg D ∧ ex = expV sg D := by
  have hz : (S.extract c S.size).size = S.size - c := by simp [ByteArray.size_extract]
  unfold expF at h
  split at h
  · left; exact ⟨by omega, (Option.some.inj h).symm⟩
  · right
    rename_i h0
    split at h
    · rename_i he
      rw [byteAt_extract (Nat.le_refl _) (by omega)] at he
      have e1 : byteAt (S.extract c S.size) 1 = byteAt S (c + 1) := by
        by_cases hl : c + 1 < S.size
        · exact byteAt_extract (Nat.le_refl _) hl
        · unfold byteAt; rw [dif_neg (by omega), dif_neg hl]
      have e2 : (S.extract c S.size).extract 1 (S.extract c S.size).size = S.extract (c + 1) S.size := by rw [hz]; exact ext_ext hc
      rw [e2, hz, e1] at h
      have e3 : (S.extract (c + 1) S.size).extract 1 (S.size - c - 1) = S.extract (c + 1 + 1) S.size := by
        rw [Nat.sub_sub]; exact ext_ext (by omega)
      rw [e3] at h
      split at h
      · rename_i h45
        have hlt := byteAt_in h45 (by decide)
        obtain ⟨D, h1, h2, h3, h4, h5, h6⟩ := expU_some (by omega) h
        exact ⟨c + 2, some true, D, ⟨he, .inr (.inl ⟨rfl, rfl, h45⟩), h1, h2, h3, h4, h5⟩, h6⟩
      · split at h
        · rename_i h45 h43
          have hlt := byteAt_in h43 (by decide)
          obtain ⟨D, h1, h2, h3, h4, h5, h6⟩ := expU_some (by omega) h
          exact ⟨c + 2, some false, D, ⟨he, .inr (.inr ⟨rfl, rfl, h43⟩), h1, h2, h3, h4, h5⟩, h6⟩
        · obtain ⟨D, h1, h2, h3, h4, h5, h6⟩ := expU_some (by omega) h
          exact ⟨c + 1, none, D, ⟨he, .inl ⟨rfl, rfl⟩, h1, h2, h3, h4, h5⟩, h6⟩
    · exact absurd h (by simp)

theorem numT_of {S : ByteArray} {neg dot : Bool} {I F : List Nat} {ex : Int} {a c : Nat} (h40 : S.size ≤ 40) (hm : neg = (byteAt S 0 == 45)) (ha : (if neg then 1 else 0) = a) (hI : ∀ (j : Nat) (h : j < I.length), byteAt S (a + j) = 48 + I[j]) (hp : dot = true → byteAt S (a + I.length) = 46)
    (hF : ∀ (j : Nat) (h : j < F.length), byteAt S (a + I.length + 1 + j) = 48 + F[j]) (nf : dot = false → F = []) (di : ∀ d ∈ I, d < 10) (df : ∀ d ∈ F, d < 10) (ni : I ≠ []) (hc : a + I.length + (if dot then 1 + F.length else 0) = c) (hcS : c ≤ S.size) (hex : (c = S.size ∧ ex = 0) ∨ ∃ q sg D, ExpT S c q sg D ∧ ex = expV sg D) : NumT S neg I F dot ex := by
  have hl : 0 < I.length := List.length_pos_iff.2 ni
  refine ⟨by omega, ?_, hm, ?_, ?_, ?_, ?_⟩
  · cases neg with
    | true => have : byteAt S 0 = 45 := by simpa using hm.symm
              omega
    | false =>
      have h0 := hI 0 hl
      simp at ha
      subst ha
      simp at h0
      omega
  · rw [ha]
    refine ⟨hI, hp, hF, nf, di, df, ni, by rw [hc]; exact hcS, ?_⟩
    rw [hc]
    intro hlt
    rcases hex with ⟨h1, _⟩ | ⟨q, sg, D, h1, _⟩
    · omega
    · exact h1.e.symm
  · have : expAt neg I F dot = c := by unfold expAt; rw [ha]; exact hc
    rw [this]
    exact hex
  · intro i hi
    by_cases h1 : i < a
    · cases neg with
      | true =>
        have h45 : byteAt S 0 = 45 := by simpa using hm.symm
        simp at ha
        have : i = 0 := by omega
        subst this
        omega
      | false => simp at ha; omega
    by_cases h2 : i < a + I.length
    · have := hI (i - a) (by omega)
      rw [show a + (i - a) = i by omega] at this
      omega
    by_cases h3 : i < c
    · cases dot with
      | false => simp at hc; omega
      | true =>
        simp at hc
        by_cases h4 : i = a + I.length
        · have := hp rfl
          rw [← h4] at this
          omega
        · have := hF (i - a - I.length - 1) (by omega)
          rw [show a + I.length + 1 + (i - a - I.length - 1) = i by omega] at this
          omega
    rcases hex with ⟨h4, _⟩ | ⟨q, sg, D, h4, _⟩
    · omega
    · by_cases h5 : i = c
      · have := h4.e
        rw [← h5] at this
        omega
      by_cases h6 : i < q
      · have hs := h4.s
        have h7 : i = c + 1 := by omega
        rw [h7]
        omega
      · have hf := h4.fin
        have := h4.d (i - q) (by omega)
        rw [show q + (i - q) = i by have := h4.s; omega] at this
        omega
  · have h1 : I.length ≤ 40 := by omega
    cases dot with
    | false => rw [nf rfl]; simp; omega
    | true => simp at hc; omega

theorem decF_num {S : ByteArray} {r : Bool × ByteArray × Int} (h : decF S = some r) : ∃ neg I F dot ex, NumT S neg I F dot ex ∧ DecOk neg (dval (I ++ F)) (ex - (F.length : Nat)) r := by
  unfold decF at h
  split at h
  · exact absurd h (by simp)
  split at h
  · exact absurd h (by simp)
  split at h
  · exact absurd h (by simp)
  rename_i h40 hpl hq
  obtain ⟨ex, hex, hr⟩ := Option.map_eq_some_iff.1 h
  have ha := decAt_le S
  have hw := run_spec S ha
  have hw1 : decAt S ≤ decWh S := hw.1
  have hw2 : decWh S ≤ S.size := hw.2.1
  have hpl' : plainB (S.extract (decAt S) (decWh S)) = true := by simpa using hpl
  have hall : allDig (S.extract (decAt S) (decWh S)) = true := by
    unfold plainB at hpl'
    cases hh : allDig (S.extract (decAt S) (decWh S)) with
    | true => rfl
    | false => rw [hh, Bool.false_and] at hpl'; cases hpl'
  have hdI := Dg.of_all hall
  have h0I := allDig_pos hall
  have hzI : (S.extract (decAt S) (decWh S)).size = decWh S - decAt S := by simp [ByteArray.size_extract]; omega
  have hAt : (byteAt S 0 = 45 ∧ decAt S = 1) ∨ (byteAt S 0 ≠ 45 ∧ decAt S = 0) := by
    unfold decAt
    by_cases e : byteAt S 0 = 45
    · left; rw [if_pos e]; exact ⟨e, rfl⟩
    · right; rw [if_neg e]; exact ⟨e, rfl⟩
  have hm : (decAt S == 1) = (byteAt S 0 == 45) := by
    rcases hAt with ⟨h1, h2⟩ | ⟨h1, h2⟩
    · rw [h1, h2]; rfl
    · rw [h2, beq_eq_false_iff_ne.mpr h1]; rfl
  have hna : (if (decAt S == 1) = true then 1 else 0) = decAt S := by
    rcases hAt with ⟨h1, h2⟩ | ⟨h1, h2⟩ <;> rw [h2] <;> rfl
  have hxb := expF_bound hex
  have hget : ∀ (a b : Nat), b ≤ S.size → Dg (S.extract a b) → ∀ (j : Nat) (h : j < (digs (S.extract a b)).length), byteAt S (a + j) = 48 + (digs (S.extract a b))[j] := by
    intro a b hb hd j hj
    rw [digs_get]
    rw [digs_len] at hj
    have h1 := hd j hj
    have hz : (S.extract a b).size = b - a := by simp [ByteArray.size_extract]; omega
    rw [byteAt_extract hb (by omega)] at h1 ⊢
    omega
  have hI := hget _ _ hw2 hdI
  have hnI : digs (S.extract (decAt S) (decWh S)) ≠ [] := by
    intro e
    have := congrArg List.length e
    rw [digs_len] at this
    simp at this
    omega
  rcases decPart_cases S hw2 with ⟨hbS, hb46, hc⟩ | ⟨hn46, hc⟩
  · have hf := run_spec S (i := decWh S + 1) (by omega)
    rw [← hc] at hf
    have hne : decPart S ≠ decWh S + 1 := fun e => hq ⟨hb46, e⟩
    have hcS : decPart S ≤ S.size := hf.2.1
    have hzF : (S.extract (decWh S + 1) (decPart S)).size = decPart S - decWh S - 1 := by simp [ByteArray.size_extract]; omega
    have hdF : Dg (S.extract (decWh S + 1) (decPart S)) := by
      intro i hi
      rw [byteAt_extract hcS (by omega)]
      have := hf.2.2.1 (decWh S + 1 + i) (by omega) (by omega)
      unfold digAt at this
      simpa using this
    rw [if_pos (by omega)] at hr
    refine ⟨decAt S == 1, digs (S.extract (decAt S) (decWh S)), digs (S.extract (decWh S + 1) (decPart S)), true, ex, numT_of (a := decAt S) (c := decPart S) (by omega) hm hna hI ?_ ?_ (by simp) hdI.ten hdF.ten hnI ?_ hcS (expF_num hcS hex), ?_⟩
    · intro _
      rw [digs_len, hzI, show decAt S + (decWh S - decAt S) = decWh S by omega]
      exact hb46
    · intro j hj
      have e1 : decAt S + (digs (S.extract (decAt S) (decWh S))).length + 1 = decWh S + 1 := by rw [digs_len, hzI]; omega
      rw [e1]
      exact hget _ _ hcS hdF j hj
    · rw [digs_len, digs_len, hzI, hzF]
      simp
      omega
    · have hk := leanV_ok (neg := decAt S == 1) (D := S.extract (decAt S) (decWh S) ++ S.extract (decWh S + 1) (decPart S)) (x := ex - (decPart S - decWh S - 1 : Nat)) (hdI.append hdF) (by simp only [ByteArray.size_append]; omega) (by omega)
      rw [hr] at hk
      have e1 : dv (S.extract (decAt S) (decWh S) ++ S.extract (decWh S + 1) (decPart S)) = dval (digs (S.extract (decAt S) (decWh S)) ++ digs (S.extract (decWh S + 1) (decPart S))) := by unfold dv; rw [digs_append]
      have e2 : (digs (S.extract (decWh S + 1) (decPart S))).length = decPart S - decWh S - 1 := by rw [digs_len, hzF]
      rw [e1] at hk
      rw [e2]
      exact hk
  · rw [if_neg (by omega)] at hr
    rw [hc] at hex
    refine ⟨decAt S == 1, digs (S.extract (decAt S) (decWh S)), [], false, ex, numT_of (a := decAt S) (c := decWh S) (by omega) hm hna hI (by simp) (by simp) (by simp) hdI.ten (by simp) hnI ?_ hw2 (expF_num hw2 hex), ?_⟩
    · rw [digs_len, hzI]
      simp
      omega
    · have hk := leanV_ok (neg := decAt S == 1) (D := S.extract (decAt S) (decWh S)) (x := ex) hdI (by omega) (by omega)
      rw [hr] at hk
      rw [List.append_nil, show (([] : List Nat).length : Int) = 0 from rfl, Int.sub_zero]
      exact hk
end Go.Proofs.YtpmggjplfcjkkaaGreatDoor

/- A map of one entry: made, read. -/
set_option linter.unusedVariables false
set_option linter.unusedSimpArgs false
namespace Go.Proofs.YtpmggjplfcjkkaaGreatDoor
open Go.RowKit Nq

theorem mapAny : Tryz.prog.underlying 61 = some (.map 9 20) := by kernel_rfl
theorem strDesc : Tryz.prog.underlying 9 = some .string := by kernel_rfl
theorem run_lookup_one {w : World} {r : Nat} {k : ByteArray} {v : Value} {b c : Nat} (h : w.heap[r]? = some (.map #[⟨.string k, v, b⟩] c)) : (Instr.lookup 61 (.map (some r)) (.string k) true).run Tryz.prog w = .ok (.tuple #[v, .bool true]) w := by
  have h1 := MapKept.run_getObj_map (P := Tryz.prog) h
  have h2 : (Instr.checkKey (#[(⟨.string k, v, b⟩ : MapEntry)]).isEmpty 10000 9 (.string k)).run Tryz.prog w = .ok () w := MapKept.run_checkKey (k := .string k) strDesc (by simp [MapKept.IsKey]) _ _
  have hkk : (k == k) = true := by cases k with | mk a => exact beq_self_eq_true a
  have h3 : (Instr.findKey 9 (.string k) (#[(⟨.string k, v, b⟩ : MapEntry)]).toList).run Tryz.prog w = .ok (some (0, v)) w := MapKept.run_findKey strDesc (by simp [Instr.findNow, Instr.sameNow, hkk])
  simp only [List.isEmpty_toArray, List.isEmpty_cons] at h2
  simp [Instr.lookup, run_underlying mapAny, h1, h2, h3]
theorem run_first_entry (w : World) (k : ByteArray) (v : Value) : (Instr.mapUpdate 61 (.map (some w.heap.size)) (.string k) v).run Tryz.prog (w.alloc (.map #[] 0)) = .ok () (w.alloc (.map #[⟨.string k, v, 0⟩] 1)) := by
  have hb : (w.alloc (.map #[] 0)).heap[w.heap.size]? = some (.map #[] 0) := alloc_at w _
  rw [run_mapUpdate_first _ 61 9 20 w.heap.size 0 k v mapAny strDesc hb]
  congr 1
  show ({ w.alloc (.map #[] 0) with heap := (w.heap.push (.map #[] 0)).setIfInBounds w.heap.size (.map #[⟨.string k, v, 0⟩] 1) } : World) = { w with heap := w.heap.push (.map #[⟨.string k, v, 0⟩] 1) }
  have e : (w.heap.push (.map #[] 0)).setIfInBounds w.heap.size (.map #[⟨.string k, v, 0⟩] 1) = w.heap.push (.map #[⟨.string k, v, 0⟩] 1) := by
    apply Array.ext
    · simp
    · intro i h1 h2
      simp at h1 h2
      by_cases hi : i = w.heap.size
      · subst hi; simp
      · rw [Array.getElem_setIfInBounds_ne (by simpa using h1) (by omega)]
        rw [Array.getElem_push_lt (by omega), Array.getElem_push_lt (by omega)]
  rw [e]
  rfl
theorem as44 (w : World) (v : Value) : (Instr.typeAssert (.iface 44 v) 20 44 true).run Tryz.prog w = .ok (.tuple #[v, .bool true]) w := by kernel_rfl
end Go.Proofs.YtpmggjplfcjkkaaGreatDoor

/- What kind of value a number is. -/
set_option linter.unusedVariables false
set_option linter.unusedSimpArgs false
namespace Go.Proofs.YtpmggjplfcjkkaaGreatDoor
open Go.RowKit Nq

theorem as44_4 (w : World) (v : Value) : (Instr.typeAssert (.iface 44 v) 20 4 true).run Tryz.prog w = .ok (.tuple #[.bool false, .bool false]) w := by kernel_rfl
theorem as44_226 (w : World) (v : Value) : (Instr.typeAssert (.iface 44 v) 20 226 true).run Tryz.prog w = .ok (.tuple #[.float .f64 0, .bool false]) w := by kernel_rfl
theorem as44_229 (w : World) (v : Value) : (Instr.typeAssert (.iface 44 v) 20 229 true).run Tryz.prog w = .ok (.tuple #[.float .f32 0, .bool false]) w := by kernel_rfl
theorem as44_3 (w : World) (v : Value) : (Instr.typeAssert (.iface 44 v) 20 3 true).run Tryz.prog w = .ok (.tuple #[.int .i64 0, .bool false]) w := by kernel_rfl
theorem as44_2 (w : World) (v : Value) : (Instr.typeAssert (.iface 44 v) 20 2 true).run Tryz.prog w = .ok (.tuple #[.int .i64 0, .bool false]) w := by kernel_rfl
theorem as44_230 (w : World) (v : Value) : (Instr.typeAssert (.iface 44 v) 20 230 true).run Tryz.prog w = .ok (.tuple #[.int .i8 0, .bool false]) w := by kernel_rfl
theorem as44_231 (w : World) (v : Value) : (Instr.typeAssert (.iface 44 v) 20 231 true).run Tryz.prog w = .ok (.tuple #[.int .i16 0, .bool false]) w := by kernel_rfl
theorem as44_21 (w : World) (v : Value) : (Instr.typeAssert (.iface 44 v) 20 21 true).run Tryz.prog w = .ok (.tuple #[.int .i32 0, .bool false]) w := by kernel_rfl
theorem as44_167 (w : World) (v : Value) : (Instr.typeAssert (.iface 44 v) 20 167 true).run Tryz.prog w = .ok (.tuple #[.int .u64 0, .bool false]) w := by kernel_rfl
theorem as44_5 (w : World) (v : Value) : (Instr.typeAssert (.iface 44 v) 20 5 true).run Tryz.prog w = .ok (.tuple #[.int .u8 0, .bool false]) w := by kernel_rfl
theorem as44_232 (w : World) (v : Value) : (Instr.typeAssert (.iface 44 v) 20 232 true).run Tryz.prog w = .ok (.tuple #[.int .u16 0, .bool false]) w := by kernel_rfl
theorem as44_233 (w : World) (v : Value) : (Instr.typeAssert (.iface 44 v) 20 233 true).run Tryz.prog w = .ok (.tuple #[.int .u32 0, .bool false]) w := by kernel_rfl
theorem as44_211 (w : World) (v : Value) : (Instr.typeAssert (.iface 44 v) 20 211 true).run Tryz.prog w = .ok (.tuple #[.int .u64 0, .bool false]) w := by kernel_rfl
theorem as44_61 (w : World) (v : Value) : (Instr.typeAssert (.iface 44 v) 20 61 true).run Tryz.prog w = .ok (.tuple #[.map none, .bool false]) w := by kernel_rfl
theorem as44_65 (w : World) (v : Value) : (Instr.typeAssert (.iface 44 v) 20 65 true).run Tryz.prog w = .ok (.tuple #[.slice none 0 0, .bool false]) w := by kernel_rfl
theorem as44_9 (w : World) (v : Value) : (Instr.typeAssert (.iface 44 v) 20 9 true).run Tryz.prog w = .ok (.tuple #[.string ByteArray.empty, .bool false]) w := by kernel_rfl

attribute [local go_sem] as44 as44_4 as44_226 as44_229 as44_3 as44_2 as44_230 as44_231 as44_21 as44_167 as44_5 as44_232 as44_233 as44_211 as44_61 as44_65 as44_9
set_option maxRecDepth 100000 in
set_option maxHeartbeats 1000000 in
theorem typeOf_num (S : ByteArray) (w : World) : Calls Tryz.prog 58 #[.iface 44 (.string S)] w fun e w' => e = .returned (.int .i64 8) ∧ w = w' := by
  go_enter Tryz.func58, Tryz.ntmps58
  go_wp2_with fail
  go_ret
  exact ⟨rfl, rfl⟩
set_option maxRecDepth 100000 in
set_option maxHeartbeats 1000000 in
theorem numText_num (S : ByteArray) (w : World) : Calls Tryz.prog 59 #[.iface 44 (.string S)] w fun e w' => e = .returned (.string S) ∧ w = w' := by
  go_enter Tryz.func59, Tryz.ntmps59
  go_wp2_with fail
  go_ret
  exact ⟨rfl, rfl⟩
set_option maxRecDepth 100000 in
set_option maxHeartbeats 1000000 in
theorem uneval_num (S : ByteArray) (sb : Addr) (w : World) : Calls Tryz.prog 51 #[.iface 44 (.string S), .pointer (some sb), .bool false] w fun e w' => e = .returned (.pointer (some ⟨w.heap.size, 0, none⟩)) ∧ w.alloc (.cells #[.map none, .map none] 173) = w' := by
  go_enter Tryz.func51, Tryz.ntmps51
  go_wp2_with fail
  go_ret
  exact ⟨rfl, rfl⟩
end Go.Proofs.YtpmggjplfcjkkaaGreatDoor

/- A schema with types or a multipleOf alone; the validator's state. -/
set_option linter.unusedVariables false
set_option linter.unusedSimpArgs false
namespace Go.Proofs.YtpmggjplfcjkkaaGreatDoor
open Go.RowKit Nq

/-- The cells of a schema of draft 2020 with these types and this multipleOf, and nothing else. -/
def schC (tp mp : Value) : Array Value := #[.string ⟨#[]⟩, .string ⟨#[]⟩, .pointer none, .map none, .bool false, .bool false, .int .i64 0, .int .i64 2020, .string ⟨#[]⟩, .pointer none, .string ⟨#[]⟩, .pointer none, .string ⟨#[]⟩, .pointer none, .bool false, .pointer none, .string ⟨#[]⟩, tp, .pointer none, .pointer none, .pointer none, .slice none 0 0, .slice none 0 0, .slice none 0 0, .pointer none, .pointer none, .pointer none, .pointer none, .pointer none, .pointer none, .slice none 0 0, .pointer none, .map none, .map none, .nilIface, .map none, .map none, .map none, .pointer none, .pointer none, .pointer none, .bool false, .pointer none, .pointer none, .pointer none, .nilIface, .nilIface, .slice none 0 0, .pointer none, .pointer none, .pointer none, .pointer none, .nilIface, .pointer none, .pointer none, .pointer none, .pointer none, mp, .string ⟨#[]⟩, .string ⟨#[]⟩, .pointer none, .string ⟨#[]⟩, .bool false, .bool false, .slice none 0 0, .bool false]
theorem build_mult (p : Option Addr) (w : World) : (Instr.build 67 #[(6, .int .i64 2020), (56, .pointer p)]).run Tryz.prog w = .ok (.agg (schC (.pointer none) (.pointer p))) w := by kernel_rfl
theorem build_types (p : Option Addr) (w : World) : (Instr.build 67 #[(6, .int .i64 2020), (16, .pointer p)]).run Tryz.prog w = .ok (.agg (schC (.pointer p) (.pointer none))) w := by kernel_rfl

/-- Block sb is the schema. -/
def Sch (w : World) (sb : Nat) (tp mp : Option Addr) : Prop := Cells w sb (schC (.pointer tp) (.pointer mp)) 67
theorem Sch.fr {S : List Nat} {w w' : World} {sb : Nat} {tp mp : Option Addr} (h : Sch w sb tp mp) (hf : Fr S w w') (hb : sb ∉ S) : Sch w' sb tp mp := Cells.fr h hf hb
/-- The validator: its value, its schema, its scope, its errors. -/
structure Vd (w : World) (vb : Nat) (S : ByteArray) (sb scb ub : Nat) (la : Option Addr) (lc : Nat) (ev : Value) : Prop where
  v : Cells w vb #[.iface 44 (.string S), .slice la 0 lc, .pointer (some ⟨sb, 0, none⟩), .pointer (some ⟨scb, 0, none⟩), .pointer (some ⟨ub, 0, none⟩), ev, .bool false] 124
  s : Cells w scb #[.pointer (some ⟨sb, 0, none⟩), .string ⟨#[]⟩, .int .i64 0, .pointer none] 119
  ne : scb ≠ vb ∧ sb ≠ vb ∧ sb ≠ scb
theorem Vd.fr {R : List Nat} {w w' : World} {vb : Nat} {S : ByteArray} {sb scb ub : Nat} {la : Option Addr} {lc : Nat} {ev : Value} (h : Vd w vb S sb scb ub la lc ev) (hf : Fr R w w') (h1 : vb ∉ R) (h2 : scb ∉ R) : Vd w' vb S sb scb ub la lc ev := ⟨h.v.fr hf h1, h.s.fr hf h2, h.ne⟩

set_option maxRecDepth 100000 in
theorem checkCycle {w : World} {scb sb : Nat} (h : Cells w scb #[.pointer (some ⟨sb, 0, none⟩), .string ⟨#[]⟩, .int .i64 0, .pointer none] 119) : Calls Tryz.prog 73 #[.pointer (some ⟨scb, 0, none⟩)] w fun e w' => e = .returned (.pointer none) ∧ w = w' := by
  have c3 := h.cell 3 rfl
  clear h
  go_enter Tryz.func73, Tryz.ntmps73
  go_wp2
  go_loop [3] (fun v3 => v3 = .pointer none) (fun _ => 0)
  case atStart => rfl
  case round =>
    subst hrel
    go_wp2
    go_ret
    exact ⟨rfl, rfl⟩
set_option maxRecDepth 100000 in
set_option maxHeartbeats 1000000 in
theorem validateRefs {w : World} {vb sb scb ub lc : Nat} {S : ByteArray} {la : Option Addr} {ev : Value} {tp mp : Option Addr} (h : Vd w vb S sb scb ub la lc ev) (hs : Sch w sb tp mp) : Calls Tryz.prog 86 #[.pointer (some ⟨vb, 0, none⟩)] w fun e w' => e = .returned (.tuple #[]) ∧ w = w' := by
  have c2 := h.v.cell 2 rfl
  have s1 : w.cell? ⟨sb, 13, none⟩ = some (.pointer none) := Cells.cell hs 13 rfl
  have s2 : w.cell? ⟨sb, 15, none⟩ = some (.pointer none) := Cells.cell hs 15 rfl
  clear h hs
  go_enter Tryz.func86, Tryz.ntmps86
  go_wp2_with fail
  exact ⟨rfl, .tuple #[], results_none rfl _ _ _, rfl, rfl⟩
set_option maxRecDepth 100000 in
set_option maxHeartbeats 1000000 in
theorem condValidate {w : World} {vb sb scb ub lc : Nat} {S : ByteArray} {la : Option Addr} {ev : Value} {tp mp : Option Addr} (h : Vd w vb S sb scb ub la lc ev) (hs : Sch w sb tp mp) : Calls Tryz.prog 87 #[.pointer (some ⟨vb, 0, none⟩)] w fun e w' => e = .returned (.tuple #[]) ∧ w = w' := by
  have c2 := h.v.cell 2 rfl
  have s1 : w.cell? ⟨sb, 20, none⟩ = some (.pointer none) := Cells.cell hs 20 rfl
  have s2 : w.cell? ⟨sb, 21, none⟩ = some (.slice none 0 0) := Cells.cell hs 21 rfl
  have s3 : w.cell? ⟨sb, 22, none⟩ = some (.slice none 0 0) := Cells.cell hs 22 rfl
  have s4 : w.cell? ⟨sb, 23, none⟩ = some (.slice none 0 0) := Cells.cell hs 23 rfl
  have s5 : w.cell? ⟨sb, 24, none⟩ = some (.pointer none) := Cells.cell hs 24 rfl
  clear h hs
  go_enter Tryz.func87, Tryz.ntmps87
  go_wp2_with fail
  exact ⟨rfl, .tuple #[], results_none rfl _ _ _, rfl, rfl⟩
attribute [local go_sem] as44 as44_61 as44_65
set_option maxRecDepth 100000 in
set_option maxHeartbeats 1000000 in
theorem unevalValidate {w : World} {vb sb scb ub lc : Nat} {S : ByteArray} {la : Option Addr} {ev : Value} {tp mp : Option Addr} (h : Vd w vb S sb scb ub la lc ev) (hs : Sch w sb tp mp) : Calls Tryz.prog 88 #[.pointer (some ⟨vb, 0, none⟩)] w fun e w' => e = .returned (.tuple #[]) ∧ w = w' := by
  have c2 := h.v.cell 2 rfl
  have c0 := h.v.cell 0 rfl
  have s1 : w.cell? ⟨sb, 38, none⟩ = some (.pointer none) := Cells.cell hs 38 rfl
  have s2 : w.cell? ⟨sb, 49, none⟩ = some (.pointer none) := Cells.cell hs 49 rfl
  clear h hs
  go_enter Tryz.func88, Tryz.ntmps88
  go_wp2_with fail
  exact ⟨rfl, .tuple #[], results_none rfl _ _ _, rfl, rfl⟩
end Go.Proofs.YtpmggjplfcjkkaaGreatDoor

/- Rat.SetString: what the reading of the text comes to. -/
set_option linter.unusedVariables false
set_option linter.unusedSimpArgs false
namespace Go.Proofs.YtpmggjplfcjkkaaGreatDoor
open Go.RowKit Nq
theorem run_neq_eof (w : World) (a : Addr) : (binOp .neq 69 (.iface 418 (.pointer (some a))) (.iface 418 (.pointer (some a)))).run Tryz.prog w = .ok (.bool false) w := by
  obtain ⟨i, hi, hc⟩ : ∃ i, Tryz.prog.info? 418 = some i ∧ i.comparable = true := by
    have h := eofCmp
    cases hi : Tryz.prog.info? 418 with
    | none => rw [hi] at h; cases h
    | some i => rw [hi] at h; exact ⟨i, rfl, by simpa using h⟩
  obtain ⟨j, hj⟩ : ∃ j, Tryz.prog.info? 420 = some j := by
    have h := eofSize
    cases hi : Tryz.prog.info? 420 with
    | none => rw [hi] at h; cases h
    | some i => exact ⟨i, rfl⟩
  have h := run_equalIn_iface_ptr_same (P := Tryz.prog) w 9998 (ti := 69) (tp := 418) (te := 420) (ms := Tryz.prog.methodsAt 69) a (by kernel_rfl) (by kernel_rfl) hi hc hj
  simp only [binOp]
  simp [Op.equal, Op.maxDepth, h]
attribute [local go_sem] run_eof run_nil_eof run_neq_eof

set_option exponentiation.threshold 1000 in
theorem big_lt {M k : Nat} (hM : M < 10 ^ 100) (hk : k ≤ 200) : M * 10 ^ k < Bw ^ 39 ∧ 10 ^ k < Bw ^ 39 ∧ M * 5 ^ k < Bw ^ 39 ∧ 5 ^ k < Bw ^ 39 ∧ M < Bw ^ 39 := by
  have h3 : 10 ^ 700 < Bw ^ 39 := by rw [Bw_eq]; decide +kernel
  have h1 : 10 ^ k ≤ 10 ^ 200 := Nat.pow_le_pow_right (by decide) hk
  have h2 : 5 ^ k ≤ 10 ^ k := Nat.pow_le_pow_left (by decide) k
  have h4 : M * 10 ^ k ≤ 10 ^ 100 * 10 ^ 200 := Nat.mul_le_mul (Nat.le_of_lt hM) h1
  have h5 : M * 5 ^ k ≤ M * 10 ^ k := Nat.mul_le_mul_left M h2
  have h6 : (10 : Nat) ^ 100 * 10 ^ 200 ≤ 10 ^ 700 := by decide +kernel
  have h7 : (10 : Nat) ^ 200 ≤ 10 ^ 700 := by decide +kernel
  have h8 : (10 : Nat) ^ 100 ≤ 10 ^ 700 := by decide +kernel
  generalize Bw ^ 39 = B at *
  generalize (10 : Nat) ^ 700 = T at *
  generalize (10 : Nat) ^ 200 = U at *
  generalize (10 : Nat) ^ 100 = V at *
  generalize M * 10 ^ k = X at *
  generalize M * 5 ^ k = Y at *
  generalize 10 ^ k = Z at *
  generalize 5 ^ k = Q at *
  refine ⟨?_, ?_, ?_, ?_, ?_⟩ <;> omega
theorem up39 {a : Nat} (h : a < Bw ^ 39) : a < Bw ^ 1000 := Nat.lt_of_lt_of_le h (pow_mono (m := 39) (n := 1000) (by decide))
def FiveAt (w0 w : World) (rb : Nat) (ao : Option Nat) (n s k : Nat) (v : Value) : Prop := ∃ p q r, v = .slice p q r ∧ Hid (Five w0 w rb ao n s k v)
/-- Five and k are made, in any order, then five to the k. -/
theorem Sp.make {w0 w : World} {rb : Nat} {ao : Option Nat} {n s k : Nat} (h : Sp w0 w rb ao none n 0 s) (hnil : w.cell? ⟨rb, 3, none⟩ = some (.slice none 0 0)) (hk : 1 ≤ k) (hk' : k ≤ 255) :
    Calls Tryz.prog 69 #[] w.drew (fun e w4 => ∃ p q r, e = .returned (.slice p q r) ∧ w4.cell? ⟨rb, 3, none⟩ = some (.slice none 0 0) ∧ Calls Tryz.prog 70 #[.slice none 0 0, .int .u64 (k : Int)] w4 (fun e w5 => ∃ p' q' r', e = .returned (.slice p' q' r') ∧ w5.cell? ⟨rb, 3, none⟩ = some (.slice none 0 0) ∧
      Calls Tryz.prog 68 #[.slice none 0 0, .pointer (some ⟨s, 0, none⟩), .slice p q r, .slice p' q' r', .slice none 0 0, .bool false] w5 fun e w' => ∃ v p q r, v = .slice p q r ∧ e = .returned v ∧ Hid (Five w0 w' rb ao n s k v))) ∧
    Calls Tryz.prog 70 #[.slice none 0 0, .int .u64 (k : Int)] w.drew (fun e w4 => ∃ p' q' r', e = .returned (.slice p' q' r') ∧ w4.cell? ⟨rb, 3, none⟩ = some (.slice none 0 0) ∧ Calls Tryz.prog 69 #[] w4 (fun e w5 => ∃ p q r, e = .returned (.slice p q r) ∧ w5.cell? ⟨rb, 3, none⟩ = some (.slice none 0 0) ∧
      Calls Tryz.prog 68 #[.slice none 0 0, .pointer (some ⟨s, 0, none⟩), .slice p q r, .slice p' q' r', .slice none 0 0, .bool false] w5 fun e w' => ∃ v p q r, v = .slice p q r ∧ e = .returned v ∧ Hid (Five w0 w' rb ao n s k v))) := by
  have f0 : Fr [] w w.drew := (Fr.refl [] w).drewN 1
  have hr := h.r.lt.1
  have hc : ∀ w1, Fr [] w w1 → w1.cell? ⟨rb, 3, none⟩ = some (.slice none 0 0) := fun w1 f => by rw [cell_fr f hr (by simp)]; exact hnil
  have h5 : ∀ w1, Calls Tryz.prog 69 #[] w1 fun e w2 => ∃ p q r o, e = .returned (.slice p q r) ∧ IsN w2 (.slice p q r) o 5 ∧ Fr [] w1 w2 := by
    intro w1
    refine (natFive w1).mono ?_
    rintro e w2 ⟨rfl, rfl⟩
    exact ⟨_, _, _, _, rfl, new_word w1 5 (by rw [Bw_eq]; omega) (by omega), (Fr.refl _ _).alloc _⟩
  have hk1 : ∀ w1, Calls Tryz.prog 70 #[.slice none 0 0, .int .u64 (k : Int)] w1 fun e w2 => ∃ p q r o, e = .returned (.slice p q r) ∧ IsN w2 (.slice p q r) o k ∧ Fr [] w1 w2 := by
    intro w1
    refine (show Calls Tryz.prog 70 #[.slice none 0 0, .int .u64 (k : Int)] w1 (NatPost w1 none k) from setWord (x := k) (Own.nil w1) (by rw [Bw_eq]; omega)).mono ?_
    intro e w2 hp
    obtain ⟨v, o, rfl, i1, i2, -⟩ := hp.isN
    obtain ⟨p, q, r, rfl⟩ := i1.slice
    exact ⟨p, q, r, o, rfl, i1, i2⟩
  refine ⟨(h5 w.drew).mono ?_, (hk1 w.drew).mono ?_⟩
  · rintro e w4 ⟨p, q, r, o, rfl, i5, f4⟩
    refine ⟨p, q, r, rfl, hc w4 (f0.trans f4), (hk1 w4).mono ?_⟩
    rintro e w5 ⟨p', q', r', o', rfl, ik, f5⟩
    exact ⟨p', q', r', rfl, hc w5 ((f0.trans f4).trans f5), h.five hnil hk hk' (i5.fr f5 (by simp)) ik ((f0.trans f4).trans f5)⟩
  · rintro e w4 ⟨p, q, r, o, rfl, i5, f4⟩
    refine ⟨p, q, r, rfl, hc w4 (f0.trans f4), (h5 w4).mono ?_⟩
    rintro e w5 ⟨p', q', r', o', rfl, ik, f5⟩
    exact ⟨p', q', r', rfl, hc w5 ((f0.trans f4).trans f5), h.five hnil hk hk' ik (i5.fr f5 (by simp)) ((f0.trans f4).trans f5)⟩

/-- What the reading of the text comes to, step by step. -/
structure SetPre (w : World) (rb b : Nat) (S : ByteArray) (neg : Bool) (ex : Int) (eb : Addr) (cnt : Int) (M pe : Nat) : Prop where
  h60 : Calls Tryz.prog 60 #[.string S, .string ⟨#[47]⟩] w fun e w' => e = .returned (.int .i64 (-1)) ∧ w = w'
  h62 : Calls Tryz.prog 62 #[.string S] w fun e w' => e = .returned (.pointer (some ⟨b, 0, none⟩)) ∧ Hid (Rdr w' b S 0 ∧ Fr [] w w')
  h66 : Hid (∀ w1, Rdr w1 b S 0 → Fr [] w w1 → Calls Tryz.prog 66 #[rdv b] w1 fun e w2 => e = .returned (.tuple #[.bool neg, .nilIface]) ∧ w2.cell? ⟨rb, 1, none⟩ = some (.slice none 0 0) ∧ Hid (Rdr w2 b S (if neg then 1 else 0) ∧ Fr [] w w2))
  h63 : Hid (∀ w2, Rdr w2 b S (if neg then 1 else 0) → Fr [] w w2 → Calls Tryz.prog 63 #[.slice none 0 0, rdv b, .int .i64 0, .bool true] w2 fun e w3 => ∃ p q r zo, e = .returned (.tuple #[.slice p q r, .int .i64 10, .int .i64 cnt, .nilIface]) ∧ (∃ x, w3.cell? ⟨rb, 1, none⟩ = some x) ∧ w3.frozen? ⟨rb, 1, none⟩ = false ∧ Hid (Sr w (w3.setCell ⟨rb, 1, none⟩ (.slice p q r)) rb zo M ∧ Rdr (w3.setCell ⟨rb, 1, none⟩ (.slice p q r)) b S pe ∧ Fr [rb] w (w3.setCell ⟨rb, 1, none⟩ (.slice p q r)) ∧ zo ≠ some b))
  h67 : Hid (∀ w4 zo, Sr w w4 rb zo M → Rdr w4 b S pe → Fr [rb] w w4 → zo ≠ some b → Calls Tryz.prog 67 #[rdv b, .bool true, .bool true] w4 fun e w5 => e = .returned (.tuple #[.int .i64 ex, .int .i64 10, .nilIface]) ∧ Hid (Rdr w5 b S S.size ∧ Sr w w5 rb zo M ∧ Fr [rb] w w5))
  h64 : Hid (∀ w5 zo, Rdr w5 b S S.size → Sr w w5 rb zo M → Fr [rb] w w5 → zo ≠ some b → Calls Tryz.prog 64 #[.pointer (some ⟨b, 0, none⟩)] w5 fun e w6 => e = .returned (.tuple #[.int .u8 0, .iface 418 (.pointer (some eb))]) ∧ w6.cell? ⟨0, 0, none⟩ = some (.iface 418 (.pointer (some eb))) ∧ (∃ a l c, w6.cell? ⟨rb, 1, none⟩ = some (.slice a l c) ∧ (l = 0 ↔ M = 0) ∧ l ≤ 100000) ∧ Hid (Sr w w6 rb zo M))
  hd0 : ((S.size : Int) == 0) = false
  hlt : rb < w.heap.size
  h14 : 14 ≤ rb
  t : Th w

theorem setPre {rb : Nat} {S : ByteArray} {neg : Bool} {I F : List Nat} {dot : Bool} {ex : Int} {eb : Addr} {w : World} (hz : Cells w rb #[.bool false, .slice none 0 0, .bool false, .slice none 0 0] 101) (N : NumT S neg I F dot ex) (hT : Th w) (hE : w.cell? ⟨0, 0, none⟩ = some (.iface 418 (.pointer (some eb)))) (h14 : 14 ≤ rb) :
    SetPre w rb w.heap.size S neg ex eb (if dot then -(F.length : Int) else I.length) (dval (I ++ F)) (expAt neg I F dot) := by
  have hpos := N.pos
  have hS : S.size ≤ 2147483647 := by have := N.sz; omega
  have h60 : Calls Tryz.prog 60 #[.string S, .string ⟨#[47]⟩] w fun e w' => e = .returned (.int .i64 (-1)) ∧ w = w' := (noSlash S hS N.ns w).mono fun e w' h => ⟨h.1, h.2.symm⟩
  obtain ⟨b, hb⟩ : ∃ b, w.heap.size = b := ⟨_, rfl⟩
  rw [hb]
  have hb0 : b ≠ 0 := by have := hT.size; omega
  have hlt := hz.lt
  have h62 : Calls Tryz.prog 62 #[.string S] w fun e w' => e = .returned (.pointer (some ⟨b, 0, none⟩)) ∧ Hid (Rdr w' b S 0 ∧ Fr [] w w') := by
    refine (newReader S w).mono ?_
    rintro e w' ⟨rfl, rfl⟩
    refine ⟨by rw [hb], Lib.hid ⟨⟨-1, ?_⟩, (Fr.refl _ _).alloc _⟩⟩
    rw [← hb]
    exact Cells.new w _ _
  have H66 : Hid (∀ w1, Rdr w1 b S 0 → Fr [] w w1 → Calls Tryz.prog 66 #[rdv b] w1 fun e w2 => e = .returned (.tuple #[.bool neg, .nilIface]) ∧ w2.cell? ⟨rb, 1, none⟩ = some (.slice none 0 0) ∧ Hid (Rdr w2 b S (if neg then 1 else 0) ∧ Fr [] w w2)) := by
    refine Lib.hid fun w1 hr hf => (scanSign hr hpos hS).mono ?_
    rintro e w2 ⟨rfl, h1, h2⟩
    rw [← byteAt_eq hpos] at h1 ⊢
    have hf2 : Fr [] w w2 := hf.trans_new h2 (fun x hx => by simp at hx; subst hx; right; omega)
    refine ⟨by rw [← N.m], ?_, Lib.hid ⟨?_, hf2⟩⟩
    · rw [cell_fr hf2 hlt (by simp)]; exact hz.cell 1 rfl
    · have hp := N.p
      have hm := N.m
      cases neg with
      | true =>
        have : byteAt S 0 = 45 := by simpa using hm.symm
        rw [if_pos (.inl this)] at h1
        simpa using h1
      | false =>
        have : byteAt S 0 ≠ 45 := by intro e; rw [e] at hm; simp at hm
        rw [if_neg (by rintro (h | h); exact this h; exact hp h)] at h1
        simpa using h1
  obtain ⟨cnt, Hcnt⟩ : ∃ cnt : Int, Hid ((if dot then -(F.length : Int) else I.length) = cnt) := ⟨_, Lib.hid rfl⟩
  obtain ⟨M, HM⟩ : ∃ M : Nat, Hid (dval (I ++ F) = M) := ⟨_, Lib.hid rfl⟩
  obtain ⟨pe, Hpe⟩ : ∃ pe : Nat, Hid (expAt neg I F dot = pe) := ⟨_, Lib.hid rfl⟩
  rw [Hcnt.out, HM.out, Hpe.out]
  have hE1 : ∀ w1, Fr [rb] w w1 → w1.cell? ⟨0, 0, none⟩ = some (.iface 418 (.pointer (some eb))) := fun w1 hf => (cell_fr hf (by have := hT.size; omega) (by simp; omega)).trans hE
  have H63 : Hid (∀ w2, Rdr w2 b S (if neg then 1 else 0) → Fr [] w w2 → Calls Tryz.prog 63 #[.slice none 0 0, rdv b, .int .i64 0, .bool true] w2 fun e w3 => ∃ p q r zo, e = .returned (.tuple #[.slice p q r, .int .i64 10, .int .i64 cnt, .nilIface]) ∧ (∃ x, w3.cell? ⟨rb, 1, none⟩ = some x) ∧ w3.frozen? ⟨rb, 1, none⟩ = false ∧ Hid (Sr w (w3.setCell ⟨rb, 1, none⟩ (.slice p q r)) rb zo M ∧ Rdr (w3.setCell ⟨rb, 1, none⟩ (.slice p q r)) b S pe ∧ Fr [rb] w (w3.setCell ⟨rb, 1, none⟩ (.slice p q r)) ∧ zo ≠ some b)) := by
    refine Lib.hid fun w2 hr hf => (natScan hr N.txt hS (hE1 w2 (hf.mono (by simp))) hb0 (by have := N.len; omega)).mono ?_
    rintro e w3 ⟨zv, zo, rfl, hse⟩
    obtain ⟨p, q, r, rfl⟩ := hse.is.slice
    have := Sr.of_scan hz hf (by omega) hr.lt hse
    rw [show (if neg = true then 1 else 0) + I.length + (if dot = true then 1 + F.length else 0) = pe from Hpe.out, HM.out] at this
    exact ⟨p, q, r, zo, by rw [← Hcnt.out], this.1, this.2.1, Lib.hid this.2.2⟩
  have H67 : Hid (∀ w4 zo, Sr w w4 rb zo M → Rdr w4 b S pe → Fr [rb] w w4 → zo ≠ some b → Calls Tryz.prog 67 #[rdv b, .bool true, .bool true] w4 fun e w5 => e = .returned (.tuple #[.int .i64 ex, .int .i64 10, .nilIface]) ∧ Hid (Rdr w5 b S S.size ∧ Sr w w5 rb zo M ∧ Fr [rb] w w5)) := by
    refine Lib.hid fun w4 zo hs hr hf hzo => ?_
    have hfin : ∀ e w5, ExpPost w4 b S ex e w5 → e = .returned (.tuple #[.int .i64 ex, .int .i64 10, .nilIface]) ∧ Hid (Rdr w5 b S S.size ∧ Sr w w5 rb zo M ∧ Fr [rb] w w5) := fun e w5 h => ⟨h.1, Lib.hid ⟨h.2.1, hs.fr1 (by omega) hlt hzo h.2.2, hf.trans_new h.2.2 (fun x hx => by simp at hx; subst hx; right; omega)⟩⟩
    have hex := N.ex
    rw [Hpe.out] at hex
    rcases hex with ⟨e, e0⟩ | ⟨q, sg, D, hX, e0⟩
    · rw [e] at hr
      exact (scanExp_none hr (hE1 w4 hf) hb0).mono (by rw [← e0]; exact hfin)
    · exact (scanExp hr hX hS (hE1 w4 hf) hb0).mono (by rw [← e0]; exact hfin)
  have H64 : Hid (∀ w5 zo, Rdr w5 b S S.size → Sr w w5 rb zo M → Fr [rb] w w5 → zo ≠ some b → Calls Tryz.prog 64 #[.pointer (some ⟨b, 0, none⟩)] w5 fun e w6 => e = .returned (.tuple #[.int .u8 0, .iface 418 (.pointer (some eb))]) ∧ w6.cell? ⟨0, 0, none⟩ = some (.iface 418 (.pointer (some eb))) ∧ (∃ a l c, w6.cell? ⟨rb, 1, none⟩ = some (.slice a l c) ∧ (l = 0 ↔ M = 0) ∧ l ≤ 100000) ∧ Hid (Sr w w6 rb zo M)) := by
    refine Lib.hid fun w5 zo hr hs hf hzo => (readEnd hr (hE1 w5 hf) hb0).mono ?_
    rintro e w6 ⟨rfl, h1, h2⟩
    have hs6 := hs.fr1 (b := b) (by omega) hlt hzo h2
    obtain ⟨a, l, c, a', l', c', c0, c1, c2, c3, i1, i2, e1, -, l1, -⟩ := hs6.r.cells
    exact ⟨rfl, hE1 w6 hs6.fr, ⟨a, l, c, c1, e1, l1⟩, Lib.hid hs6⟩
  have hd0 : ((S.size : Int) == 0) = false := by rw [beq_eq_false_iff_ne]; omega
  exact ⟨h60, h62, H66, H63, H67, H64, hd0, hlt, h14, hT⟩
end Go.Proofs.YtpmggjplfcjkkaaGreatDoor
