/- divBasic: the walk. -/
import Derived.Deep.DeepCutAuto
import Derived.Deep.CutBlock
import Derived.StillTailTactics
import Derived.Test.YtpmggjplfcjkkaaGreatDoorZ09
set_option linter.unusedVariables false
set_option linter.unusedSimpArgs false
namespace Go.Proofs.YtpmggjplfcjkkaaGreatDoor
open Go.RowKit Nq

/-- What divBasic hands back. -/
def DivB (w : World) (bq bu bv ov m k s L : Nat) (K Zq Zu us vs : List Nat) (e : Ending) (w' : World) : Prop :=
  e = .returned (.tuple #[]) ∧ ∃ rs qd K', rs.length = k + 2 ∧ Wd rs ∧ vl rs < vl vs ∧ qd.length = m ∧ Wd qd ∧ Blk w' bu (spl Zu 0 (rs ++ List.replicate m 0)) ∧ Blk w' bq (spl Zq 0 qd) ∧ vl us = vl qd * vl vs + vl rs ∧
    StkK w' s L K' ∧ (∀ b ∈ K', b ∈ K ∨ w.heap.size ≤ b) ∧ Fr ([bq, bu] ++ K) w w' ∧ Row w' bv ov vs

theorem top_lt {rs vs : List Nat} {k : Nat} (hr : rs.length = k + 2) (hv : vs.length = k + 2) (wr : Wd rs) (h : rs.getD (k + 1) 0 < vs.getD (k + 1) 0) : vl rs < vl vs := by
  have h1 := vl_take_succ (l := rs) (i := k + 1) (by omega)
  have h2 := vl_take_succ (l := vs) (i := k + 1) (by omega)
  rw [show k + 1 + 1 = rs.length by omega, List.take_length] at h1
  rw [show k + 1 + 1 = vs.length by omega, List.take_length] at h2
  have h3 := vl_lt (wr.take (k + 1))
  rw [List.length_take, Nat.min_eq_left (by omega)] at h3
  have h4 := Nat.mul_le_mul_left (Bw ^ (k + 1)) h
  rw [Nat.mul_succ] at h4
  omega

theorem div_zero_word {T v1 : Nat} (h : T < v1) : divQ 0 T v1 = 0 ∧ divR 0 T v1 = T := by
  unfold divQ divR
  rw [Nat.zero_mul, Nat.zero_add]
  exact ⟨Nat.div_eq_of_lt h, Nat.mod_eq_of_lt h⟩
theorem mul_zero_word (v2 : Nat) : mulHi 0 v2 = 0 ∧ mulLo 0 v2 = 0 := by
  unfold mulHi mulLo
  rw [Nat.zero_mul]
  exact ⟨Nat.zero_div _, Nat.zero_mod _⟩
theorem gt_zero_word (r u2 : Nat) : gtW 0 0 r u2 = false := by
  unfold gtW
  simp

/-- The calls of the first round. -/
theorem first_calls {T v1 v2 : Nat} (hT : T < v1) (hv1 : v1 < Bw) (hv2 : v2 < Bw) (u2 : Nat) (w : World) :
    Calls Tryz.prog 222 #[.int .u64 0, .int .u64 (T : Int), .int .u64 (v1 : Int), .int .u64 (recW v1 : Int)] w (fun e w' => e = .returned (.tuple #[.int .u64 0, .int .u64 (T : Int)]) ∧ w = w') ∧
    Calls Tryz.prog 181 #[.int .u64 0, .int .u64 (v2 : Int)] w (fun e w' => e = .returned (.tuple #[.int .u64 0, .int .u64 0]) ∧ w = w') ∧
    Calls Tryz.prog 223 #[.int .u64 0, .int .u64 0, .int .u64 (T : Int), .int .u64 (u2 : Int)] w (fun e w' => e = .returned (.bool false) ∧ w = w') := by
  have h1 := divWW 0 T v1 hv1 (by omega) (by omega) (by omega) w
  rw [(div_zero_word hT).1, (div_zero_word hT).2] at h1
  have h2 := mulWW 0 v2 Bw_pos hv2 w
  rw [(mul_zero_word v2).1, (mul_zero_word v2).2] at h2
  have h3 := greaterThan 0 0 T u2 w
  rw [gt_zero_word] at h3
  exact ⟨h1, h2, h3⟩

/-- What stands when the rounds begin. -/
theorem divB_start {bq bu bv ov m k s L : Nat} {K Zq Zu us vs : List Nat} {w : World}
    (ln : vs.length = k + 2) (ul : us.length = m + (k + 2)) (wu : Wd us) (wv : Wd vs) (top : Bw ≤ 2 * vs.getD (k + 1) 0) (small : us.getD (m + (k + 1)) 0 < vs.getD (k + 1) 0)
    (qu : bq ≠ bu) (vq : bv ≠ bq) (vu : bv ≠ bu) (lq : m ≤ Zq.length) (lu : m + (k + 2) ≤ Zu.length) (hm : m ≤ 1000) (hk : k ≤ 50)
    (hq : Blk w bq Zq) (hu : Blk w bu (spl Zu 0 us)) (hv : Row w bv ov vs) (nq : bq ∉ K) (nu : bu ∉ K) (nv : bv ∉ K ∨ ov + (k + 2) ≤ L) {bt ot L' : Nat} {Zt K' : List Nat} {w2 : World}
    (hB : Blk w2 bt Zt) (hlz : ot + (k + 3) ≤ Zt.length) (hst : StkK w2 s L' K') (hF : Fr K w w2) (hbt : w.heap.size ≤ bt ∨ (bt ∈ K ∧ L ≤ ot)) (hrow : ∀ b o xs, (b ∉ K ∨ o + xs.length ≤ L) → Row w b o xs → Row w2 b o xs) :
    Dv bq bu bt bv ot ov m k Zq Zu Zt us vs ∧ (us.drop m).getD (k + 1) 0 = us.getD (m + (k + 1)) 0 ∧ ∀ dn, Db w2 bq bu bt bv ot ov m k s L' K' Zq Zu Zt us vs m (us.drop m) [] (w2.drewN dn) := by
  have hvl : bv < w.heap.size := hv.block_lt (by intro e; subst e; simp at ln)
  have eg : (us.drop m).getD (k + 1) 0 = us.getD (m + (k + 1)) 0 := by simp [List.getD_eq_getElem?_getD, List.getElem?_drop]
  refine ⟨⟨ln, ul, wu, wv, top, qu, ?_, ?_, vq, vu, ?_, lq, lu, hlz, hm, hk⟩, eg, fun dn => ⟨Nat.le_refl _, ?_, by simp; omega, wu.drop m, ?_, ?_, by simp, Wd.nil, by simp [vl], ⟨Zt, hB, rfl⟩, (hrow bv ov vs (by rw [ln]; exact nv) hv).drewN dn, hst.fr ((Fr.refl [] w2).drewN dn) (by simp), (Fr.refl _ w2).drewN dn⟩⟩
  · rintro rfl
    rcases hbt with h | ⟨h, _⟩
    · have := hq.lt; omega
    · exact nq h
  · rintro rfl
    rcases hbt with h | ⟨h, _⟩
    · have := hu.lt; omega
    · exact nu h
  · rintro rfl
    rcases hbt with h | ⟨h, h2⟩
    · omega
    · rcases nv with h3 | h3
      · exact absurd h h3
      · omega
  · have e : uW us (us.drop m) m m = us := by simp [uW]
    rw [e]
    exact (hu.fr hF nu).drewN dn
  · exact top_lt (k := k) (by simp; omega) ln (wu.drop m) (by rw [eg]; exact small)
  · rw [spl_nil]
    exact (hq.fr hF nq).drewN dn

/-- What a round ends with: the top word of the rest; the place of the quotient's word. -/
def Pass (w0 : World) (bq bu bt bv ot ov m k s L : Nat) (K Zq Zu Zt us vs : List Nat) (j e1 : Nat) (qd : List Nat) (q : Nat) (w : World) : Prop :=
  ∃ T : Nat, w.cell? ⟨bu, e1, none⟩ = some (.int .u64 (T : Int)) ∧ (∃ v, w.cell? ⟨bq, j, none⟩ = some v) ∧ w.frozen? ⟨bq, j, none⟩ = false ∧
    Hid (∃ rs', T = rs'.getD (k + 1) 0 ∧ Db w0 bq bu bt bv ot ov m k s L K Zq Zu Zt us vs j rs' (q :: qd) (w.setCell ⟨bq, j, none⟩ (.int .u64 (q : Int))))
theorem Dd.pass {w0 : World} {bq bu bt bv ot ov m k s L : Nat} {K Zq Zu Zt us vs : List Nat} (D : Dv bq bu bt bv ot ov m k Zq Zu Zt us vs) {j e1 : Nat} (he : e1 = j + (k + 1)) {rs' qd : List Nat} {q : Nat} {w : World} (h : Dd w0 bq bu bt bv ot ov m k s L K Zq Zu Zt us vs j rs' qd q w) :
    Pass w0 bq bu bt bv ot ov m k s L K Zq Zu Zt us vs j e1 qd q w := by
  subst he
  obtain ⟨h1, h2, h3⟩ := h.store D
  exact ⟨_, h.top D, h1, h2, Lib.hid ⟨rs', rfl, h3⟩⟩
theorem wrap_full {x c : Nat} (h : x + c = Bw) : IntKind.u64.wrap ((x : Int) + (c : Int)) = 0 := by
  rw [Bw_eq] at h
  simp only [IntKind.wrap, IntKind.bits, IntKind.signed, Bool.false_and, Bool.false_eq_true, if_false]
  omega
theorem wrap_pred {q : Nat} (h : 0 < q) (hq : q < Bw) : IntKind.u64.wrap ((q : Int) - 1) = ((q - 1 : Nat) : Int) := by
  rw [← wrap_u64 (q - 1) (by omega)]
  congr 1
  omega

/-- The calls of a round, behind the guess. -/
theorem tail_calls {w0 : World} {bq bu bt bv ot ov m k s L : Nat} {K Zq Zu Zt us vs : List Nat} (D : Dv bq bu bt bv ot ov m k Zq Zu Zt us vs) {j n f e1 : Nat} {rs qd : List Nat} {w : World} (hdb : Db w0 bq bu bt bv ot ov m k s L K Zq Zu Zt us vs (j + 1) rs qd w)
    (hn : n = k + 2) (hf : f = j + n) (he : e1 = j + (k + 1)) {q : Nat} (g : Gk (vl (us.getD j 0 :: rs)) (vl vs) q) (cu ct cv : Nat) :
    ∃ Q1 : Ending → World → Prop, Calls Tryz.prog 146 #[.slice (some ⟨bt, ot, none⟩) n ct, .slice (some ⟨bv, ov, none⟩) n cv, .int .u64 (q : Int), .int .u64 0] w Q1 ∧ ∀ e w5, Q1 e w5 → ∃ c : Nat, e = .returned (.int .u64 (c : Int)) ∧ (∃ v, w5.cell? ⟨bt, ot + n, none⟩ = some v) ∧ w5.frozen? ⟨bt, ot + n, none⟩ = false ∧
      ∃ Q2 : Ending → World → Prop, Calls Tryz.prog 210 #[.slice (some ⟨bu, j, none⟩) (n + 1) cu, .slice (some ⟨bu, j, none⟩) (n + 1) cu, .slice (some ⟨bt, ot, none⟩) (n + 1) ct] (w5.setCell ⟨bt, ot + n, none⟩ (.int .u64 (c : Int))).drew Q2 ∧ ∀ e w6, Q2 e w6 →
        (e = .returned (.int .u64 0) ∧ Pass w0 bq bu bt bv ot ov m k s L K Zq Zu Zt us vs j e1 qd q w6) ∨
        (e = .returned (.int .u64 1) ∧ ∃ Q3 : Ending → World → Prop, Calls Tryz.prog 155 #[.slice (some ⟨bu, j, none⟩) n cu, .slice (some ⟨bu, j, none⟩) n cu, .slice (some ⟨bv, ov, none⟩) n cv] w6.drew Q3 ∧ ∀ e w7, Q3 e w7 →
          ∃ c3 x : Nat, e = .returned (.int .u64 (c3 : Int)) ∧ w7.cell? ⟨bu, f, none⟩ = some (.int .u64 (x : Int)) ∧ w7.frozen? ⟨bu, f, none⟩ = false ∧ IntKind.u64.wrap ((x : Int) + (c3 : Int)) = 0 ∧ IntKind.u64.wrap ((q : Int) - 1) = ((q - 1 : Nat) : Int) ∧
            Pass w0 bq bu bt bv ot ov m k s L K Zq Zu Zt us vs j e1 qd (q - 1) (w7.setCell ⟨bu, f, none⟩ (.int .u64 0))) := by
  subst hn hf
  obtain ⟨Q1, h1, h1'⟩ := hdb.mul D g.q ct cv
  refine ⟨Q1, h1, ?_⟩
  intro e w5 hp
  obtain ⟨c, rfl, _, hc1, hc2, ts, hDm⟩ := h1' e w5 hp
  obtain ⟨Q2, h2, h2'⟩ := hDm.sub D g cu ct cv
  refine ⟨c, rfl, hc1, hc2, Q2, h2, ?_⟩
  intro e w6 hp
  rcases h2' e w6 hp with ⟨rfl, rs', hd⟩ | ⟨rfl, Q3, h3, h3'⟩
  · exact .inl ⟨rfl, hd.pass D he⟩
  · refine .inr ⟨rfl, Q3, h3, ?_⟩
    intro e w7 hp
    obtain ⟨c3, x, rfl, hx1, hx2, hx3, hq0, rs', hd⟩ := h3' e w7 hp
    exact ⟨c3, x, rfl, hx1, hx2, wrap_full hx3, wrap_pred hq0 g.q, hd.pass D he⟩

theorem wrap_sub_ge {a b : Nat} (h : b ≤ a) (ha : a < Bw) : IntKind.u64.wrap ((a : Int) - (b : Int)) = ((a - b : Nat) : Int) := by
  rw [← wrap_u64 (a - b) (by omega)]
  congr 1
  omega
theorem wrap_sub_lt {a b : Nat} (h : a < b) (hb : b < Bw) : IntKind.u64.wrap ((a : Int) - (b : Int)) = ((a + Bw - b : Nat) : Int) := by
  have e : ((a : Int) - (b : Int)) = ((a + Bw - b : Nat) : Int) - 18446744073709551616 := by rw [Bw_eq] at *; omega
  have h2 : a + Bw - b < Bw := by omega
  rw [e]
  rw [Bw_eq] at *
  simp only [IntKind.wrap, IntKind.bits, IntKind.signed, Bool.false_and, Bool.false_eq_true, if_false]
  omega
theorem wrap_over {a b : Nat} (h : Bw ≤ a + b) (ha : a < Bw) (hb : b < Bw) : IntKind.u64.wrap ((a : Int) + (b : Int)) = ((a + b - Bw : Nat) : Int) := by
  rw [Bw_eq] at *
  simp only [IntKind.wrap, IntKind.bits, IntKind.signed, Bool.false_and, Bool.false_eq_true, if_false]
  omega

/-- The rounds of the guess. -/
theorem guess_ways {P uj a1 a2 U1 v1 v2 V1 U V : Nat} (hW : Win P (uj * Bw + a1) a2 U1 v1 v2 V1) (eU : wU P (uj * Bw + a1) a2 U1 = U) (eV : wU P v1 v2 V1 = V) (ha1 : a1 < Bw) (hlt : uj < v1) :
    ∃ GG : Nat → Nat → Nat → Nat → Prop, GG (divQ uj a1 v1) (divR uj a1 v1) (mulHi (divQ uj a1 v1) v2) (mulLo (divQ uj a1 v1) v2) ∧ divQ uj a1 v1 < Bw ∧
      ∀ q r x1 x2, GG q r x1 x2 → (gtW x1 x2 r a2 = false ∧ Gk U V q) ∨ (gtW x1 x2 r a2 = true ∧ ∃ p : Nat, IntKind.u64.wrap ((q : Int) - 1) = (p : Int) ∧ p < q ∧
        ∃ s : Nat, IntKind.u64.wrap ((r : Int) + (v1 : Int)) = (s : Int) ∧ ((s < v1 ∧ Gk U V p) ∨ (v1 ≤ s ∧ ∃ z2 : Nat, IntKind.u64.wrap ((x2 : Int) - (v2 : Int)) = (z2 : Int) ∧
          ((v2 ≤ x2 ∧ GG p s x1 z2) ∨ (x2 < v2 ∧ ∃ z1 : Nat, IntKind.u64.wrap ((x1 : Int) - 1) = (z1 : Int) ∧ GG p s z1 z2))))) := by
  have hg := Gs.start hW rfl ha1 hlt
  refine ⟨fun q r x1 x2 => Gs P (uj * Bw + a1) a2 U1 v1 v2 V1 q r ∧ Xs q v2 x1 x2, ⟨hg, Xs.start hg.q hW.l2⟩, hg.q, ?_⟩
  rintro q r x1 x2 ⟨g, x⟩
  have ht := x.test (r := r) hW.lu
  subst eU eV
  by_cases h : r * Bw + a2 < q * v2
  · right
    obtain ⟨q0, _, _, _⟩ := g.down hW h
    refine ⟨ht.2 h, q - 1, wrap_sub_ge q0 g.q, by omega, ?_⟩
    by_cases hb : r + v1 < Bw
    · refine ⟨r + v1, wrap_add _ _ hb, .inr ⟨by omega, ?_⟩⟩
      have g' := g.next hW h hb
      by_cases hx : v2 ≤ x2
      · exact ⟨x2 - v2, wrap_sub_ge hx x.l2, .inl ⟨hx, g', x.down_le q0 hx⟩⟩
      · obtain ⟨hx1, x'⟩ := x.down_lt q0 (by omega) hW.l2
        exact ⟨x2 + Bw - v2, wrap_sub_lt (by omega) hW.l2, .inr ⟨by omega, x1 - 1, wrap_sub_ge hx1 x.l1, g', x'⟩⟩
    · exact ⟨r + v1 - Bw, wrap_over (by omega) g.r hW.l1, .inl ⟨by have := g.r; omega, g.brk hW h (by omega)⟩⟩
  · left
    refine ⟨?_, g.ok hW (by omega)⟩
    cases hb : gtW x1 x2 r a2 with
    | false => rfl
    | true => exact absurd (ht.1 hb) h

set_option maxRecDepth 100000 in
set_option maxHeartbeats 4000000 in
theorem divBasic {bq bu bv ov m k s L cq cu cv n mn : Nat} {K Zq Zu us vs : List Nat} {w : World}
    (ln : vs.length = k + 2) (ul : us.length = m + (k + 2)) (wu : Wd us) (wv : Wd vs) (top : Bw ≤ 2 * vs.getD (k + 1) 0) (small : us.getD (m + (k + 1)) 0 < vs.getD (k + 1) 0)
    (qu : bq ≠ bu) (vq : bv ≠ bq) (vu : bv ≠ bu) (lq : m ≤ Zq.length) (lu : m + (k + 2) ≤ Zu.length) (hm : m ≤ 1000) (hk : k ≤ 50) (hm0 : 0 < m)
    (hq : Blk w bq Zq) (hu : Blk w bu (spl Zu 0 us)) (hv : Row w bv ov vs) (hst : StkK w s L K) (hL : L ≤ 56) (nq : bq ∉ K) (nu : bu ∉ K) (nv : bv ∉ K ∨ ov + (k + 2) ≤ L)
    (hn : n = k + 2) (hmn : mn = m + n) (hcq : m ≤ cq) (hcu : mn ≤ cu) (hcv : n ≤ cv) :
    Calls Tryz.prog 203 #[.slice (some ⟨bq, 0, none⟩) m cq, .pointer (some ⟨s, 0, none⟩), .slice (some ⟨bu, 0, none⟩) mn cu, .slice (some ⟨bv, ov, none⟩) n cv] w (DivB w bq bu bv ov m k s L K Zq Zu us vs) := by
  have hsave := stkSave hst
  obtain ⟨np, npa, npn, npc⟩ : ∃ np : Nat, (n : Int) + 1 = (np : Int) ∧ n < np ∧ Hid (np = n + 1) := ⟨n + 1, by omega, by omega, Lib.hid rfl⟩
  have hwnp : IntKind.i64.wrap (np : Int) = (np : Int) := by have := npc.out; rw [IntKind.wrap_i64]; omega
  have npd : (np : Int) - 1 = (n : Int) := by omega
  have hnat : Calls Tryz.prog 102 #[.pointer (some ⟨s, 0, none⟩), .int .i64 (np : Int)] w (StkNat w s np L K) := by have := npc.out; exact stkNat hst (by omega) (by omega) (by omega)
  obtain ⟨n1, hn1, hn1', hn2, en1⟩ : ∃ n1 : Nat, (n : Int) - 1 = (n1 : Int) ∧ n1 < n ∧ n1 ≤ 1000 ∧ Hid (n1 = k + 1) := ⟨k + 1, by omega, by omega, by omega, Lib.hid rfl⟩
  have hmnm : (mn : Int) - (n : Int) = (m : Int) := by omega
  have hwm : IntKind.i64.wrap (m : Int) = (m : Int) := by rw [IntKind.wrap_i64]; omega
  obtain ⟨v1, ev1⟩ : ∃ v1, v1 = vs.getD (k + 1) 0 := ⟨_, rfl⟩
  have hv1w : v1 < Bw := by rw [ev1]; exact wv.getD _
  have hv10 : 0 < v1 := by have := Bw_pos; omega
  have hstart := fun (bt ot L' : Nat) (Zt K' : List Nat) (w2 : World) => divB_start (s := s) (bt := bt) (ot := ot) (L' := L') (Zt := Zt) (K' := K') (w2 := w2) ln ul wu wv top small qu vq vu lq lu hm hk hq hu hv nq nu nv
  have hsb : ∀ (bt ot L' : Nat) (Zt K' : List Nat) (w2 : World), Blk w2 bt Zt → ot + np ≤ Zt.length → StkK w2 s L' K' → Fr K w w2 → (w.heap.size ≤ bt ∨ (bt ∈ K ∧ L ≤ ot)) → (∀ b o xs, (b ∉ K ∨ o + xs.length ≤ L) → Row w b o xs → Row w2 b o xs) →
      w2.cell? ⟨bv, ov + n1, none⟩ = some (.int .u64 (v1 : Int)) ∧ Hid (Dv bq bu bt bv ot ov m k Zq Zu Zt us vs ∧ (us.drop m).getD (k + 1) 0 = us.getD (m + (k + 1)) 0 ∧ ∀ dn, Db w2 bq bu bt bv ot ov m k s L' K' Zq Zu Zt us vs m (us.drop m) [] (w2.drewN dn)) := by
    intro bt ot L' Zt K' w2 hB hlz hst hF hbt hrow
    have h := hstart bt ot L' Zt K' w2 hB (by have := npc.out; omega) hst hF hbt hrow
    refine ⟨?_, Lib.hid h⟩
    have hvr := (h.2.2 0).v
    have := hvr (k + 1) (by omega)
    rw [en1.out, ev1]
    exact this
  have Hn := Lib.hid hn
  have Hmn := Lib.hid hmn
  have Ev1 := Lib.hid ev1
  clear hn hmn hstart ev1
  go_enter_defers Tryz.func203, Tryz.ntmps203
  go_wp2_with (first | (go_at_call 101; (with_reducible refine hsave.mono ?_); rintro e w1 ⟨rfl, rfl⟩) | (go_at_call 102; (with_reducible refine hnat.mono ?_); rintro e w2 ⟨bt, ot, ct, Zt, L', K', rfl, hB, hlz, hct, hst', hL1, hL2, hK, hF, hbt, hrow, hin⟩; obtain ⟨hvc, HS⟩ := hsb bt ot L' Zt K' w2 hB hlz hst' hF hbt hrow; clear hsb hB hst' hrow) | (go_at_call 221; (with_reducible refine (reciprocalWord _ hv1w hv10 _).mono ?_); rintro e w3 ⟨rfl, nq2, rfl⟩))
  obtain ⟨D, etop, hDb⟩ := HS.out
  have hDb0 := hDb nq2
  go_loopw [13, 14] (fun u13 u14 wr => (u14 = .int .i64 (m : Int) ∧ u13 = .int .u64 0 ∧ Db w2 bq bu bt bv ot ov m k s L' K' Zq Zu Zt us vs m (us.drop m) [] wr) ∨ ∃ (j1 : Nat) (rs qd : List Nat), j1 ≤ m ∧ u14 = .int .i64 ((j1 : Int) - 1) ∧ u13 = .int .u64 ((rs.getD (k + 1) 0 : Nat) : Int) ∧ Db w2 bq bu bt bv ot ov m k s L' K' Zq Zu Zt us vs j1 rs qd wr) (fun _ u14 _ => (intOf u14 + 1).toNat)
  case atStart => exact .inl ⟨rfl, rfl, hDb0⟩
  case round =>
    clear HS hDb hDb0
    rcases hrel with ⟨rfl, rfl, hdb⟩ | ⟨j1, rs, qd, hj1, rfl, rfl, hdb⟩
    · obtain ⟨T, eT⟩ : ∃ T, T = (us.drop m).getD (k + 1) 0 := ⟨_, rfl⟩
      have hTv : T < v1 := by rw [eT, Ev1.out, etop]; exact small
      obtain ⟨e1, e1a, e1b, e1c⟩ : ∃ e1 : Nat, (mn : Int) - 1 = (e1 : Int) ∧ e1 < mn ∧ Hid (e1 = m + (k + 1)) := ⟨m + (k + 1), by have := Hn.out; have := Hmn.out; omega, by have := Hn.out; have := Hmn.out; omega, Lib.hid rfl⟩
      obtain ⟨e2, e2a, e2b, e2c⟩ : ∃ e2 : Nat, (mn : Int) - 2 = (e2 : Int) ∧ e2 < mn ∧ Hid (e2 = m + k) := ⟨m + k, by have := Hn.out; have := Hmn.out; omega, by have := Hn.out; have := Hmn.out; omega, Lib.hid rfl⟩
      obtain ⟨n2, n2a, n2b, n2c⟩ : ∃ n2 : Nat, (n : Int) - 2 = (n2 : Int) ∧ n2 < n ∧ Hid (n2 = k) := ⟨k, by have := Hn.out; omega, by have := Hn.out; omega, Lib.hid rfl⟩
      have hsum : (m : Int) + (n : Int) = (mn : Int) := by have := Hmn.out; omega
      have hw1 : IntKind.i64.wrap (mn : Int) = (mn : Int) := by have := Hn.out; have := Hmn.out; rw [IntKind.wrap_i64]; omega
      have hw2 : IntKind.i64.wrap (e1 : Int) = (e1 : Int) := by have := e1c.out; rw [IntKind.wrap_i64]; omega
      have hw3 : IntKind.i64.wrap (e2 : Int) = (e2 : Int) := by have := e2c.out; rw [IntKind.wrap_i64]; omega
      have hcT : wr.cell? ⟨bu, e1, none⟩ = some (.int .u64 (T : Int)) := by rw [e1c.out, eT]; exact (hdb.row0 D) (k + 1) (by have := hdb.r; omega)
      obtain ⟨u2, hcu2⟩ : ∃ u2 : Nat, wr.cell? ⟨bu, e2, none⟩ = some (.int .u64 (u2 : Int)) := ⟨_, by rw [e2c.out]; exact (hdb.row0 D) k (by have := hdb.r; omega)⟩
      obtain ⟨v2, hcv2, hv2w⟩ : ∃ v2 : Nat, wr.cell? ⟨bv, ov + n2, none⟩ = some (.int .u64 (v2 : Int)) ∧ v2 < Bw := ⟨_, by rw [n2c.out]; exact hdb.v k (by omega), wv.getD k⟩
      obtain ⟨hd1, hd2, hd3⟩ := first_calls hTv hv1w hv2w u2 wr
      have hne0 : ((0 : Int) == (v1 : Int)) = false := by simp; omega
      obtain ⟨Q1, hQ1, hQ1'⟩ := hdb.mul D (q := 0) Bw_pos ct cv
      have hmul : Calls Tryz.prog 146 #[.slice (some ⟨bt, ot, none⟩) n ct, .slice (some ⟨bv, ov, none⟩) n cv, .int .u64 0, .int .u64 0] wr Q1 := by rw [Hn.out]; exact hQ1
      have ET := Lib.hid eT
      have hfin : ∀ e w5, Q1 e w5 → e = .returned (.int .u64 0) ∧ (∃ v, w5.cell? ⟨bt, ot + n, none⟩ = some v) ∧ w5.frozen? ⟨bt, ot + n, none⟩ = false ∧ ∃ Q2 : Ending → World → Prop, Calls Tryz.prog 210 #[.slice (some ⟨bu, m, none⟩) n (cu - m), .slice (some ⟨bu, m, none⟩) n (cu - m), .slice (some ⟨bt, ot, none⟩) n ct] (w5.setCell ⟨bt, ot + n, none⟩ (.int .u64 0)).drew Q2 ∧
          ∀ e w6, Q2 e w6 → e = .returned (.int .u64 0) ∧ w6.cell? ⟨bu, e1, none⟩ = some (.int .u64 (T : Int)) ∧ Db w2 bq bu bt bv ot ov m k s L' K' Zq Zu Zt us vs m (us.drop m) [] w6 := by
        intro e w5 hp
        obtain ⟨c, rfl, hc0, hc1, hc2, ts, hDm⟩ := hQ1' e w5 hp
        have hc0 := hc0 rfl
        subst hc0
        obtain ⟨Q2, hQ2, hQ2'⟩ := hDm.sub0 D (cu - m) ct
        rw [← Hn.out] at hc1 hc2 hQ2
        refine ⟨rfl, hc1, hc2, Q2, hQ2, ?_⟩
        intro e w6 hp
        obtain ⟨h1, h2, h3⟩ := hQ2' e w6 hp
        rw [← eT, ← e1c.out] at h3
        exact ⟨h1, h3, h2⟩
      obtain ⟨g0, g0a, g0b, g0c⟩ : ∃ g0 : Nat, (m : Int) + (np : Int) = (g0 : Int) ∧ mn < g0 ∧ IntKind.i64.wrap (g0 : Int) = (g0 : Int) := ⟨m + np, by omega, by have := Hmn.out; have := npc.out; omega, by have := npc.out; have := Hn.out; rw [IntKind.wrap_i64]; omega⟩
      have hmcu : ¬ cu = m := by have := Hn.out; have := Hmn.out; omega
      have hmle : m ≤ mn := by have := Hn.out; have := Hmn.out; omega
      have hsub : mn - m = n := by have := Hn.out; have := Hmn.out; omega
      have hnct : n ≤ ct := by have := npc.out; omega
      clear eT etop small ln ul wu wv top qu vq vu lq lu hq hu hv hQ1 hQ1' nq nu nv hst hlz hct
      go_wp2_with (first | (go_at_call 222; (with_reducible refine hd1.mono ?_); rintro e w4 ⟨rfl, rfl⟩) | (go_at_call 181; (with_reducible refine hd2.mono ?_); rintro e w4 ⟨rfl, rfl⟩))
      go_loop [15, 16, 18, 19] (fun a b c d => a = .int .u64 0 ∧ b = .int .u64 (T : Int) ∧ c = .int .u64 0 ∧ d = .int .u64 0) (fun _ _ _ _ => 0)
      case atStart => exact ⟨rfl, rfl, rfl, rfl⟩
      case round =>
        obtain ⟨rfl, rfl, rfl, rfl⟩ := hrel
        go_wp2_with (first | (go_at_call 223; (with_reducible refine hd3.mono ?_); rintro e w4 ⟨rfl, rfl⟩) | (go_at_call 146; (with_reducible refine hmul.mono ?_); rintro e w5 hp; obtain ⟨rfl, ⟨v0, hv0⟩, hf0, Q2, hQ2, hQ2'⟩ := hfin e w5 hp; clear hfin))
        go_still_tail 15, (by kernel_rfl)
        change wpList _ _ _ _ _ (w5.setCell _ _).drew
        generalize (w5.setCell _ _).drew = w7 at *
        go_wp2_with (go_at_call 210; (with_reducible refine hQ2.mono ?_); rintro e w6 hp; obtain ⟨rfl, hcT2, hdb2⟩ := hQ2' e w6 hp)
        exact ⟨.inr ⟨m, us.drop m, [], Nat.le_refl _, rfl, by rw [← ET.out], hdb2⟩, by simp [intOf]⟩
    · by_cases hj0 : j1 = 0
      · subst hj0
        have HFIN : Hid (∀ w8, StkK w8 s L K' → Fr K' wr w8 → (∀ b o xs, Row wr b o xs → Row w8 b o xs) → (∀ b Z, Blk wr b Z → Blk w8 b Z) → DivB w1 bq bu bv ov m k s L K Zq Zu us vs (.returned (.tuple #[])) w8) := by
          refine Lib.hid fun w8 k1 k2 k3 k4 => ⟨rfl, rs, qd, K', hdb.r, hdb.wr, hdb.rv, by have := hdb.d; omega, hdb.wd, ?_, k4 _ _ hdb.q, ?_, k1, hK, ?_, k3 _ _ _ hdb.v⟩
          · have := k4 _ _ hdb.u
            unfold uW at this
            simpa using this
          · have := hdb.val
            rwa [List.drop_zero] at this
          · have f1 : Fr ([bq, bu] ++ K) w1 wr := by
              refine (hF.mono (T := [bq, bu] ++ K) (by intro x hx; simp; simp [hx])).trans_new hdb.fr ?_
              intro x hx
              simp at hx
              rcases hx with rfl | rfl | rfl
              · simp
              · simp
              · rcases hbt with h | ⟨h, _⟩
                · exact .inr h
                · left; simp [h]
            refine f1.trans_new k2 ?_
            intro x hx
            rcases hK x hx with h | h
            · left; simp [h]
            · exact .inr h
        have hres := stkRestore_d .returning (k := L) hdb.st hL1
        clear hdb ln ul wu wv top small qu vq vu lq lu hq hu hv nq nu nv hst hF hbt hK etop
        go_wp2
        refine leaves_cons (f := 100) (args := #[.pointer (some ⟨s, 0, none⟩), .int .i64 (L : Int)]) (by simp) (by simp [go_sem]) ?_
        refine hres.mono ?_
        rintro e u' w8 ⟨rfl, rfl, k1, k2, k3, k4⟩
        exact ⟨_, results_none rfl _ _ _, HFIN.out w8 k1 k2 k3 k4⟩
      · obtain ⟨j, rfl⟩ : ∃ j, j1 = j + 1 := ⟨j1 - 1, by omega⟩
        have ej : (((j + 1 : Nat) : Int) - 1) = (j : Int) := by omega
        rw [ej]
        clear ej hj0
        have hjm : j < m := by omega
        obtain ⟨f, fa, fb, fc, fd⟩ : ∃ f : Nat, (j : Int) + (n : Int) = (f : Int) ∧ f < mn ∧ f ≤ 2000 ∧ Hid (f = j + n) := ⟨j + n, by omega, by have := Hmn.out; omega, by have := Hn.out; omega, Lib.hid rfl⟩
        obtain ⟨e1, e1a, e1b, e1c, e1d⟩ : ∃ e1 : Nat, (f : Int) - 1 = (e1 : Int) ∧ e1 < mn ∧ e1 ≤ 2000 ∧ Hid (e1 = j + (k + 1)) := ⟨j + (k + 1), by have := Hn.out; have := fd.out; omega, by have := Hn.out; have := fd.out; omega, by have := Hn.out; omega, Lib.hid rfl⟩
        obtain ⟨e2, e2a, e2b, e2c, e2d⟩ : ∃ e2 : Nat, (f : Int) - 2 = (e2 : Int) ∧ e2 < mn ∧ e2 ≤ 2000 ∧ Hid (e2 = j + k) := ⟨j + k, by have := Hn.out; have := fd.out; omega, by have := Hn.out; have := fd.out; omega, by have := Hn.out; omega, Lib.hid rfl⟩
        obtain ⟨n2, n2a, n2b, n2c⟩ : ∃ n2 : Nat, (n : Int) - 2 = (n2 : Int) ∧ n2 < n ∧ Hid (n2 = k) := ⟨k, by have := Hn.out; omega, by have := Hn.out; omega, Lib.hid rfl⟩
        obtain ⟨hW, eU, eV, hTop, hUB, hA1⟩ := hdb.win D
        have hrow := hdb.cells D
        have hrl := hdb.r
        obtain ⟨a1, ea1⟩ : ∃ a1, a1 = (us.getD j 0 :: rs).getD (k + 1) 0 := ⟨_, rfl⟩
        obtain ⟨a2, ea2⟩ : ∃ a2, a2 = (us.getD j 0 :: rs).getD k 0 := ⟨_, rfl⟩
        obtain ⟨v2, ev2⟩ : ∃ v2, v2 = vs.getD k 0 := ⟨_, rfl⟩
        obtain ⟨uj, euj⟩ : ∃ uj, uj = rs.getD (k + 1) 0 := ⟨_, rfl⟩
        have hc1 : wr.cell? ⟨bu, e1, none⟩ = some (.int .u64 (a1 : Int)) := by rw [e1d.out, ea1]; exact hrow (k + 1) (by simp; omega)
        have hc2 : wr.cell? ⟨bu, e2, none⟩ = some (.int .u64 (a2 : Int)) := by rw [e2d.out, ea2]; exact hrow k (by simp; omega)
        have hc3 : wr.cell? ⟨bv, ov + n2, none⟩ = some (.int .u64 (v2 : Int)) := by rw [n2c.out, ev2]; exact hdb.v k (by omega)
        rw [← ea1, ← ea2, ← euj, ← Ev1.out, ← ev2] at hW
        rw [← ea1, ← ea2, ← euj] at eU
        rw [← Ev1.out, ← ev2] at eV
        rw [← euj, ← Ev1.out] at hTop
        rw [← ea1] at hA1
        rw [← euj]
        have npb : np ≤ ct := hct
        have HT := Lib.hid fun (q : Nat) (g : Gk (vl (us.getD j 0 :: rs)) (vl vs) q) => tail_calls D hdb Hn.out fd.out e1d.out g (cu - j) ct cv
        rw [← npc.out] at HT
        have HW := Lib.hid hW
        have HUV := Lib.hid (And.intro eU (And.intro eV hUB))
        have hcj : ¬ cu = j := by have := Hmn.out; omega
        have hf1 : f ≤ cu := by omega
        have hf2 : j ≤ f := by have := fd.out; omega
        have hf3 : f - j = n := by have := fd.out; omega
        obtain ⟨g1, ga, gb, gc, gd, ge⟩ : ∃ g1 : Nat, (j : Int) + (np : Int) = (g1 : Int) ∧ g1 ≤ cu ∧ j ≤ g1 ∧ g1 - j = np ∧ g1 ≤ mn := ⟨j + np, by omega, by have := Hmn.out; have := npc.out; omega, by omega, by omega, by have := Hmn.out; have := npc.out; omega⟩
        have hjm2 : ((j : Int) == (m : Int)) = false := by simp; omega
        have hwg : IntKind.i64.wrap (g1 : Int) = (g1 : Int) := by have := Hmn.out; have := Hn.out; rw [IntKind.wrap_i64]; omega
        have hwf : IntKind.i64.wrap (f : Int) = (f : Int) := by rw [IntKind.wrap_i64]; omega
        have hnct2 : n ≤ ct := by omega
        have hjm3 : ((j : Int) - 1) = (((j : Nat) : Int) - 1) := rfl
        have ha2w : a2 < Bw := by rw [ea2]; exact (Wd.cons (D.wu.getD j) hdb.wr).getD _
        have hv2w : v2 < Bw := by rw [ev2]; exact wv.getD _
        clear ln ul wu wv top small qu vq vu lq lu hq hu hv nq nu nv hst hF hbt hK etop hrow ea1 ea2 ev2 euj hW eU eV hUB hlz hdb hrl hct hj1
        go_upto_if 51 with (fail)
        go_cut [15, 16, 17, 18, 19, 20] from 45 to 200 (fun qv _ _ _ _ _ wc => wc = wr ∧ ∃ q : Nat, qv = .int .u64 (q : Int) ∧ Gk (vl (us.getD j 0 :: rs)) (vl vs) q)
        case first =>
          by_cases heq : uj = v1
          · subst heq
            have hG : Gk (vl (us.getD j 0 :: rs)) (vl vs) (Bw - 1) := by
              obtain ⟨x1, x2, x3⟩ := HUV.out
              have := Gk.eq HW.out (by rw [x1, x2]; exact x3)
              rwa [x1, x2] at this
            have HG := Lib.hid hG
            clear hG HT
            go_wp2_with fail
            go_meet
            exact ⟨rfl, Bw - 1, by rw [max_word], HG.out⟩
          · have hlt : uj < v1 := by omega
            have hne : ((uj : Int) == (v1 : Int)) = false := by simp; omega
            have hdw := divWW uj a1 v1 hv1w hv10 hlt hA1 wr
            obtain ⟨GG, hG0, hq0, HGG⟩ : ∃ GG : Nat → Nat → Nat → Nat → Prop, GG (divQ uj a1 v1) (divR uj a1 v1) (mulHi (divQ uj a1 v1) v2) (mulLo (divQ uj a1 v1) v2) ∧ divQ uj a1 v1 < Bw ∧ Hid (∀ q r x1 x2, GG q r x1 x2 → _) := by
              obtain ⟨GG, h1, h2, h3⟩ := guess_ways HW.out HUV.out.1 HUV.out.2.1 hA1 hlt
              exact ⟨GG, h1, h2, Lib.hid h3⟩
            have hmw := mulWW (divQ uj a1 v1) v2 hq0 hv2w wr
            have HG0 := Lib.hid hG0
            clear hG0 hlt heq HT HW HUV
            generalize mulHi (divQ uj a1 v1) v2 = y1 at *
            generalize mulLo (divQ uj a1 v1) v2 = y2 at *
            generalize divQ uj a1 v1 = q0 at *
            generalize divR uj a1 v1 = r0 at *
            clear hq0
            go_wp2_with (first | (go_at_call 222; (with_reducible refine hdw.mono ?_); rintro e w4 ⟨rfl, rfl⟩) | (go_at_call 181; (with_reducible refine hmw.mono ?_); rintro e w4 ⟨rfl, rfl⟩))
            clear hdw hmw
            go_loop [15, 16, 18, 19] (fun a b c d => ∃ q r x1 x2 : Nat, a = .int .u64 (q : Int) ∧ b = .int .u64 (r : Int) ∧ c = .int .u64 (x1 : Int) ∧ d = .int .u64 (x2 : Int) ∧ GG q r x1 x2) (fun a _ _ _ => (intOf a).toNat)
            case atStart => exact ⟨_, _, _, _, rfl, rfl, rfl, rfl, HG0.out⟩
            case round =>
              obtain ⟨q, r, x1, x2, rfl, rfl, rfl, rfl, hg⟩ := hrel
              clear HG0
              rcases HGG.out q r x1 x2 hg with ⟨ht, hG⟩ | ⟨ht, p, hp1, hp2, s, hs1, hs2⟩
              · have hgt := greaterThan x1 x2 r a2 wr
                rw [ht] at hgt
                have HG := Lib.hid hG
                clear hG hg ht
                go_wp2_with (go_at_call 223; (with_reducible refine hgt.mono ?_); rintro e w4 ⟨rfl, rfl⟩)
                go_meet
                exact ⟨rfl, q, rfl, HG.out⟩
              · have hgt := greaterThan x1 x2 r a2 wr
                rw [ht] at hgt
                have HP2 : Hid ((p : Int).toNat < (q : Int).toNat) := Lib.hid (by omega)
                clear hg ht
                rcases hs2 with ⟨hs3, hG⟩ | ⟨hs3, z2, hz2, ⟨hx, hg'⟩ | ⟨hx, z1, hz1, hg'⟩⟩
                · have t1 : decide (s < v1) = true := by simp; omega
                  have HG := Lib.hid hG
                  clear hG hs3 hp2
                  go_wp2_with (go_at_call 223; (with_reducible refine hgt.mono ?_); rintro e w4 ⟨rfl, rfl⟩)
                  go_meet
                  exact ⟨rfl, p, rfl, HG.out⟩
                · have t1 : decide (s < v1) = false := by simp; omega
                  have t2 : decide (x2 < v2) = false := by simp; omega
                  have HG := Lib.hid hg'
                  clear hg' hs3 hp2 hx
                  go_wp2_with (go_at_call 223; (with_reducible refine hgt.mono ?_); rintro e w4 ⟨rfl, rfl⟩)
                  go_round
                  case rel => exact ⟨p, s, x1, z2, rfl, rfl, rfl, rfl, HG.out⟩
                  case measure => simp only [intOf]; exact HP2.out
                · have t1 : decide (s < v1) = false := by simp; omega
                  have t2 : decide (x2 < v2) = true := by simp; omega
                  have HG := Lib.hid hg'
                  clear hg' hs3 hp2 hx
                  go_wp2_with (go_at_call 223; (with_reducible refine hgt.mono ?_); rintro e w4 ⟨rfl, rfl⟩)
                  go_round
                  case rel => exact ⟨p, s, z1, z2, rfl, rfl, rfl, rfl, HG.out⟩
                  case measure => simp only [intOf]; exact HP2.out
        case rest =>
          obtain ⟨rfl, q, rfl, hG⟩ := hcut
          obtain ⟨Q1, hQ1, hQ1'⟩ := HT.out _ hG
          clear hG HT HW HUV
          go_wp2_with (first | (go_at_call 146; (with_reducible refine hQ1.mono ?_); rintro e w5 hp; obtain ⟨c, rfl, ⟨v0, hv0⟩, hf0, Q2, hQ2, hQ2'⟩ := hQ1' e w5 hp; clear hQ1'))
          go_still_tail 15, (by kernel_rfl)
          change wpList _ _ _ _ _ (w5.setCell _ _).drew
          generalize (w5.setCell _ _).drew = w7 at *
          have hfe : ¬ f = e1 := by have := fd.out; have := e1d.out; have := Hn.out; omega
          have hbqu : ¬ bq = bu := D.qu
          go_wp2_with (first | (go_at_call 210; (with_reducible refine hQ2.mono ?_); rintro e w6 hp; rcases hQ2' e w6 hp with ⟨rfl, T, hcT, ⟨v9, hc9⟩, hf9, HP⟩ | ⟨rfl, Q3, hQ3, hQ3'⟩; clear hQ2'))
          · obtain ⟨rs', eT, hdb'⟩ := HP.out
            exact ⟨.inr ⟨j, rs', _, by omega, rfl, by rw [← eT], hdb'⟩, by simp [intOf]⟩
          · clear hQ2'
            go_still_tail 13, (by kernel_rfl)
            change wpList _ _ _ _ _ w6.drew
            generalize w6.drew = w8 at *
            go_wp2_with (first | (go_at_call 155; (with_reducible refine hQ3.mono ?_); rintro e w7 hp; obtain ⟨c3, x, rfl, hx1, hx2, hx3, hx4, T, hcT, ⟨v9, hc9⟩, hf9, HP⟩ := hQ3' e w7 hp; clear hQ3'; have hcT7 : w7.cell? ⟨bu, e1, none⟩ = some (.int .u64 (T : Int)) := ((cell_set_ne (fun e => hfe (congrArg Addr.off e))).symm.trans hcT); have hc97 : w7.cell? ⟨bq, j, none⟩ = some v9 := ((cell_set_ne (fun e => hbqu (congrArg Addr.block e).symm)).symm.trans hc9); have hf97 : w7.frozen? ⟨bq, j, none⟩ = false := (by simpa using hf9)))
            obtain ⟨rs', eT, hdb'⟩ := HP.out
            exact ⟨.inr ⟨j, rs', _, by omega, rfl, by rw [← eT], hdb'⟩, by simp [intOf]⟩
end Go.Proofs.YtpmggjplfcjkkaaGreatDoor
