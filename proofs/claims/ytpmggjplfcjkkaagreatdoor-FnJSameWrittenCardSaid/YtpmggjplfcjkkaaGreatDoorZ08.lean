/- basicMul. -/
import Derived.Lib.SliceRun
import Derived.WalkKit
import Derived.Deep.RegionWith
import Derived.Test.YtpmggjplfcjkkaaGreatDoorZ07
import Derived.Lib.AppendZerosOnto
import Derived.BigCall
import Derived.BigGuard
set_option linter.unusedVariables false
set_option linter.unusedSimpArgs false
namespace Go.Proofs.YtpmggjplfcjkkaaGreatDoor
open Go.RowKit Nq

theorem spl_front {Z zs : List Nat} {o x : Nat} (h : o < Z.length) : spl (Z.set o x) (o + 1) zs = spl Z o (x :: zs) := by
  simp only [spl, List.length_cons]
  rw [List.take_set, List.drop_set_of_lt (by omega), List.take_add_one]
  have e : (Z.take o ++ Z[o]?.toList).set o x = Z.take o ++ [x] := by
    have hz : Z[o]? = some Z[o] := List.getElem?_eq_getElem h
    rw [hz, List.set_append_right _ _ (by simp; omega)]
    have : o - (Z.take o).length = 0 := by simp; omega
    rw [this]
    rfl
  rw [e, show o + 1 + zs.length = o + (zs.length + 1) by omega]
  simp
theorem blk_setCells {b : Nat} : ∀ (vs : List Nat) (o : Nat) (w : World) (Z : List Nat), Blk w b Z → o + vs.length ≤ Z.length →
    Blk (w.setCells b o (vs.map fun n : Nat => Value.int .u64 (n : Int))) b (spl Z o vs) ∧ Fr [b] w (w.setCells b o (vs.map fun n : Nat => Value.int .u64 (n : Int)))
  | [], o, w, Z, h, _ => by rw [spl_nil]; exact ⟨h, Fr.refl _ _⟩
  | v :: vs, o, w, Z, h, hl => by
    rw [List.length_cons] at hl
    obtain ⟨h1, h2⟩ := blk_setCells vs (o + 1) (w.setCell ⟨b, o, none⟩ (.int .u64 (v : Int))) (Z.set o v) (h.set o v) (by simp; omega)
    rw [spl_front (by omega)] at h1
    exact ⟨h1, ((Fr.refl [b] w).set (.inl (by simp)) _ _).trans h2⟩

def putZ (w : World) (b n : Nat) : World := w.setCells b 0 (List.replicate n (.int .u64 0))
theorem putZ_spec {w : World} {b n : Nat} {Z : List Nat} (h : Blk w b Z) (hn : n ≤ Z.length) : Blk (putZ w b n) b (spl Z 0 (List.replicate n 0)) ∧ Fr [b] w (putZ w b n) := by
  have := blk_setCells (List.replicate n 0) 0 w Z h (by simp; omega)
  rw [List.map_replicate] at this
  exact this
theorem zeroWord (w : World) : (zeroValue 168).run Tryz.prog w = .ok (.int .u64 0) w := by kernel_rfl
theorem run_clear_words {w : World} {b n c : Nat} {Z : List Nat} (h : Blk w b Z) (hn : n ≤ Z.length) (h0 : 0 < n) (ty : TypeId) :
    (Builtin.clear_ #[97] ty #[.slice (some ⟨b, 0, none⟩) n c]).run Tryz.prog w = .ok (.tuple #[]) (putZ w b n) :=
  Lib.run_clear_slice w 97 168 ty (.int .u64 0) sliceNat' zeroWord rfl rfl b 0 n c h0 (fun j hj => by rw [h.cell (0 + j) (by omega)]; rfl) (fun j hj => h.frozen _)

/-- The sum so far: of the rows that were taken. -/
structure Acc (w : World) (bz : Nat) (Z xs ys : List Nat) (i : Nat) (w' : World) : Prop where
  ex : ∃ zs, zs.length = xs.length + i ∧ Wd zs ∧ Blk w' bz (spl Z 0 (zs ++ List.replicate (ys.length - i) 0)) ∧ vl zs = vl xs * vl (ys.take i)
  fr : Fr [bz] w w'

theorem spl_set {Z zs ts : List Nat} {x : Nat} (hl : (zs ++ 0 :: ts).length ≤ Z.length) : (spl Z 0 (zs ++ 0 :: ts)).set zs.length x = spl Z 0 (zs ++ [x] ++ ts) := by
  simp only [spl, List.take_zero, List.nil_append, Nat.zero_add]
  rw [List.append_assoc, List.set_append_right _ _ (Nat.le_refl _), Nat.sub_self]
  simp
theorem spl_over {Z zs ts ws : List Nat} {i : Nat} (hw : ws.length + i = zs.length) (hl : (zs ++ ts).length ≤ Z.length) : spl (spl Z 0 (zs ++ ts)) i ws = spl Z 0 (zs.take i ++ ws ++ ts) := by
  simp only [spl, List.take_zero, List.nil_append, Nat.zero_add]
  have e1 : i + ws.length = zs.length := by omega
  rw [e1]
  have e2 : (zs.take i ++ ws ++ ts).length = (zs ++ ts).length := by simp; omega
  rw [e2, List.append_assoc zs, List.take_append_of_le_length (by omega), List.drop_append_of_le_length (Nat.le_refl _), List.drop_length]
  simp
theorem acc_value {xs ys zs ws : List Nat} {i m c d : Nat} (hz : vl zs = vl xs * vl (ys.take i)) (h : vl ws + Bw ^ m * c = vl (zs.drop i) + vl xs * d) (hi : i < ys.length) (hd : ys.getD i 0 = d) (hlz : zs.length = m + i) (hw : ws.length = m) :
    vl (zs.take i ++ ws ++ [c]) = vl xs * vl (ys.take (i + 1)) := by
  have h1 := vl_split zs i (by omega)
  have e1 : (zs.take i).length = i := by simp; omega
  rw [vl_snoc, vl_append, vl_take_succ hi, List.length_append, e1, hw, Nat.pow_add, hd]
  generalize Bw ^ i = P at *
  generalize Bw ^ m = R at *
  grind
theorem acc_zero {xs ys zs : List Nat} {i : Nat} (hz : vl zs = vl xs * vl (ys.take i)) (hi : i < ys.length) (hd : ys.getD i 0 = 0) : vl (zs ++ [0]) = vl xs * vl (ys.take (i + 1)) := by
  rw [vl_snoc, vl_take_succ hi, hd]
  simpa using hz
theorem rep_cons {n i : Nat} (h : i < n) : List.replicate (n - i) 0 = 0 :: List.replicate (n - (i + 1)) 0 := by
  have : n - i = (n - (i + 1)) + 1 := by omega
  rw [this, List.replicate_succ]

/-- One row more. -/
theorem Acc.skip {w : World} {bz : Nat} {Z xs ys : List Nat} {i : Nat} {w' : World} (h : Acc w bz Z xs ys i w') (hi : i < ys.length) (hd : ys.getD i 0 = 0) : Acc w bz Z xs ys (i + 1) w' := by
  obtain ⟨⟨zs, h1, h2, h3, h4⟩, hf⟩ := h
  refine ⟨⟨zs ++ [0], by simp; omega, h2.append (Wd.one Bw_pos), ?_, acc_zero h4 hi hd⟩, hf⟩
  rw [rep_cons hi] at h3
  rw [List.append_assoc]
  exact h3

/-- What the row of the multiplier needs, and what it gives. -/
theorem Acc.row {w : World} {bz bx m n : Nat} {Z xs ys : List Nat} {i d cz cx : Nat} {w' : World} (h : Acc w bz Z xs ys i w') (hi : i < n) (hd : ys.getD i 0 = d) (hX : Row w bx 0 xs) (hb : bx ≠ bz) (wX : Wd xs) (hm : xs.length = m) (hn : ys.length = n) (hL : m + n ≤ Z.length) (hmm : m ≤ 80000) (hnn : n ≤ 80000) (hdw : d < Bw) :
    ∃ Q : Ending → World → Prop, Calls Tryz.prog 147 #[.slice (some ⟨bz, i, none⟩) m cz, .slice (some ⟨bz, i, none⟩) m cz, .slice (some ⟨bx, 0, none⟩) m cx, .int .u64 (d : Int), .int .u64 0] w'.drew Q ∧
      ∀ e w2, Q e w2 → ∃ c : Nat, e = .returned (.int .u64 (c : Int)) ∧ (∃ v, w2.cell? ⟨bz, m + i, none⟩ = some v) ∧ w2.frozen? ⟨bz, m + i, none⟩ = false ∧ Acc w bz Z xs ys (i + 1) (w2.setCell ⟨bz, m + i, none⟩ (.int .u64 (c : Int))) := by
  subst hm hn
  obtain ⟨⟨zs, h1, h2, h3, h4⟩, hf⟩ := h
  have hrow := h3.row i xs.length
  have ht : ((spl Z 0 (zs ++ List.replicate (ys.length - i) 0)).drop i).take xs.length = zs.drop i := by
    simp only [spl, List.take_zero, List.nil_append]
    rw [List.append_assoc, List.drop_append_of_le_length (by omega), List.take_append_of_le_length (by simp; omega), List.take_of_length_le (by simp; omega)]
  rw [ht] at hrow
  have hlen : (spl Z 0 (zs ++ List.replicate (ys.length - i) 0)).length = Z.length := spl_length _ _ _ (by simp; omega)
  refine ⟨AddMulPost w'.drew bz i (spl Z 0 (zs ++ List.replicate (ys.length - i) 0)) (zs.drop i) xs d 0, ?_, ?_⟩
  · exact addMulVVWW bz i cz bz i cz bx 0 cx xs.length _ (zs.drop i) xs d 0 w'.drew h3.drew hrow.drew (h2.drop i) ((hX.fr hf (by simpa using hb)).drew) wX (by simp; omega) (by simp; omega) (by omega) (by omega) (by omega) (by omega) (fun _ => .inl (Nat.le_refl _)) (fun e => absurd e hb) hdw Bw_pos
  · rintro e w2 ⟨c, ws, rfl, hc, hU, hE⟩
    have hlw := hU.len
    have hld : (zs.drop i).length = xs.length := by simp; omega
    rw [hld] at hlw hE
    have hB := hU.blk
    rw [Nat.add_zero] at hE
    rw [spl_over (by omega) (by simp; omega), rep_cons hi] at hB
    have hlz : (zs.take i ++ ws).length = xs.length + i := by simp; omega
    have hs := hB.set (xs.length + i) c
    rw [← hlz, spl_set (by simp; omega), hlz] at hs
    refine ⟨c, rfl, ⟨_, hB.cell (xs.length + i) (by rw [spl_length _ _ _ (by simp; omega)]; omega)⟩, hB.frozen _, ⟨⟨zs.take i ++ ws ++ [c], by simp; omega, ((h2.take i).append hU.wd).append (Wd.one hc), hs, acc_value h4 hE hi hd (by omega) hlw⟩, ?_⟩⟩
    exact (((hf.drewN 1).trans hU.fr).set (.inl (by simp)) _ _)

theorem Acc.zero {w w' : World} {bz : Nat} {Z xs ys : List Nat} (hB : Blk w' bz (spl Z 0 (List.replicate (xs.length + ys.length) 0))) (hf : Fr [bz] w w') : Acc w bz Z xs ys 0 w' := by
  refine ⟨⟨List.replicate xs.length 0, by simp, Wd.replicate _, ?_, by rw [vl_replicate]; simp [vl]⟩, hf⟩
  rw [Nat.sub_zero, List.replicate_append_replicate]
  exact hB
theorem Acc.done {w w' : World} {bz : Nat} {Z xs ys : List Nat} (h : Acc w bz Z xs ys ys.length w') : ∃ zs, zs.length = xs.length + ys.length ∧ Wd zs ∧ Blk w' bz (spl Z 0 zs) ∧ vl zs = vl xs * vl ys := by
  obtain ⟨⟨zs, h1, h2, h3, h4⟩, hf⟩ := h
  rw [Nat.sub_self, List.replicate_zero, List.append_nil] at h3
  rw [List.take_length] at h4
  exact ⟨zs, h1, h2, h3, h4⟩

set_option maxRecDepth 100000 in
set_option maxHeartbeats 1000000 in
theorem basicMul (bz L c bx cx by_ cy m n : Nat) (Z xs ys : List Nat) (w : World) (hZ : Blk w bz Z) (hX : Row w bx 0 xs) (hY : Row w by_ 0 ys) (wX : Wd xs) (wY : Wd ys) (hm : xs.length = m) (hn : ys.length = n)
    (hL : m + n ≤ Z.length) (hLc : m + n ≤ c) (hLL : L = m + n) (hmm : m ≤ 80000) (hnn : n ≤ 80000) (h0 : 0 < n) (hb : bx ≠ bz) (hb' : by_ ≠ bz) :
    Calls Tryz.prog 97 #[.slice (some ⟨bz, 0, none⟩) L c, .slice (some ⟨bx, 0, none⟩) m cx, .slice (some ⟨by_, 0, none⟩) n cy] w fun e w' => e = .returned (.tuple #[]) ∧ Fr [bz] w w' ∧ ∃ zs, zs.length = m + n ∧ Wd zs ∧ Blk w' bz (spl Z 0 zs) ∧ vl zs = vl xs * vl ys := by
  have hcl := fun ty => run_clear_words (c := c) (n := m + n) hZ hL (by omega) ty
  obtain ⟨hz1, hz2⟩ := putZ_spec hZ hL
  have hA0 : Acc w bz Z xs ys 0 (putZ w bz (m + n)) := Acc.zero (by rw [hm, hn]; exact hz1) hz2
  generalize putZ w bz (m + n) = w1 at *
  have hw1 : IntKind.i64.wrap ((m : Int) + (n : Int)) = ((m + n : Nat) : Int) := by rw [IntKind.wrap_i64]; omega
  clear hz1 hz2
  subst hLL
  go_enter Tryz.func97, Tryz.ntmps97
  go_wp2_with (simp only [hcl])
  go_loopw [17] (fun i17 wr => ∃ i : Nat, i ≤ n ∧ i17 = .int .i64 (i : Int) ∧ Acc w bz Z xs ys i wr) (fun i17 _ => n - (intOf i17).toNat)
  case atStart => exact ⟨0, by omega, rfl, hA0⟩
  case round =>
    obtain ⟨i, hi, rfl, hA⟩ := hrel
    by_cases hlt : i < n
    · have hy := (hY.fr hA.fr (by simpa using hb')) i (by omega)
      rw [Nat.zero_add] at hy
      have hdw := wY.getD i
      obtain ⟨d, hd⟩ : ∃ d, ys.getD i 0 = d := ⟨_, rfl⟩
      rw [hd] at hy hdw
      by_cases hd0 : d = 0
      · subst hd0
        have hS := hA.skip (by omega) hd
        clear hd
        go_wp2
        go_roundw
        case rel => exact ⟨i + 1, by omega, by rfl, hS⟩
        case measure => simp [intOf]; omega
      · have hne : ((d : Int) == 0) = false := by simp; omega
        obtain ⟨Q, hQ, hQ2⟩ := hA.row (cz := c - i) (cx := cx) hlt hd hX hb wX hm hn hL hmm hnn hdw
        clear hd
        have hci : ¬ c = i := by omega
        obtain ⟨f, hf1, hf2, hf3, hf4, hf5, hf6, hf7⟩ : ∃ f : Nat, f ≤ c ∧ i ≤ f ∧ f - i = m ∧ ((i : Int) + (m : Int) = (f : Int)) ∧ ((m : Int) + (i : Int) = (f : Int)) ∧ IntKind.i64.wrap (f : Int) = (f : Int) ∧ Hid (f = m + i) := ⟨m + i, by omega, by omega, by omega, by omega, by omega, by rw [IntKind.wrap_i64]; omega, Lib.hid rfl⟩
        have hf8 : f < m + n := by have := hf7.out; omega
        have hf9 : (f : Int) < (m : Int) + (n : Int) := by omega
        rw [← hf7.out] at hQ2
        go_wp2
        go_region_with (go_at_call 147; (refine hQ.mono ?_); rintro e w2 hp; obtain ⟨e1, rfl, ⟨v0, hv⟩, hfz, hN⟩ := hQ2 e w2 hp)
        go_wp2
        go_roundw
        case rel => exact ⟨i + 1, by omega, by rfl, hN⟩
        case measure => simp [intOf]; omega
    · have hin : i = n := by omega
      subst hin
      have hD : Acc w bz Z xs ys ys.length wr := by rw [hn]; exact hA
      have HP := Lib.hid (show Fr [bz] w wr ∧ ∃ zs, zs.length = m + i ∧ Wd zs ∧ Blk wr bz (spl Z 0 zs) ∧ vl zs = vl xs * vl ys from ⟨hA.fr, by have := hD.done; rwa [hm, hn] at this⟩)
      go_wp2
      go_end0
      exact ⟨rfl, HP.out⟩
end Go.Proofs.YtpmggjplfcjkkaaGreatDoor

/- mul and sqr of nats. -/
set_option linter.unusedVariables false
set_option linter.unusedSimpArgs false
namespace Go.Proofs.YtpmggjplfcjkkaaGreatDoor
open Go.RowKit Nq

/-- The thresholds stand as laid. -/
structure Th (w : World) : Prop where
  size : 14 ≤ w.heap.size
  kt : w.cell? ⟨1, 0, none⟩ = some (.int .i64 40)
  bs : w.cell? ⟨6, 0, none⟩ = some (.int .i64 12)
  ks : w.cell? ⟨7, 0, none⟩ = some (.int .i64 80)
  dr : w.cell? ⟨8, 0, none⟩ = some (.int .i64 40)
theorem Th.fr {S : List Nat} {w w' : World} (h : Th w) (hf : Fr S w w') (hS : ∀ b ∈ S, 14 ≤ b) : Th w' := by
  have hs := h.size
  have hn : ∀ b, b < 14 → b ∉ S := fun b hb hb' => by have := hS b hb'; omega
  exact ⟨Nat.le_trans hs hf.size, (cell_fr hf (by omega) (hn 1 (by omega))).trans h.kt, (cell_fr hf (by omega) (hn 6 (by omega))).trans h.bs, (cell_fr hf (by omega) (hn 7 (by omega))).trans h.ks, (cell_fr hf (by omega) (hn 8 (by omega))).trans h.dr⟩
theorem Th.drewN {w : World} (h : Th w) (n : Nat) : Th (w.drewN n) := ⟨h.size, h.kt, h.bs, h.ks, h.dr⟩

theorem heap_drewN (w : World) (k : Nat) : (w.drewN k).heap = w.heap := by
  induction k with
  | zero => rfl
  | succ k ih => exact ih
theorem Later.drewN {w : World} {k : Nat} {zo o : Option Nat} (h : Later (w.drewN k) zo o) : Later w zo o := by
  unfold Later at h ⊢
  rw [heap_drewN] at h
  exact h
theorem Later.of_none {w : World} {zo o : Option Nat} {b : Nat} (h : Later w none (some b)) : Later w zo (some b) := by
  rcases h with h | h
  · cases h
  · exact .inr h
theorem ne_of_later {w : World} {zo xo : Option Nat} {bx bz : Nat} (hl : Later w zo (some bz)) (hs : shared zo xo = false) (hx : xo = some bx) (hlt : bx < w.heap.size) : bx ≠ bz := by
  rintro rfl
  rcases hl with h | ⟨b, h, hb⟩
  · rw [← h, hx] at hs; simp [shared] at hs
  · injection h with h; omega
theorem shared_none (xo : Option Nat) : shared none xo = false := rfl

set_option maxRecDepth 100000 in
set_option maxHeartbeats 1000000 in
theorem mul_main {zv : Value} {zo : Option Nat} {zs : List Nat} {xv yv : Value} {xo yo : Option Nat} {xs ys : List Nat} (stk : Value) {w : World} (hz : Own w zv zo zs) (hx : Own w xv xo xs) (hy : Own w yv yo ys)
    (wX : Wd xs) (wY : Wd ys) (hn1 : 1 < ys.length) (hnm : ys.length ≤ xs.length) (hn : ys.length < 40) (hm : xs.length ≤ 40000) (hT : Th w) : Calls Tryz.prog 56 #[zv, stk, xv, yv] w (NatPost w zo (vl xs * vl ys)) := by
  have hA := alias_own hz hx
  have hB := fun k => alias_own (hz.drewN k) (hy.drewN k)
  have hx0 : xs ≠ [] := by intro h; subst h; simp at hnm; subst hnm; simp at hn1
  have hy0 : ys ≠ [] := by intro h; rw [h] at hn1; simp at hn1
  obtain ⟨bx, X, hxo, rfl, hX, htX, hlX, hcX⟩ := hx.block hx0
  obtain ⟨by_, Y, hyo, rfl, hY, htY, hlY, hcY⟩ := hy.block hy0
  have hkt := hT.kt
  obtain ⟨ml, hml⟩ : ∃ L, L = xs.length + ys.length := ⟨_, rfl⟩
  have himl : (xs.length : Int) + (ys.length : Int) = (ml : Int) := by omega
  have hwml : IntKind.i64.wrap (ml : Int) = (ml : Int) := by rw [IntKind.wrap_i64]; omega
  have hmk : ∀ k zv' zo' zs', Own w zv' zo' zs' → Calls Tryz.prog 96 #[zv', .int .i64 (ml : Int)] (w.drewN k) (MakePost (w.drewN k) zo' ml) := fun k zv' zo' zs' h => make_own (h.drewN k) (by omega) (by omega)
  have hmkN := fun k => hmk k _ _ _ (Own.nil w)
  have hmkZ := fun k => hmk k _ _ _ hz
  have hset : ∀ k zo' bz Z c w1, (zo' = none ∨ (zo' = zo ∧ shared zo xo = false ∧ shared zo yo = false)) → Z.length = c → Blk w1 bz Z → ml ≤ Z.length → Z.length ≤ 100000 → Fr [] (w.drewN k) w1 → Later (w.drewN k) zo' (some bz) →
      w1.cell? ⟨1, 0, none⟩ = some (.int .i64 40) ∧ ∃ Q : Ending → World → Prop, Calls Tryz.prog 97 #[.slice (some ⟨bz, 0, none⟩) ml c, .slice (some ⟨bx, 0, none⟩) xs.length X.length, .slice (some ⟨by_, 0, none⟩) ys.length Y.length] w1 Q ∧
        ∀ e w2, Q e w2 → e = .returned (.tuple #[]) ∧ Calls Tryz.prog 98 #[.slice (some ⟨bz, 0, none⟩) ml c] w2 (NatPost w zo (vl xs * vl ys)) := by
    intro k zo' bz Z c w1 hzo hc hZ h1 h3 h4 h5
    have h4' : Fr [] w w1 := ((Fr.refl [] w).drewN k).trans h4
    have h5 := h5.drewN
    have h5' : Later w zo (some bz) := by
      rcases hzo with rfl | ⟨rfl, _⟩
      · exact Later.of_none (o := none) h5
      · exact h5
    have hs1 : shared zo' xo = false := by rcases hzo with rfl | ⟨rfl, h, _⟩; exact rfl; exact h
    have hs2 : shared zo' yo = false := by rcases hzo with rfl | ⟨rfl, _, h⟩; exact rfl; exact h
    have hbx := ne_of_later (bx := bx) h5 hs1 hxo hX.lt
    have hby := ne_of_later (bx := by_) h5 hs2 hyo hY.lt
    refine ⟨(hT.fr h4' (by simp)).kt, _, basicMul bz ml c bx X.length by_ Y.length xs.length ys.length Z xs ys w1 hZ ((hX.row_take htX).fr h4' (by simp)) ((hY.row_take htY).fr h4' (by simp)) wX wY rfl rfl (by omega) (by omega) hml (by omega) (by omega) (by omega) hbx hby, ?_⟩
    rintro e w2 ⟨rfl, hF, zs2, hl2, hw2, hB2, hv2⟩
    refine ⟨rfl, ?_⟩
    have := norm_fin (n := ml) h4' h5' hF hB2 (by omega) hc (by omega) (by omega) h3 hw2
    rw [hv2] at this
    exact this
  obtain ⟨za, zc, hzv⟩ := hz.slice
  subst hzv
  generalize ha : shared zo xo = a at *
  generalize hb : shared zo yo = b at *
  have hd1 : ((xs.length : Int) == 0) = false := by simp; omega
  have hd2 : ((ys.length : Int) == 0) = false := by simp; omega
  have hd3 : ((ys.length : Int) == 1) = false := by simp; omega
  generalize hxl : X.length = cX at *
  generalize hyl : Y.length = cY at *
  generalize zs.length = zl at *
  generalize xs.length = m at *
  generalize ys.length = n at *
  generalize vl xs * vl ys = val at *
  clear htX hX hx htY hY hy hz hxl hyl hmk wX wY hx0 hy0 hT ha hb hml hkt
  cases a
  · cases b
    · go_enter Tryz.func56, Tryz.ntmps56
      go_wp2_with (first | (go_at_call 95; (first | ((with_reducible refine hA.mono ?_); rintro e w' ⟨rfl, k1, rfl⟩) | ((with_reducible refine (hB k1).mono ?_); rintro e w' ⟨rfl, k2, rfl⟩; rw [drewN_drewN]))) | (go_at_call 96; (with_reducible refine (hmkZ _).mono ?_); rintro e w1 ⟨bz, Z, c, rfl, hc, hZ, h1, h2, h3, h4, h5⟩; obtain ⟨hk, Q, hQ, hQ2⟩ := hset _ zo bz Z c w1 (.inr (by simp)) hc hZ h1 h3 h4 h5; clear hc hZ hset) | (go_at_call 97; (with_reducible refine hQ.mono ?_); rintro e w2 hp; obtain ⟨rfl, hN⟩ := hQ2 e w2 hp) | (go_at_call 98; (with_reducible refine hN.mono ?_); rintro e w3 ⟨v, o, ws, rfl, hp⟩; have HP : Hid (NatPost w zo val (.returned v) w3) := Lib.hid ⟨v, o, ws, rfl, hp⟩))
      go_ret
      exact HP.out
    · go_enter Tryz.func56, Tryz.ntmps56
      go_wp2_with (first | (go_at_call 95; (first | ((with_reducible refine hA.mono ?_); rintro e w' ⟨rfl, k1, rfl⟩) | ((with_reducible refine (hB k1).mono ?_); rintro e w' ⟨rfl, k2, rfl⟩; rw [drewN_drewN]))) | (go_at_call 96; (with_reducible refine (hmkN _).mono ?_); rintro e w1 ⟨bz, Z, c, rfl, hc, hZ, h1, h2, h3, h4, h5⟩; obtain ⟨hk, Q, hQ, hQ2⟩ := hset _ none bz Z c w1 (.inl rfl) hc hZ h1 h3 h4 h5; clear hc hZ hset) | (go_at_call 97; (with_reducible refine hQ.mono ?_); rintro e w2 hp; obtain ⟨rfl, hN⟩ := hQ2 e w2 hp) | (go_at_call 98; (with_reducible refine hN.mono ?_); rintro e w3 ⟨v, o, ws, rfl, hp⟩; have HP : Hid (NatPost w zo val (.returned v) w3) := Lib.hid ⟨v, o, ws, rfl, hp⟩))
      go_ret
      exact HP.out
  · go_enter Tryz.func56, Tryz.ntmps56
    go_wp2_with (first | (go_at_call 95; ((with_reducible refine hA.mono ?_); rintro e w' ⟨rfl, k1, rfl⟩)) | (go_at_call 96; (with_reducible refine (hmkN _).mono ?_); rintro e w1 ⟨bz, Z, c, rfl, hc, hZ, h1, h2, h3, h4, h5⟩; obtain ⟨hk, Q, hQ, hQ2⟩ := hset _ none bz Z c w1 (.inl rfl) hc hZ h1 h3 h4 h5; clear hc hZ hset) | (go_at_call 97; (with_reducible refine hQ.mono ?_); rintro e w2 hp; obtain ⟨rfl, hN⟩ := hQ2 e w2 hp) | (go_at_call 98; (with_reducible refine hN.mono ?_); rintro e w3 ⟨v, o, ws, rfl, hp⟩; have HP : Hid (NatPost w zo val (.returned v) w3) := Lib.hid ⟨v, o, ws, rfl, hp⟩))
    go_ret
    exact HP.out

set_option maxRecDepth 100000 in
set_option maxHeartbeats 1000000 in
theorem mul_zero {zv : Value} {zo : Option Nat} {zs : List Nat} {xa ya : Option Addr} {m n cx cy : Nat} (stk : Value) {w : World} (hz : Own w zv zo zs) (hnm : n ≤ m) (h : n = 0) :
    Calls Tryz.prog 56 #[zv, stk, .slice xa m cx, .slice ya n cy] w (NatPost w zo 0) := by
  subst h
  have HP := Lib.hid (show ∀ v, (∃ b c ws, zo = some b ∧ v = .slice (some ⟨b, 0, none⟩) 0 c ∧ Own w (.slice (some ⟨b, 0, none⟩) zs.length c) (some b) ws) ∨ (zo = none ∧ v = .slice none 0 0) → NatPost w zo 0 (.returned v) w by
    rintro v (⟨b, c, ws, rfl, rfl, h⟩ | ⟨rfl, rfl⟩)
    · exact h.zero
    · exact NatPost.of (IsN.nil w) (Fr.refl _ _) (Later.refl w none))
  by_cases hm : m = 0
  · subst hm
    rcases hz.cases with ⟨rfl, rfl, rfl⟩ | ⟨b, c, rfl, rfl, h1, h2⟩
    · go_enter Tryz.func56, Tryz.ntmps56
      go_wp2
      go_ret
      exact HP.out _ (.inr (by simp))
    · have HQ := Lib.hid (HP.out _ (.inl ⟨b, c, zs, rfl, rfl, hz⟩))
      clear hz HP
      generalize zs.length = zl at *
      go_enter Tryz.func56, Tryz.ntmps56
      go_wp2
      go_ret
      exact HQ.out
  · have hd1 : ((m : Int) == 0) = false := by simp; omega
    rcases hz.cases with ⟨rfl, rfl, rfl⟩ | ⟨b, c, rfl, rfl, h1, h2⟩
    · go_enter Tryz.func56, Tryz.ntmps56
      go_wp2
      go_ret
      exact HP.out _ (.inr (by simp))
    · have HQ := Lib.hid (HP.out _ (.inl ⟨b, c, zs, rfl, rfl, hz⟩))
      clear hz HP
      generalize zs.length = zl at *
      go_enter Tryz.func56, Tryz.ntmps56
      go_wp2
      go_ret
      exact HQ.out

set_option maxRecDepth 100000 in
set_option maxHeartbeats 1000000 in
theorem mul_one {zv : Value} {zo : Option Nat} {zs : List Nat} {xv yv : Value} {xo yo : Option Nat} {xs : List Nat} {y : Nat} (stk : Value) {w : World} (hz : Own w zv zo zs) (hx : Own w xv xo xs) (hy : Own w yv yo [y])
    (wX : Wd xs) (wY : Wd [y]) (hne : xs ≠ []) (hm : xs.length ≤ 40000) : Calls Tryz.prog 56 #[zv, stk, xv, yv] w (NatPost w zo (vl xs * y)) := by
  have hcall := mulAddWW_own hz hx wX (by omega) wY.head Bw_pos
  rw [Nat.add_zero] at hcall
  have hcall' : Calls Tryz.prog 94 #[zv, xv, .int .u64 (y : Int), .int .u64 0] w (NatPost w zo (vl xs * y)) := hcall
  clear hcall
  have hp := pos_of_ne hne
  have hd1 : ((xs.length : Int) == 0) = false := by simp; omega
  obtain ⟨by_, Y, hyo, rfl, hY, htY, hlY, hcY⟩ := hy.block (by simp)
  have hyc := (hY.row_take htY) 0 (by simp)
  rw [show [y].getD 0 0 = y from rfl, Nat.zero_add] at hyc
  rw [show [y].length = 1 from rfl] at *
  obtain ⟨xa, xc, rfl⟩ := hx.slice
  obtain ⟨za, zc, rfl⟩ := hz.slice
  clear hx hz hy wX wY htY hY hne
  generalize Y.length = cY at *
  generalize xs.length = m at *
  generalize zs.length = zl at *
  generalize vl xs * y = val at *
  go_enter Tryz.func56, Tryz.ntmps56
  go_wp2_with (go_at_call 94; (with_reducible refine hcall'.mono ?_); rintro e w3 ⟨v, o, ws, rfl, hp⟩; have HP : Hid (NatPost w zo val (.returned v) w3) := Lib.hid ⟨v, o, ws, rfl, hp⟩)
  go_ret
  exact HP.out

theorem mul_ge {zv : Value} {zo : Option Nat} {zs : List Nat} {xv yv : Value} {xo yo : Option Nat} {xs ys : List Nat} (stk : Value) {w : World} (hz : Own w zv zo zs) (hx : Own w xv xo xs) (hy : Own w yv yo ys)
    (wX : Wd xs) (wY : Wd ys) (hnm : ys.length ≤ xs.length) (hn : ys.length < 40) (hm : xs.length ≤ 40000) (hT : Th w) : Calls Tryz.prog 56 #[zv, stk, xv, yv] w (NatPost w zo (vl xs * vl ys)) := by
  match ys, hy, wY, hnm, hn with
  | [], hy, wY, hnm, hn =>
    obtain ⟨xa, xc, rfl⟩ := hx.slice
    obtain ⟨ya, yc, rfl⟩ := hy.slice
    exact mul_zero stk hz hnm rfl
  | [y], hy, wY, hnm, hn =>
    have := mul_one stk hz hx hy wX wY (by intro h; subst h; simp at hnm) hm
    rwa [show vl [y] = y by simp [vl]]
  | y :: y' :: ys, hy, wY, hnm, hn => exact mul_main stk hz hx hy wX wY (by simp) hnm hn hm hT

set_option maxRecDepth 100000 in
set_option maxHeartbeats 1000000 in
theorem mul_own {zv : Value} {zo : Option Nat} {zs : List Nat} {xv yv : Value} {xo yo : Option Nat} {xs ys : List Nat} (stk : Value) {w : World} (hz : Own w zv zo zs) (hx : Own w xv xo xs) (hy : Own w yv yo ys)
    (wX : Wd xs) (wY : Wd ys) (hn : ys.length < 40) (hm : xs.length < 40) (hT : Th w) : Calls Tryz.prog 56 #[zv, stk, xv, yv] w (NatPost w zo (vl xs * vl ys)) := by
  by_cases h : ys.length ≤ xs.length
  · exact mul_ge stk hz hx hy wX wY h hn (by omega) hT
  · have hcall := mul_ge stk hz hy hx wY wX (by omega) hm (by omega) hT
    rw [Nat.mul_comm] at hcall
    obtain ⟨xa, xc, rfl⟩ := hx.slice
    obtain ⟨ya, yc, rfl⟩ := hy.slice
    obtain ⟨za, zc, rfl⟩ := hz.slice
    have hlt : xs.length < ys.length := by omega
    clear hx hy hz wX wY hT h
    generalize xs.length = n at *
    generalize ys.length = m at *
    generalize zs.length = m at *
    generalize vl xs * vl ys = val at *
    go_enter Tryz.func56, Tryz.ntmps56
    go_wp2_with (go_at_call 56; (with_reducible refine hcall.mono ?_); rintro e w6 ⟨v, o, ws, rfl, hp⟩; have HP : Hid (NatPost w zo val (.returned v) w6) := Lib.hid ⟨v, o, ws, rfl, hp⟩)
    go_ret
    exact HP.out
/-- z.mul(stk, x, y) -/
theorem mul_N {zv : Value} {zo : Option Nat} {zs : List Nat} {xv yv : Value} {xo yo : Option Nat} {a b : Nat} (stk : Value) {w : World} (hz : Own w zv zo zs) (hx : IsN w xv xo a) (hy : IsN w yv yo b) (ha : a < Bw ^ 39) (hb : b < Bw ^ 39) (hT : Th w) :
    Calls Tryz.prog 56 #[zv, stk, xv, yv] w (NatPost w zo (a * b)) := by
  obtain ⟨xs, hx, wX, nX, rfl⟩ := hx
  obtain ⟨ys, hy, wY, nY, rfl⟩ := hy
  have := len_of_lt nX rfl ha
  have := len_of_lt nY rfl hb
  exact mul_own stk hz hx hy wX wY (by omega) (by omega) hT

/-! ### sqr -/
theorem sqr_zero {zv : Value} {zo : Option Nat} {zs : List Nat} {xa : Option Addr} {cx : Nat} (stk : Value) {w : World} (hz : Own w zv zo zs) :
    Calls Tryz.prog 122 #[zv, stk, .slice xa 0 cx] w (NatPost w zo 0) := by
  rcases hz.cases with ⟨rfl, rfl, rfl⟩ | ⟨b, c, rfl, rfl, h1, h2⟩
  · have HP := Lib.hid (NatPost.of (IsN.nil w) (Fr.refl _ _) (Later.refl w none))
    go_enter Tryz.func122, Tryz.ntmps122
    go_wp2
    go_ret
    exact HP.out
  · have HP := Lib.hid hz.zero
    clear hz
    generalize zs.length = zl at *
    go_enter Tryz.func122, Tryz.ntmps122
    go_wp2
    go_ret
    exact HP.out

theorem two_cells {Z : List Nat} {a b : Nat} (h : 2 ≤ Z.length) : (Z.set 1 b).set 0 a = spl Z 0 [a, b] := by
  match Z, h with
  | x :: y :: t, _ => simp [spl]

set_option maxRecDepth 100000 in
set_option maxHeartbeats 1000000 in
theorem sqr_one {zv : Value} {zo : Option Nat} {zs : List Nat} {xv : Value} {xo : Option Nat} {x : Nat} (stk : Value) {w : World} (hz : Own w zv zo zs) (hx : Own w xv xo [x]) (wX : Wd [x]) :
    Calls Tryz.prog 122 #[zv, stk, xv] w (NatPost w zo (x * x)) := by
  have hcall : Calls Tryz.prog 96 #[zv, .int .i64 2] w (MakePost w zo 2) := make_own (n := 2) hz (by omega) (by omega)
  obtain ⟨bx, X, hxo, rfl, hX, htX, hlX, hcX⟩ := hx.block (by simp)
  have hxc := (hX.row_take htX) 0 (by simp)
  rw [show [x].getD 0 0 = x from rfl, Nat.zero_add] at hxc
  rw [show [x].length = 1 from rfl] at *
  obtain ⟨za, zc, rfl⟩ := hz.slice
  have hxw := wX.head
  have hmw := fun w1 => mulWW x x hxw hxw w1
  have hset : ∀ (bz : Nat) (Z : List Nat) (c : Nat) (w1 : World), Z.length = c → Blk w1 bz Z → 2 ≤ Z.length → Z.length ≤ 100000 → Fr [] w w1 → Later w zo (some bz) →
      ∃ v0 v1, w1.cell? ⟨bz, 0, none⟩ = some v0 ∧ w1.cell? ⟨bz, 1, none⟩ = some v1 ∧ w1.frozen? ⟨bz, 0, none⟩ = false ∧ w1.frozen? ⟨bz, 1, none⟩ = false ∧
        Calls Tryz.prog 98 #[.slice (some ⟨bz, 0, none⟩) 2 c] ((w1.setCell ⟨bz, 1, none⟩ (.int .u64 (mulHi x x : Int))).setCell ⟨bz, 0, none⟩ (.int .u64 (mulLo x x : Int))) (NatPost w zo (x * x)) := by
    intro bz Z c w1 hc hZ h1 h3 h4 h5
    refine ⟨_, _, hZ.cell 0 (by omega), hZ.cell 1 (by omega), hZ.frozen 0, hZ.frozen 1, ?_⟩
    have hs := (hZ.set 1 (mulHi x x)).set 0 (mulLo x x)
    rw [two_cells h1] at hs
    have := norm_fin (n := 2) h4 h5 (((Fr.refl [bz] w1).set (c := bz) (.inl (by simp)) 1 (.int .u64 (mulHi x x : Int))).set (c := bz) (.inl (by simp)) 0 (.int .u64 (mulLo x x : Int))) hs rfl hc h1 (by omega) h3 (Wd.cons (mulLo_lt x x) (Wd.one (mulHi_lt hxw hxw)))
    rw [show vl [mulLo x x, mulHi x x] = x * x by simp only [vl, Nat.mul_zero, Nat.add_zero]; exact mul_eq x x] at this
    exact this
  clear hx hz wX htX hX
  generalize X.length = cX at *
  generalize zs.length = zl at *
  generalize mulHi x x = hi at *
  generalize mulLo x x = lo at *
  generalize x * x = val at *
  go_enter Tryz.func122, Tryz.ntmps122
  go_wp2_with (first | (go_at_call 96; (with_reducible refine hcall.mono ?_); rintro e w1 ⟨bz, Z, c, rfl, hc, hZ, h1, h2, h3, h4, h5⟩; obtain ⟨v0, v1, hc0, hc1, hf0, hf1, hN⟩ := hset bz Z c w1 hc hZ h1 h3 h4 h5; clear hc hZ hset) | (go_at_call 181; (with_reducible refine (hmw _).mono ?_); rintro e w4 ⟨rfl, rfl⟩) | (go_at_call 98; (with_reducible refine hN.mono ?_); rintro e w3 ⟨v, o, ws, rfl, hp⟩; have HP : Hid (NatPost w zo val (.returned v) w3) := Lib.hid ⟨v, o, ws, rfl, hp⟩))
  go_ret
  exact HP.out

set_option maxRecDepth 100000 in
set_option maxHeartbeats 1000000 in
theorem sqr_main {zv : Value} {zo : Option Nat} {zs : List Nat} {xv : Value} {xo : Option Nat} {xs : List Nat} (stk : Value) {w : World} (hz : Own w zv zo zs) (hx : Own w xv xo xs)
    (wX : Wd xs) (hn1 : 1 < xs.length) (hn : xs.length < 12) (hT : Th w) : Calls Tryz.prog 122 #[zv, stk, xv] w (NatPost w zo (vl xs * vl xs)) := by
  have hA := alias_own hz hx
  have hx0 : xs ≠ [] := by intro h; subst h; simp at hn1
  obtain ⟨bx, X, hxo, rfl, hX, htX, hlX, hcX⟩ := hx.block hx0
  obtain ⟨ml, hml⟩ : ∃ L, L = xs.length + xs.length := ⟨_, rfl⟩
  have himl : 2 * (xs.length : Int) = (ml : Int) := by omega
  have hwml : IntKind.i64.wrap (ml : Int) = (ml : Int) := by rw [IntKind.wrap_i64]; omega
  have hmk : ∀ k zv' zo' zs', Own w zv' zo' zs' → Calls Tryz.prog 96 #[zv', .int .i64 (ml : Int)] (w.drewN k) (MakePost (w.drewN k) zo' ml) := fun k zv' zo' zs' h => make_own (h.drewN k) (by omega) (by omega)
  have hmkN := fun k => hmk k _ _ _ (Own.nil w)
  have hmkZ := fun k => hmk k _ _ _ hz
  have hset : ∀ k zo' bz Z c w1, (zo' = none ∨ (zo' = zo ∧ shared zo xo = false)) → Z.length = c → Blk w1 bz Z → ml ≤ Z.length → Z.length ≤ 100000 → Fr [] (w.drewN k) w1 → Later (w.drewN k) zo' (some bz) →
      w1.cell? ⟨6, 0, none⟩ = some (.int .i64 12) ∧ w1.cell? ⟨7, 0, none⟩ = some (.int .i64 80) ∧ ∃ Q : Ending → World → Prop, Calls Tryz.prog 97 #[.slice (some ⟨bz, 0, none⟩) ml c, .slice (some ⟨bx, 0, none⟩) xs.length X.length, .slice (some ⟨bx, 0, none⟩) xs.length X.length] w1 Q ∧
        ∀ e w2, Q e w2 → e = .returned (.tuple #[]) ∧ Calls Tryz.prog 98 #[.slice (some ⟨bz, 0, none⟩) ml c] w2 (NatPost w zo (vl xs * vl xs)) := by
    intro k zo' bz Z c w1 hzo hc hZ h1 h3 h4 h5
    have h4' : Fr [] w w1 := ((Fr.refl [] w).drewN k).trans h4
    have h5 := h5.drewN
    have h5' : Later w zo (some bz) := by
      rcases hzo with rfl | ⟨rfl, _⟩
      · exact Later.of_none (o := none) h5
      · exact h5
    have hs1 : shared zo' xo = false := by rcases hzo with rfl | ⟨rfl, h⟩; exact rfl; exact h
    have hbx := ne_of_later (bx := bx) h5 hs1 hxo hX.lt
    have hT1 := hT.fr h4' (by simp)
    refine ⟨hT1.bs, hT1.ks, _, basicMul bz ml c bx X.length bx X.length xs.length xs.length Z xs xs w1 hZ ((hX.row_take htX).fr h4' (by simp)) ((hX.row_take htX).fr h4' (by simp)) wX wX rfl rfl (by omega) (by omega) hml (by omega) (by omega) (by omega) hbx hbx, ?_⟩
    rintro e w2 ⟨rfl, hF, zs2, hl2, hw2, hB2, hv2⟩
    refine ⟨rfl, ?_⟩
    have := norm_fin (n := ml) h4' h5' hF hB2 (by omega) hc (by omega) (by omega) h3 hw2
    rw [hv2] at this
    exact this
  obtain ⟨za, zc, hzv⟩ := hz.slice
  subst hzv
  generalize ha : shared zo xo = a at *
  have hd1 : ((xs.length : Int) == 0) = false := by simp; omega
  have hd3 : ((xs.length : Int) == 1) = false := by simp; omega
  generalize hxl : X.length = cX at *
  generalize zs.length = zl at *
  generalize xs.length = n at *
  generalize vl xs * vl xs = val at *
  have hlt1 : decide ((n : Int) < 12) = true := by simp; omega
  have hlt2 : decide ((n : Int) < 80) = true := by simp; omega
  clear htX hX hx hz hxl hmk wX hx0 hT ha hml
  cases a
  · go_enter Tryz.func122, Tryz.ntmps122
    go_wp2_with (first | (go_at_call 95; (with_reducible refine hA.mono ?_); rintro e w' ⟨rfl, k1, rfl⟩) | (go_at_call 96; (with_reducible refine (hmkZ _).mono ?_); rintro e w1 ⟨bz, Z, c, rfl, hc, hZ, h1, h2, h3, h4, h5⟩; obtain ⟨hk, hk2, Q, hQ, hQ2⟩ := hset _ zo bz Z c w1 (.inr (by simp)) hc hZ h1 h3 h4 h5; clear hc hZ hset) | (go_at_call 97; (with_reducible refine hQ.mono ?_); rintro e w2 hp; obtain ⟨rfl, hN⟩ := hQ2 e w2 hp) | (go_at_call 98; (with_reducible refine hN.mono ?_); rintro e w3 ⟨v, o, ws, rfl, hp⟩; have HP : Hid (NatPost w zo val (.returned v) w3) := Lib.hid ⟨v, o, ws, rfl, hp⟩))
    go_ret
    exact HP.out
  · go_enter Tryz.func122, Tryz.ntmps122
    go_wp2_with (first | (go_at_call 95; (with_reducible refine hA.mono ?_); rintro e w' ⟨rfl, k1, rfl⟩) | (go_at_call 96; (with_reducible refine (hmkN _).mono ?_); rintro e w1 ⟨bz, Z, c, rfl, hc, hZ, h1, h2, h3, h4, h5⟩; obtain ⟨hk, hk2, Q, hQ, hQ2⟩ := hset _ none bz Z c w1 (.inl rfl) hc hZ h1 h3 h4 h5; clear hc hZ hset) | (go_at_call 97; (with_reducible refine hQ.mono ?_); rintro e w2 hp; obtain ⟨rfl, hN⟩ := hQ2 e w2 hp) | (go_at_call 98; (with_reducible refine hN.mono ?_); rintro e w3 ⟨v, o, ws, rfl, hp⟩; have HP : Hid (NatPost w zo val (.returned v) w3) := Lib.hid ⟨v, o, ws, rfl, hp⟩))
    go_ret
    exact HP.out

/-- z.sqr(stk, x) -/
theorem sqr_N {zv : Value} {zo : Option Nat} {zs : List Nat} {xv : Value} {xo : Option Nat} {a : Nat} (stk : Value) {w : World} (hz : Own w zv zo zs) (hx : IsN w xv xo a) (ha : a < Bw ^ 11) (hT : Th w) :
    Calls Tryz.prog 122 #[zv, stk, xv] w (NatPost w zo (a * a)) := by
  obtain ⟨xs, hx, wX, nX, rfl⟩ := hx
  have hl := len_of_lt nX rfl ha
  match xs, hx, wX, hl with
  | [], hx, wX, hl =>
    obtain ⟨xa, xc, rfl⟩ := hx.slice
    exact sqr_zero stk hz
  | [x], hx, wX, hl =>
    have := sqr_one stk hz hx wX
    rwa [show vl [x] = x by simp [vl]]
  | x :: x' :: xs, hx, wX, hl => exact sqr_main stk hz hx wX (by simp) (by omega) hT
end Go.Proofs.YtpmggjplfcjkkaaGreatDoor

/- lsh of nats. -/
set_option linter.unusedVariables false
set_option linter.unusedSimpArgs false
namespace Go.Proofs.YtpmggjplfcjkkaaGreatDoor
open Go.RowKit Nq

theorem run_clear_words0 {w : World} {b n c : Nat} {Z : List Nat} (h : Blk w b Z) (hn : n ≤ Z.length) (ty : TypeId) :
    (Builtin.clear_ #[97] ty #[.slice (some ⟨b, 0, none⟩) n c]).run Tryz.prog w = .ok (.tuple #[]) (putZ w b n) := by
  by_cases h0 : n = 0
  · subst h0
    show _ = Result.ok (Value.tuple #[]) w
    simp [Builtin.clear_, run_underlying sliceNat']
  · exact run_clear_words h hn (by omega) ty

theorem lsh_value {x zs : List Nat} {q t m c s : Nat} (hE : vl zs + Bw ^ m * c = vl x * 2 ^ t) (hl : zs.length = m) (hs : s = 64 * q + t) : vl (List.replicate q 0 ++ (zs ++ [c])) = vl x * 2 ^ s := by
  have hB : Bw ^ q = 2 ^ (64 * q) := by rw [Nat.pow_mul]; congr 1; rw [Bw_eq]
  rw [vl_append, vl_replicate, vl_snoc, hl, hE, List.length_replicate, hB, hs, Nat.pow_add]
  grind
theorem lsh_take {Z zs : List Nat} {q n : Nat} (hl : q + zs.length = n) (hn : n ≤ Z.length) : (spl (spl Z q zs) 0 (List.replicate q 0)).take (List.replicate q 0 ++ zs).length = List.replicate q 0 ++ zs := by
  have e1 : (Z.take q).length = q := by simp; omega
  simp only [spl, List.take_zero, List.nil_append, Nat.zero_add, List.length_replicate, List.append_assoc]
  rw [List.drop_append_of_le_length (by omega)]
  have e2 : (List.drop q (Z.take q)) = [] := List.drop_eq_nil_of_le (by omega)
  rw [e2, List.nil_append, ← List.append_assoc, List.take_append_of_le_length (Nat.le_refl _), List.take_length]

/-- What clear and norm do at the end of lsh. -/
theorem lsh_fin {w w1 w2 : World} {zo : Option Nat} {b n cc q t m c s : Nat} {Z zs x : List Nat} (h1 : Fr [] w w1) (hl : Later w zo (some b)) (h2 : Fr [b] w1 w2) (hZ : Blk w2 b (spl Z q (zs ++ [c]))) (hlz : zs.length = m) (hn : n = q + m) (hcc : Z.length = cc) (hnc : n + 1 ≤ Z.length) (hm : Z.length ≤ 100000) (hw : Wd zs) (hcw : c < Bw)
    (hE : vl zs + Bw ^ m * c = vl x * 2 ^ t) (hs : s = 64 * q + t) :
    (∀ ty, (Builtin.clear_ #[97] ty #[.slice (some ⟨b, 0, none⟩) q cc]).run Tryz.prog w2 = .ok (.tuple #[]) (putZ w2 b q)) ∧ Calls Tryz.prog 98 #[.slice (some ⟨b, 0, none⟩) (n + 1) cc] (putZ w2 b q) (NatPost w zo (vl x * 2 ^ s)) := by
  have hlen : (spl Z q (zs ++ [c])).length = Z.length := spl_length _ _ _ (by simp; omega)
  obtain ⟨k1, k2⟩ := putZ_spec (n := q) hZ (by omega)
  refine ⟨fun ty => run_clear_words0 hZ (by omega) ty, ?_⟩
  have ht := lsh_take (Z := Z) (zs := zs ++ [c]) (q := q) (n := n + 1) (by simp; omega) hnc
  have hlen2 : (spl (spl Z q (zs ++ [c])) 0 (List.replicate q 0)).length = Z.length := by rw [spl_length _ _ _ (by simp; omega), hlen]
  have h := norm_own (n := n + 1) k1 ht (by simp; omega) (by omega) (by omega) (by omega) ((Wd.replicate q).append (hw.append (Wd.one hcw)))
  rw [hlen2, hcc, lsh_value hE hlz hs] at h
  refine h.mono ?_
  rintro e w' ⟨rfl, v, rfl, j1, j2, j3, j4⟩
  exact ⟨v, some b, _, rfl, j1, j2, j3, j4, h1.made hl (h2.trans k2), hl⟩

set_option maxRecDepth 100000 in
set_option maxHeartbeats 1000000 in
theorem lsh_bits {zv : Value} {zo : Option Nat} {zs : List Nat} {xv : Value} {xo : Option Nat} {xs : List Nat} {s q t : Nat} {w : World} (hz : Own w zv zo zs) (hx : Own w xv xo xs) (wX : Wd xs) (hne : xs ≠ []) (hm : xs.length ≤ 1000) (hs : s = 64 * q + t) (ht : t < 64) (ht0 : 0 < t) (hq : q ≤ 1000) :
    Calls Tryz.prog 71 #[zv, xv, .int .u64 (s : Int)] w (NatPost w zo (vl xs * 2 ^ s)) := by
  obtain ⟨bx, X, hxo, rfl, hX, htX, hlX, hcX⟩ := hx.block hne
  have hp := pos_of_ne hne
  have hRX := hX.row_take htX
  have hd1 : ((xs.length : Int) == 0) = false := by simp; omega
  have hd2 : ((s : Int) == 0) = false := by simp; omega
  obtain ⟨n, hn⟩ : ∃ n, n = q + xs.length := ⟨_, rfl⟩
  have hcall : Calls Tryz.prog 96 #[zv, .int .i64 ((n : Int) + 1)] w (MakePost w zo (n + 1)) := by
    have := make_own (n := n + 1) hz (by omega) (by omega)
    simpa using this
  obtain ⟨za, zc, rfl⟩ := hz.slice
  have hset : ∀ (bz : Nat) (Z : List Nat) (c : Nat) (w1 : World), Z.length = c → Blk w1 bz Z → n + 1 ≤ Z.length → Z.length ≤ 100000 → Fr [] w w1 → Later w zo (some bz) →
      ∃ Q : Ending → World → Prop, Calls Tryz.prog 124 #[.slice (some ⟨bz, q, none⟩) xs.length (c - q), .slice (some ⟨bx, 0, none⟩) xs.length X.length, .int .u64 (t : Int)] w1 Q ∧ ∀ e w2, Q e w2 → ∃ d : Nat, e = .returned (.int .u64 (d : Int)) ∧ (∃ v, w2.cell? ⟨bz, n, none⟩ = some v) ∧ w2.frozen? ⟨bz, n, none⟩ = false ∧
        ∃ w3, (∀ ty, (Builtin.clear_ #[97] ty #[.slice (some ⟨bz, 0, none⟩) q c]).run Tryz.prog (w2.setCell ⟨bz, n, none⟩ (.int .u64 (d : Int))) = .ok (.tuple #[]) w3) ∧ Calls Tryz.prog 98 #[.slice (some ⟨bz, 0, none⟩) (n + 1) c] w3 (NatPost w zo (vl xs * 2 ^ s)) := by
    intro bz Z c w1 hc hZ h1 h3 h4 h5
    refine ⟨_, lshVU bz q (c - q) bx 0 X.length xs.length Z xs t w1 hZ (hRX.fr h4 (by simp)) wX (by omega) (by omega) (by omega) (by omega) hp (fun _ => .inl (by omega)) ht ht0, ?_⟩
    rintro e w2 ⟨d, zs2, rfl, hd, hl2, hw2, hB, hF, hE⟩
    have hd' : d < Bw := Nat.lt_of_lt_of_le hd (by rw [Bw_eq, show 18446744073709551616 = 2 ^ 64 from rfl]; exact Nat.pow_le_pow_right (by omega) (by omega))
    refine ⟨d, rfl, ⟨_, hB.cell n (by rw [spl_length _ _ _ (by omega)]; omega)⟩, hB.frozen _, putZ (w2.setCell ⟨bz, n, none⟩ (.int .u64 (d : Int))) bz q, ?_⟩
    have hs2 := hB.set n d
    have e1 := spl_snoc Z q zs2 d (by omega)
    rw [show q + zs2.length = n by omega] at e1
    rw [e1] at hs2
    exact lsh_fin h4 h5 (hF.set (c := bz) (.inl (by simp)) n (.int .u64 (d : Int))) hs2 hl2 hn hc h1 h3 hw2 hd' hE hs
  have r1 : (s : Int) / 64 = (q : Int) := by omega
  have r2 : (s : Int) % 64 = (t : Int) := by omega
  have r3 : IntKind.i64.wrap (q : Int) = (q : Int) := by rw [IntKind.wrap_i64]; omega
  have r4 : (xs.length : Int) + (q : Int) = (n : Int) := by omega
  have r5 : (n : Int) - (xs.length : Int) = (q : Int) := by omega
  have r6 : IntKind.i64.wrap (n : Int) = (n : Int) := by rw [IntKind.wrap_i64]; omega
  have r7 : n - q = xs.length := by omega
  have r8 : q ≤ n := by omega
  have r9 : ((t : Int) == 0) = false := by simp; omega
  clear hX hx wX htX hRX hz hn
  generalize X.length = cX at *
  generalize zs.length = zl at *
  generalize xs.length = m at *
  generalize vl xs * 2 ^ s = val at *
  clear hs
  go_enter Tryz.func71, Tryz.ntmps71
  go_wp2_with (first | (go_at_call 96; (with_reducible refine hcall.mono ?_); rintro e w1 ⟨bz, Z, c, rfl, hc, hZ, h1, h2, h3, h4, h5⟩; obtain ⟨Q, hQ, hQ2⟩ := hset bz Z c w1 hc hZ h1 h3 h4 h5; have hnc : n ≤ c := (by omega); have hqc : q ≤ c := (by omega); have hqc2 : ¬ c = q := (by omega); clear hc hZ hset) | (go_at_call 124; (with_reducible refine hQ.mono ?_); rintro e w2 hp; obtain ⟨d, rfl, ⟨v0, hv⟩, hfz, w3, hcl, hN⟩ := hQ2 e w2 hp) | (go_at_call 98; (with_reducible refine hN.mono ?_); rintro e w4 ⟨v, o, ws, rfl, hp⟩; have HP : Hid (NatPost w zo val (.returned v) w4) := Lib.hid ⟨v, o, ws, rfl, hp⟩) | (simp only [hcl]))
  go_ret
  exact HP.out
set_option maxRecDepth 100000 in
set_option maxHeartbeats 1000000 in
theorem lsh_words {zv : Value} {zo : Option Nat} {zs : List Nat} {xv : Value} {xo : Option Nat} {xs : List Nat} {s q : Nat} {w : World} (hz : Own w zv zo zs) (hx : Own w xv xo xs) (wX : Wd xs) (hne : xs ≠ []) (hm : xs.length ≤ 1000) (hs : s = 64 * q) (hs0 : 0 < s) (hq : q ≤ 1000) :
    Calls Tryz.prog 71 #[zv, xv, .int .u64 (s : Int)] w (NatPost w zo (vl xs * 2 ^ s)) := by
  obtain ⟨bx, X, hxo, rfl, hX, htX, hlX, hcX⟩ := hx.block hne
  have hp := pos_of_ne hne
  have hRX := hX.row_take htX
  have hd1 : ((xs.length : Int) == 0) = false := by simp; omega
  have hd2 : ((s : Int) == 0) = false := by simp; omega
  obtain ⟨n, hn⟩ : ∃ n, n = q + xs.length := ⟨_, rfl⟩
  have hcall : Calls Tryz.prog 96 #[zv, .int .i64 ((n : Int) + 1)] w (MakePost w zo (n + 1)) := by
    have := make_own (n := n + 1) hz (by omega) (by omega)
    simpa using this
  obtain ⟨za, zc, rfl⟩ := hz.slice
  have hset : ∀ (bz : Nat) (Z : List Nat) (c : Nat) (w1 : World), Z.length = c → Blk w1 bz Z → n + 1 ≤ Z.length → Z.length ≤ 100000 → Fr [] w w1 → Later w zo (some bz) →
      (∀ ty, (Builtin.copy_ #[97, 97] ty #[.slice (some ⟨bz, q, none⟩) xs.length (c - q), .slice (some ⟨bx, 0, none⟩) xs.length X.length]).run Tryz.prog w1 = .ok (.int .i64 (xs.length : Int)) (putW w1 bz (spl Z q xs))) ∧
        (∃ v, (putW w1 bz (spl Z q xs)).cell? ⟨bz, n, none⟩ = some v) ∧ (putW w1 bz (spl Z q xs)).frozen? ⟨bz, n, none⟩ = false ∧
        ∃ w3, (∀ ty, (Builtin.clear_ #[97] ty #[.slice (some ⟨bz, 0, none⟩) q c]).run Tryz.prog ((putW w1 bz (spl Z q xs)).setCell ⟨bz, n, none⟩ (.int .u64 0)) = .ok (.tuple #[]) w3) ∧ Calls Tryz.prog 98 #[.slice (some ⟨bz, 0, none⟩) (n + 1) c] w3 (NatPost w zo (vl xs * 2 ^ s)) := by
    intro bz Z c w1 hc hZ h1 h3 h4 h5
    obtain ⟨hB, hF⟩ := putW_spec (vs := spl Z q xs) hZ
    refine ⟨fun ty => run_copy_words 97 97 ty sliceNat' wordSize w1 bz q xs.length (c - q) bx 0 xs.length X.length Z xs hZ (hRX.fr h4 (by simp)) (Nat.min_self _).symm (by omega), ⟨_, hB.cell n (by rw [spl_length _ _ _ (by omega)]; omega)⟩, hB.frozen _, putZ ((putW w1 bz (spl Z q xs)).setCell ⟨bz, n, none⟩ (.int .u64 0)) bz q, ?_⟩
    have hs2 := hB.set n 0
    have e1 := spl_snoc Z q xs 0 (by omega)
    rw [show q + xs.length = n by omega] at e1
    rw [e1] at hs2
    exact lsh_fin (t := 0) h4 h5 (hF.set (c := bz) (.inl (by simp)) n (.int .u64 ((0 : Nat) : Int))) hs2 rfl hn hc h1 h3 wX Bw_pos (by simp) hs
  have r1 : (s : Int) / 64 = (q : Int) := by omega
  have r2 : (s : Int) % 64 = 0 := by omega
  have r3 : IntKind.i64.wrap (q : Int) = (q : Int) := by rw [IntKind.wrap_i64]; omega
  have r4 : (xs.length : Int) + (q : Int) = (n : Int) := by omega
  have r5 : (n : Int) - (xs.length : Int) = (q : Int) := by omega
  have r6 : IntKind.i64.wrap (n : Int) = (n : Int) := by rw [IntKind.wrap_i64]; omega
  have r7 : n - q = xs.length := by omega
  have r8 : q ≤ n := by omega
  clear hX hx wX htX hRX hz hn
  generalize X.length = cX at *
  generalize zs.length = zl at *
  generalize xs.length = m at *
  generalize vl xs * 2 ^ s = val at *
  clear hs
  go_enter Tryz.func71, Tryz.ntmps71
  go_wp2_with (first | (go_at_call 96; (with_reducible refine hcall.mono ?_); rintro e w1 ⟨bz, Z, c, rfl, hc, hZ, h1, h2, h3, h4, h5⟩; obtain ⟨hcp, ⟨v0, hv⟩, hfz, w3, hcl, hN⟩ := hset bz Z c w1 hc hZ h1 h3 h4 h5; generalize putW w1 bz (spl Z q xs) = w5 at *; have hnc : n ≤ c := (by omega); have hqc : q ≤ c := (by omega); have hqc2 : ¬ c = q := (by omega); clear hc hZ hset) | (go_at_call 98; (with_reducible refine hN.mono ?_); rintro e w4 ⟨v, o, ws, rfl, hp⟩; have HP : Hid (NatPost w zo val (.returned v) w4) := Lib.hid ⟨v, o, ws, rfl, hp⟩) | (simp only [hcl]))
  go_ret
  exact HP.out

/-- z.lsh(x, s), s > 0 -/
theorem lsh_N {zv : Value} {zo : Option Nat} {zs : List Nat} {xv : Value} {xo : Option Nat} {a s : Nat} {w : World} (hz : Own w zv zo zs) (hx : IsN w xv xo a) (ha : a < Bw ^ 1000) (ha0 : 0 < a) (hs : 0 < s) (hs' : s ≤ 64000) :
    Calls Tryz.prog 71 #[zv, xv, .int .u64 (s : Int)] w (NatPost w zo (a * 2 ^ s)) := by
  obtain ⟨xs, hx, wX, nX, rfl⟩ := hx
  have hl := len_of_lt nX rfl ha
  have hne : xs ≠ [] := by intro h; subst h; simp [vl] at ha0
  by_cases ht : s % 64 = 0
  · exact lsh_words (q := s / 64) hz hx wX hne hl (by omega) hs (by omega)
  · exact lsh_bits (q := s / 64) (t := s % 64) hz hx wX hne hl (by omega) (by omega) (by omega) (by omega)
end Go.Proofs.YtpmggjplfcjkkaaGreatDoor

/- divW. -/
set_option linter.unusedVariables false
set_option linter.unusedSimpArgs false
namespace Go.Proofs.YtpmggjplfcjkkaaGreatDoor
open Go.RowKit Nq

/-- divW hands back. -/
def DivWNPost (w : World) (zo : Option Nat) (a y : Nat) (e : Ending) (w' : World) : Prop :=
  ∃ v o, e = .returned (.tuple #[v, .int .u64 ((a % y : Nat) : Int)]) ∧ IsN w' v o (a / y) ∧ Fr zo.toList w w' ∧ Later w zo o

set_option maxRecDepth 100000 in
set_option maxHeartbeats 400000 in
theorem divW_one {zv : Value} {zo : Option Nat} {zs : List Nat} {xv : Value} {xo : Option Nat} {xs : List Nat} {w : World} (hz : Own w zv zo zs) (hx : Own w xv xo xs) (wX : Wd xs) (nX : Nz xs) (hne : xs ≠ []) (hl : xs.length ≤ 80000) :
    Calls Tryz.prog 169 #[zv, xv, .int .u64 1] w (DivWNPost w zo (vl xs) 1) := by
  have hcall := set_own hz hx wX nX hne (by omega)
  have hfin : ∀ v w', NatPost w zo (vl xs) (.returned v) w' → DivWNPost w zo (vl xs) 1 (.returned (.tuple #[v, .int .u64 0])) w' := by
    intro v w' h
    obtain ⟨v', o, h1, h2, h3, h4⟩ := h.isN
    injection h1 with h1
    subst h1
    exact ⟨v, o, by rw [Nat.mod_one]; rfl, by rw [Nat.div_one]; exact h2, h3, h4⟩
  obtain ⟨xa, xc, rfl⟩ := hx.slice
  obtain ⟨za, zc, rfl⟩ := hz.slice
  clear hx hz wX nX hne
  generalize xs.length = n at *
  generalize zs.length = m at *
  generalize vl xs = val at *
  go_enter Tryz.func169, Tryz.ntmps169
  go_wp2_with (go_at_call 93; (with_reducible refine hcall.mono ?_); rintro e w6 ⟨v, o, ws, rfl, hp⟩; have HP := Lib.hid (hfin v w6 ⟨v, o, ws, rfl, hp⟩))
  go_ret2
  exact HP.out

set_option maxRecDepth 100000 in
set_option maxHeartbeats 400000 in
theorem divW_zero {zv : Value} {zo : Option Nat} {zs : List Nat} {xa : Option Addr} {cx y : Nat} {w : World} (hz : Own w zv zo zs) (hy1 : 1 < y) :
    Calls Tryz.prog 169 #[zv, .slice xa 0 cx, .int .u64 (y : Int)] w (DivWNPost w zo 0 y) := by
  have hfin : ∀ v w', NatPost w zo 0 (.returned v) w' → DivWNPost w zo 0 y (.returned (.tuple #[v, .int .u64 0])) w' := by
    intro v w' h
    obtain ⟨v', o, h1, h2, h3, h4⟩ := h.isN
    injection h1 with h1
    subst h1
    exact ⟨v, o, by rw [Nat.zero_mod]; rfl, by rw [Nat.zero_div]; exact h2, h3, h4⟩
  have hd1 : ((y : Int) == 0) = false := by simp; omega
  have hd2 : ((y : Int) == 1) = false := by simp; omega
  rcases hz.cases with ⟨rfl, rfl, rfl⟩ | ⟨b, c, rfl, rfl, h1, h2⟩
  · have HP := Lib.hid (hfin _ _ (NatPost.of (IsN.nil w) (Fr.refl _ _) (Later.refl w none)))
    clear hfin
    go_enter Tryz.func169, Tryz.ntmps169
    go_wp2
    go_ret2
    exact HP.out
  · have HP := Lib.hid (hfin _ _ hz.zero)
    clear hz hfin
    generalize zs.length = zl at *
    go_enter Tryz.func169, Tryz.ntmps169
    go_wp2
    go_ret2
    exact HP.out

set_option maxRecDepth 100000 in
set_option maxHeartbeats 400000 in
theorem divW_main {zv : Value} {zo : Option Nat} {zs : List Nat} {xv : Value} {xo : Option Nat} {xs : List Nat} {y : Nat} {w : World} (hz : Own w zv zo zs) (hx : Own w xv xo xs) (wX : Wd xs) (hne : xs ≠ []) (hl : xs.length ≤ 80000) (hy : y < Bw) (hy1 : 1 < y) :
    Calls Tryz.prog 169 #[zv, xv, .int .u64 (y : Int)] w (DivWNPost w zo (vl xs) y) := by
  have hcall := make_own (n := xs.length) hz (by omega) (pos_of_ne hne)
  have hp := pos_of_ne hne
  obtain ⟨bx, X, hxo, rfl, hX, htX, hlX, hcX⟩ := hx.block hne
  obtain ⟨za, zc, rfl⟩ := hz.slice
  have hset : ∀ (bz : Nat) (Z : List Nat) (c : Nat) (w1 : World), Z.length = c → Blk w1 bz Z → xs.length ≤ Z.length → 0 < Z.length → Z.length ≤ 100000 → Fr [] w w1 → Later w zo (some bz) →
      ∃ Q : Ending → World → Prop, Calls Tryz.prog 202 #[.slice (some ⟨bz, 0, none⟩) xs.length c, .int .u64 0, .slice (some ⟨bx, 0, none⟩) xs.length X.length, .int .u64 (y : Int)] w1 Q ∧
        ∀ e w2, Q e w2 → ∃ r : Nat, e = .returned (.int .u64 (r : Int)) ∧ ∃ val, Calls Tryz.prog 98 #[.slice (some ⟨bz, 0, none⟩) xs.length c] w2 (NatPost w zo val) ∧ ∀ v w3, NatPost w zo val (.returned v) w3 → DivWNPost w zo (vl xs) y (.returned (.tuple #[v, .int .u64 (r : Int)])) w3 := by
    intro bz Z c w1 hc hZ h1 h2 h3 h4 h5
    refine ⟨_, divWVW bz 0 c bx 0 X.length xs.length Z xs y w1 hZ ((hX.row_take htX).fr h4 (by simp)) wX rfl (by omega) (by omega) hp (fun _ => .inl (by omega)) hy (by omega), ?_⟩
    rintro e w2 ⟨r, zs2, rfl, hr, hl2, hw2, hB, hF, hE⟩
    obtain ⟨q1, q2⟩ := quo_of hE.symm hr
    refine ⟨r, rfl, vl zs2, norm_fin h4 h5 hF hB (by omega) hc (by omega) h2 h3 hw2, ?_⟩
    intro v w3 h
    obtain ⟨v', o, j1, j2, j3, j4⟩ := h.isN
    injection j1 with j1
    subst j1
    exact ⟨v, o, by rw [q2], by rw [q1]; exact j2, j3, j4⟩
  have hd0 : ((xs.length : Int) == 0) = false := by simp; omega
  have hd1 : ((y : Int) == 0) = false := by simp; omega
  have hd2 : ((y : Int) == 1) = false := by simp; omega
  clear hx hz wX hne htX hX
  generalize xs.length = n at *
  generalize X.length = cX at *
  generalize zs.length = m at *
  generalize vl xs = val at *
  go_enter Tryz.func169, Tryz.ntmps169
  go_wp2_with (first | (go_at_call 96; (with_reducible refine hcall.mono ?_); rintro e w1 ⟨bz, Z, c, rfl, hc, hZ, h1, h2, h3, h4, h5⟩; obtain ⟨Q, hQ, hQ2⟩ := hset bz Z c w1 hc hZ h1 h2 h3 h4 h5; clear hc hZ hset) | (go_at_call 202; (with_reducible refine hQ.mono ?_); rintro e w2 hp; obtain ⟨r, rfl, val2, hN, hfin⟩ := hQ2 e w2 hp) | (go_at_call 98; (with_reducible refine hN.mono ?_); rintro e w3 ⟨v, o, ws, rfl, hp⟩; have HP := Lib.hid (hfin v w3 ⟨v, o, ws, rfl, hp⟩)))
  go_ret2
  exact HP.out

/-- z.divW(x, y) -/
theorem divW_N {zv : Value} {zo : Option Nat} {zs : List Nat} {xv : Value} {xo : Option Nat} {a y : Nat} {w : World} (hz : Own w zv zo zs) (hx : IsN w xv xo a) (ha : a < Bw ^ 1000) (hy : y < Bw) (hy0 : 0 < y) (ha0 : 0 < a ∨ 1 < y) :
    Calls Tryz.prog 169 #[zv, xv, .int .u64 (y : Int)] w (DivWNPost w zo a y) := by
  obtain ⟨xs, hx, wX, nX, rfl⟩ := hx
  have hl := len_of_lt nX rfl ha
  by_cases hx0 : xs = []
  · subst hx0
    have hy1 : 1 < y := by rcases ha0 with h | h; simp [vl] at h; exact h
    obtain ⟨xa, xc, rfl⟩ := hx.slice
    exact divW_zero hz hy1
  · by_cases hy1 : y = 1
    · subst hy1
      exact divW_one hz hx wX nX hx0 (by omega)
    · exact divW_main hz hx wX hx0 (by omega) hy (by omega)
end Go.Proofs.YtpmggjplfcjkkaaGreatDoor

/- The stack of temporary words: slices.Grow, getStack, save, restore, nat, free. -/
set_option linter.unusedVariables false
set_option linter.unusedSimpArgs false
namespace Go.Proofs.YtpmggjplfcjkkaaGreatDoor
open Go.RowKit Nq

theorem intInfo : Tryz.prog.underlying 3 = some (.int .i64) := by kernel_rfl
theorem sliceWord : Tryz.prog.underlying 96 = some (.slice 168) := by kernel_rfl
theorem zeroCells_words (n : Nat) : Builtin.zeroCells (Value.cells (.int .u64 0)) n = wds (List.replicate n 0) := by
  have hc : Value.cells (.int .u64 0) = #[.int .u64 0] := by rfl
  apply Array.ext
  · rw [hc]; simp [wds, Builtin.zeroCells]
  · intro i h1 h2
    simp [Builtin.zeroCells, wds, Nat.mod_one, hc]
theorem wds_append (a b : List Nat) : wds a ++ wds b = wds (a ++ b) := by simp [wds]

/-- append(nil, make([]Word, n)...) -/
theorem append_nil_words (t : TypeId) (ht : Tryz.prog.underlying t = some (.slice 168)) (n : Nat) (h0 : 0 < n) (hn : n ≤ 1000000) (w : World) :
    ∃ c, n ≤ c ∧ c < 9223372036854775808 ∧ ∀ ty, (Builtin.append_ #[t, 3] ty #[.slice none 0 0, .int .i64 (n : Int)]).run Tryz.prog w = .ok (.slice (some ⟨w.heap.size, 0, none⟩) n c) (w.drew.alloc (.cells (wds (List.replicate c 0)) 168)) := by
  obtain ⟨i0, hi, hz0, hz1, hz2⟩ := info_parts wordInfo
  have h1 := grownCap_ge w n 0 168
  have h2 := grownCap_le_maxLen w n 0 168 (by unfold maxLen; omega)
  refine ⟨grownCap w n 0 168, h1, by unfold maxLen at h2; omega, fun ty => ?_⟩
  rw [Lib.run_append_nil_zeros (P := Tryz.prog) w t 3 ty 168 i0 (.int .u64 0) .i64 .i64 ht intInfo hi hz0 n h0 (by omega) (by omega) (by rw [hz2]; omega)]
  rw [zeroCells_words, zeroCells_words, wds_append, List.replicate_append_replicate, show n + (grownCap w n 0 168 - n) = grownCap w n 0 168 by omega]

/-- What slices.Grow of nil gives. -/
def GrowNil (w : World) (n : Nat) (e : Ending) (w' : World) : Prop :=
  ∃ c, n ≤ c ∧ c < 9223372036854775808 ∧ e = .returned (.slice (some ⟨w.heap.size, 0, none⟩) 0 c) ∧ w' = w.drew.alloc (.cells (wds (List.replicate c 0)) 168)

set_option maxRecDepth 100000 in
set_option maxHeartbeats 400000 in
theorem grow_nil (n : Nat) (h0 : 0 < n) (hn : n ≤ 100000) (w : World) : Calls Tryz.prog 153 #[.slice none 0 0, .int .i64 (n : Int)] w (GrowNil w n) := by
  obtain ⟨c, hc, hc2, happ⟩ := append_nil_words 97 sliceNat' n h0 (by omega) w
  have HP := Lib.hid (show GrowNil w n (.returned (.slice (some ⟨w.heap.size, 0, none⟩) 0 c)) (w.drew.alloc (.cells (wds (List.replicate c 0)) 168)) from ⟨c, hc, hc2, rfl, rfl⟩)
  go_enter Tryz.func153, Tryz.ntmps153
  go_wp2_with (at_builtin; refine Lib.wpList_append_run _ rfl _ _ _ _ rfl _ _ rfl rfl _ _ (happ _) ?_)
  go_ret
  exact HP.out
set_option maxRecDepth 100000 in
set_option maxHeartbeats 400000 in
theorem grow_nil' (n : Nat) (h0 : 0 < n) (hn : n ≤ 100000) (w : World) : Calls Tryz.prog 194 #[.slice none 0 0, .int .i64 (n : Int)] w (GrowNil w n) := by
  obtain ⟨c, hc, hc2, happ⟩ := append_nil_words 96 sliceWord n h0 (by omega) w
  have HP := Lib.hid (show GrowNil w n (.returned (.slice (some ⟨w.heap.size, 0, none⟩) 0 c)) (w.drew.alloc (.cells (wds (List.replicate c 0)) 168)) from ⟨c, hc, hc2, rfl, rfl⟩)
  go_enter Tryz.func194, Tryz.ntmps194
  go_wp2_with (at_builtin; refine Lib.wpList_append_run _ rfl _ _ _ _ rfl _ _ rfl rfl _ _ (happ _) ?_)
  go_ret
  exact HP.out

/-- An unused stack. -/
def StkNil (w : World) (s : Nat) : Prop := w.heap[s]? = some (.cells #[.pointer none] 139 (0, 0))
theorem StkNil.fr {S : List Nat} {w w' : World} {s : Nat} (h : StkNil w s) (hf : Fr S w w') (hs : s ∉ S) : StkNil w' s := (hf.block s (Array.getElem?_eq_some_iff.1 h).1 hs).trans h
theorem StkNil.lt {w : World} {s : Nat} (h : StkNil w s) : s < w.heap.size := (Array.getElem?_eq_some_iff.1 h).1
theorem StkNil.cell {w : World} {s : Nat} (h : StkNil w s) : w.cell? ⟨s, 0, none⟩ = some (.pointer none) := by unfold World.cell?; rw [h]; rfl
theorem StkNil.frozen {w : World} {s : Nat} (h : StkNil w s) : w.frozen? ⟨s, 0, none⟩ = false := by unfold World.frozen?; rw [h]; rfl

set_option maxRecDepth 100000 in
theorem getStack (w : World) : Calls Tryz.prog 40 #[] w fun e w' => e = .returned (.pointer (some ⟨w.heap.size, 0, none⟩)) ∧ w' = w.alloc (.cells #[.pointer none] 139) := by
  go_enter Tryz.func40, Tryz.ntmps40
  go_wp2
  go_ret
  exact ⟨rfl, rfl⟩

set_option maxRecDepth 100000 in
theorem free_nil {s : Nat} {w : World} (h : StkNil w s) : Calls Tryz.prog 41 #[.pointer (some ⟨s, 0, none⟩)] w fun e w' => e = .returned (.tuple #[]) ∧ w' = w := by
  have hc := h.cell
  clear h
  go_enter Tryz.func41, Tryz.ntmps41
  go_wp2
  exact ⟨rfl, .tuple #[], results_none rfl _ _ _, rfl, rfl⟩
set_option maxRecDepth 100000 in
theorem save_nil {s : Nat} {w : World} (h : StkNil w s) : Calls Tryz.prog 101 #[.pointer (some ⟨s, 0, none⟩)] w fun e w' => e = .returned (.int .i64 0) ∧ w' = w := by
  have hc := h.cell
  clear h
  go_enter Tryz.func101, Tryz.ntmps101
  go_wp2
  go_ret
  exact ⟨rfl, rfl⟩
set_option maxRecDepth 100000 in
theorem restore_nil {s : Nat} (n : Value) {w : World} (h : StkNil w s) : Calls Tryz.prog 100 #[.pointer (some ⟨s, 0, none⟩), n] w fun e w' => e = .returned (.tuple #[]) ∧ w' = w := by
  have hc := h.cell
  clear h
  go_enter Tryz.func100, Tryz.ntmps100
  go_wp2
  exact ⟨rfl, .tuple #[], results_none rfl _ _ _, rfl, rfl⟩

/-- What nat gives, without the stack: a new block. -/
def NatNew (w : World) (n : Nat) (e : Ending) (w' : World) : Prop :=
  ∃ b Z, e = .returned (.slice (some ⟨b, 0, none⟩) n Z.length) ∧ Blk w' b Z ∧ n ≤ Z.length ∧ w.heap.size ≤ b ∧ Fr [] w w'

set_option maxRecDepth 100000 in
set_option maxHeartbeats 400000 in
theorem nat_small {s n : Nat} {w : World} (h : StkNil w s) (hn : n ≤ 4) (h0 : 0 < n) : Calls Tryz.prog 102 #[.pointer (some ⟨s, 0, none⟩), .int .i64 (n : Int)] w (NatNew w n) := by
  have hc := h.cell
  have hg := grow_nil n h0 (by omega) w
  have hset : ∀ c w1, n ≤ c → w1 = w.drew.alloc (.cells (wds (List.replicate c 0)) 168) → ∃ v0, w1.cell? ⟨w.heap.size, 0, none⟩ = some v0 ∧ w1.frozen? ⟨w.heap.size, 0, none⟩ = false ∧
      Hid (NatNew w n (.returned (.slice (some ⟨w.heap.size, 0, none⟩) n c)) (w1.setCell ⟨w.heap.size, 0, none⟩ (.int .u64 11259375))) := by
    rintro c w1 hc rfl
    have hB : Blk (w.drew.alloc (.cells (wds (List.replicate c 0)) 168)) w.heap.size (List.replicate c 0) := Blk.new w.drew _
    refine ⟨_, hB.cell 0 (by simp; omega), hB.frozen 0, Lib.hid ⟨w.heap.size, (List.replicate c 0).set 0 11259375, by simp, hB.set 0 11259375, by simpa using hc, Nat.le_refl _, ?_⟩⟩
    exact (((Fr.refl [] w).drewN 1).alloc _).set (.inr (Nat.le_refl _)) _ _
  clear h
  go_enter Tryz.func102, Tryz.ntmps102
  go_wp2_with (go_at_call 153; (with_reducible refine hg.mono ?_); rintro e w1 ⟨c, hc1, hc2, rfl, hw1⟩; obtain ⟨v0, hv0, hf0, HP⟩ := hset c w1 hc1 hw1; clear hset hw1)
  go_ret
  exact HP.out
end Go.Proofs.YtpmggjplfcjkkaaGreatDoor
