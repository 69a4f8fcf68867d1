/- The stack of temporary words, with words on it. -/
import Derived.Test.YtpmggjplfcjkkaaGreatDoorZ08
import Derived.Defers
set_option linter.unusedVariables false
set_option linter.unusedSimpArgs false
namespace Go.Proofs.YtpmggjplfcjkkaaGreatDoor
open Go.RowKit Nq

/-- slices.Grow, with room. -/
theorem grow_room (a : Option Addr) (L c n : Nat) (w : World) (h : L + n ≤ c) (hc : Hid (c < 9223372036854775808)) (hn : n ≤ 1000) (hL : L ≤ 1000) :
    Calls Tryz.prog 194 #[.slice a L c, .int .i64 (n : Int)] w fun e w' => e = .returned (.slice a L c) ∧ w' = w := by
  have h1 : IntKind.i64.wrap ((c : Int) - (L : Int)) = (c : Int) - (L : Int) := by have := hc.out; rw [IntKind.wrap_i64]; omega
  have h2 : IntKind.i64.wrap ((n : Int) - ((c : Int) - (L : Int))) = (n : Int) - ((c : Int) - (L : Int)) := by have := hc.out; rw [IntKind.wrap_i64]; omega
  have h3 : decide (0 < (n : Int) - ((c : Int) - (L : Int))) = false := by simp; omega
  go_enter Tryz.func194, Tryz.ntmps194
  go_wp2
  go_ret
  exact ⟨rfl, rfl⟩

/-- append(s, make([]Word, k)...) that grows. -/
theorem append_grow_words (b L c k : Nat) (Z : List Nat) (w : World) (hZ : Blk w b Z) (hl : Z.length = L) (hc : c < L + k) (h0 : 0 < k) (hk : k ≤ 1000) (hL : L ≤ 1000) (h256 : c < 256) :
    ∃ c' Y, Y.length = c' ∧ Z = Y.take L ∧ L + k ≤ c' ∧ c' < 9223372036854775808 ∧ ∀ ty, (Builtin.append_ #[96, 3] ty #[.slice (some ⟨b, 0, none⟩) L c, .int .i64 (k : Int)]).run Tryz.prog w = .ok (.slice (some ⟨w.heap.size, 0, none⟩) (L + k) c') (w.drew.alloc (.cells (wds Y) 168)) := by
  obtain ⟨i0, hi, hz0, hz1, hz2⟩ := info_parts wordInfo
  have h1 := grownCap_ge w (L + k) c 168
  have h2 := grownCap_le_maxLen w (L + k) c 168 (by unfold maxLen; omega)
  have hfit : Builtin.nextslicecap (L + k) c * i0.bytes ≤ 281474976710656 := by
    rw [hz2]
    unfold Builtin.nextslicecap
    split
    · omega
    · first | omega | (rw [if_pos h256]; omega)
  have hold : (Builtin.firstCells i0.size L (.slice (some ⟨b, 0, none⟩) L c)).run Tryz.prog w.drew = .ok (wds Z) w.drew := by
    have := run_firstCells_some (P := Tryz.prog) w.drew i0.size L ⟨b, 0, none⟩ L c (wds Z).toList (by rw [hz1]; simp [wds, hl]) (by
      intro j v hv
      have hj : j < Z.length := by
        have := (List.getElem?_eq_some_iff.1 hv).1
        simpa [wds] using this
      have ha : (⟨b, 0, none⟩ : Addr).add j = ⟨b, j, none⟩ := by unfold Addr.add; split <;> simp_all
      rw [ha]
      have hcell := hZ.cell j hj
      show w.cell? _ = _
      rw [hcell, ← hv]
      simp [wds, List.getD_eq_getElem?_getD, hj])
    simpa using this
  refine ⟨grownCap w (L + k) c 168, Z ++ List.replicate (grownCap w (L + k) c 168 - L) 0, by simp; omega, by rw [← hl]; simp, h1, by unfold maxLen at h2; omega, fun ty => ?_⟩
  have h := Lib.run_append_grow_zeros (P := Tryz.prog) w 96 3 ty 168 i0 (.int .u64 0) .i64 .i64 sliceWord intInfo hi hz0 (some ⟨b, 0, none⟩) L c (wds Z).toList (by simpa using hold) k h0 (by omega) hc (by omega) (by rw [hz2]; omega) hfit
  rw [h, zeroCells_words, zeroCells_words, Array.toArray_toList, wds_append, wds_append, List.append_assoc, List.replicate_append_replicate, show k + (grownCap w (L + k) c 168 - (L + k)) = grownCap w (L + k) c 168 - L by omega]

/-- What slices.Grow gives where there is no room: a new block. -/
def GrowMore (w : World) (Z : List Nat) (L n : Nat) (e : Ending) (w' : World) : Prop :=
  ∃ Y, Y.take Z.length = Z ∧ Z.length ≤ Y.length ∧ L + n ≤ Y.length ∧ Hid (Y.length < 9223372036854775808) ∧ e = .returned (.slice (some ⟨w.heap.size, 0, none⟩) L Y.length) ∧ w' = w.drew.alloc (.cells (wds Y) 168)

set_option maxRecDepth 100000 in
set_option maxHeartbeats 400000 in
theorem grow_more (b L c n : Nat) (Z : List Nat) (w : World) (hZ : Blk w b Z) (hl : Z.length = c) (h : c < L + n) (hLc : L ≤ c) (hn : n ≤ 100) (hL : L ≤ 100) :
    Calls Tryz.prog 194 #[.slice (some ⟨b, 0, none⟩) L c, .int .i64 (n : Int)] w (GrowMore w Z L n) := by
  obtain ⟨k, hk⟩ : ∃ k : Nat, k = n - (c - L) := ⟨_, rfl⟩
  obtain ⟨c', Y, hY, hYZ, hY2, hc', happ⟩ := append_grow_words b c c k Z w hZ hl (by omega) (by omega) (by omega) (by omega) (by omega)
  have HP := Lib.hid (show GrowMore w Z L n (.returned (.slice (some ⟨w.heap.size, 0, none⟩) L c')) (w.drew.alloc (.cells (wds Y) 168)) from
    ⟨Y, by rw [hl]; exact hYZ.symm, by omega, by omega, Lib.hid (by omega), by rw [hY], rfl⟩)
  obtain ⟨D, h1, h1'⟩ : ∃ D : Nat, (c : Int) - (L : Int) = (D : Int) ∧ D ≤ 1000 := ⟨c - L, by omega, by omega⟩
  have h2 : (n : Int) - (D : Int) = (k : Int) := by omega
  have h3 : 0 < k := by omega
  have h4 : k ≤ 1000 := by omega
  have h5 : L ≤ c + k := by omega
  have h6 : L ≤ c' := by omega
  clear hYZ hY hZ hl hk hY2 h
  go_enter Tryz.func194, Tryz.ntmps194
  go_wp2_with (at_builtin; refine Lib.wpList_append_run _ rfl _ _ _ _ rfl _ _ rfl rfl _ _ (happ _) ?_)
  go_ret
  exact HP.out

/-- The words of the inner stack: L words in use, of the block bw. -/
structure In (w : World) (c bw L : Nat) (Z : List Nat) : Prop where
  c : w.heap[c]? = some (.cells #[.slice (some ⟨bw, 0, none⟩) L Z.length] 217 (0, 0))
  z : Blk w bw Z
  l : L ≤ Z.length
  s : Hid (Z.length < 9223372036854775808)
/-- An inner stack without words. -/
def In0 (w : World) (c : Nat) : Prop := w.heap[c]? = some (.cells #[.slice none 0 0] 217 (0, 0))

theorem cell_of {w : World} {b : Nat} {v : Value} {t : TypeId} (h : w.heap[b]? = some (.cells #[v] t (0, 0))) : w.cell? ⟨b, 0, none⟩ = some v := by unfold World.cell?; rw [h]; rfl
theorem frozen_of {w : World} {b : Nat} {v : Value} {t : TypeId} (h : w.heap[b]? = some (.cells #[v] t (0, 0))) : w.frozen? ⟨b, 0, none⟩ = false := by unfold World.frozen?; rw [h]; rfl
theorem lt_of {w : World} {b : Nat} {o : Obj} (h : w.heap[b]? = some o) : b < w.heap.size := (Array.getElem?_eq_some_iff.1 h).1
theorem set_of {w : World} {b : Nat} {v : Value} {t : TypeId} (h : w.heap[b]? = some (.cells #[v] t (0, 0))) (u : Value) : (w.setCell ⟨b, 0, none⟩ u).heap[b]? = some (.cells #[u] t (0, 0)) := by
  have hlt := lt_of h
  unfold World.setCell
  simp only [Array.getElem?_modify, h]
  rfl

theorem up4 : ∀ n : Nat, n < 64 → bits .andNot .i64 ((n : Int) + 3) 3 = ((4 * ((n + 3) / 4) : Nat) : Int) := by decide

/-- What nat of the inner stack gives: n words, at o in the block bw. -/
structure NatIn (w : World) (c n bw o : Nat) (w' : World) : Prop where
  i : ∃ L Z, In w' c bw L Z ∧ o + n ≤ L ∧ L ≤ o + n + 3
  f : ∃ S, Fr S w w' ∧ ∀ b ∈ S, b = c ∨ b = bw

theorem In.fr {S : List Nat} {w w' : World} {c bw L : Nat} {Z : List Nat} (h : In w c bw L Z) (hf : Fr S w w') (h1 : c ∉ S) (h2 : bw ∉ S) : In w' c bw L Z := ⟨(hf.block c (lt_of h.c) h1).trans h.c, h.z.fr hf h2, h.l, h.s⟩

set_option maxRecDepth 100000 in
set_option maxHeartbeats 1000000 in
theorem natI_new (c n : Nat) (w : World) (h : In0 w c) (h0 : 0 < n) (hn : n ≤ 60) :
    Calls Tryz.prog 154 #[.pointer (some ⟨c, 0, none⟩), .int .i64 (n : Int)] w fun e w' => ∃ bw, e = .returned (.slice (some ⟨bw, 0, none⟩) n n) ∧ NatIn w c n bw 0 w' ∧ w.heap.size ≤ bw := by
  have hup := up4 n (by omega)
  obtain ⟨R, hR, hR1, hR2⟩ : ∃ R : Nat, 4 * ((n + 3) / 4) = R ∧ n ≤ R ∧ R ≤ n + 3 := ⟨_, rfl, by omega, by omega⟩
  rw [hR] at hup
  have hc0 := cell_of h
  have hg := grow_nil' R (by omega) (by omega) w
  have hlt := lt_of h
  have hset : ∀ cap w1, R ≤ cap → cap < 9223372036854775808 → w1 = w.drew.alloc (.cells (wds (List.replicate cap 0)) 168) →
      w1.cell? ⟨c, 0, none⟩ = some (.slice none 0 0) ∧ w1.frozen? ⟨c, 0, none⟩ = false ∧ (∃ v0, ∀ v1 v2, ((w1.setCell ⟨c, 0, none⟩ v1).setCell ⟨c, 0, none⟩ v2).cell? ⟨w.heap.size, 0, none⟩ = some v0) ∧ w1.frozen? ⟨w.heap.size, 0, none⟩ = false ∧ ¬ c = w.heap.size ∧
      Hid (∀ v1, NatIn w c n w.heap.size 0 (((w1.setCell ⟨c, 0, none⟩ v1).setCell ⟨c, 0, none⟩ (.slice (some ⟨w.heap.size, 0, none⟩) R cap)).setCell ⟨w.heap.size, 0, none⟩ (.int .u64 1043915))) := by
    rintro cap w1 hcap hcap2 rfl
    have hf : Fr [] w (w.drew.alloc (.cells (wds (List.replicate cap 0)) 168)) := ((Fr.refl [] w).drewN 1).alloc _
    have hc1 := (hf.block c hlt (by simp)).trans h
    have hB : Blk (w.drew.alloc (.cells (wds (List.replicate cap 0)) 168)) w.heap.size (List.replicate cap 0) := Blk.new w.drew _
    refine ⟨cell_of hc1, frozen_of hc1, ⟨_, fun v1 v2 => ((hB.set_ne (by omega) 0 v1).set_ne (by omega) 0 v2).cell 0 (by simp; omega)⟩, hB.frozen 0, by omega, Lib.hid fun v1 => ⟨⟨R, (List.replicate cap 0).set 0 1043915, ⟨?_, ?_, by simpa using hcap, Lib.hid (by simpa using hcap2)⟩, by omega, by omega⟩, [c, w.heap.size], ?_, by simp⟩⟩
    · have := set_of (set_of hc1 v1) (.slice (some ⟨w.heap.size, 0, none⟩) R cap)
      rw [show ((List.replicate cap 0).set 0 1043915).length = cap by simp]
      exact (Below.heap_setCell _ _ _ _ (fun e => by simp at e; omega)).trans this
    · exact ((hB.set_ne (by omega) 0 v1).set_ne (by omega) 0 _).set 0 1043915
    · exact (((hf.mono (by simp)).set (.inl (by simp)) 0 v1).set (.inl (by simp)) 0 _).set (.inl (by simp)) 0 _
  clear h hR
  go_enter Tryz.func154, Tryz.ntmps154
  go_wp2_with (go_at_call 194; (with_reducible refine hg.mono ?_); rintro e w1 ⟨cap, hc1, hc2, rfl, hw1⟩; obtain ⟨k1, k2, ⟨v0, k3⟩, k4, k5, HP⟩ := hset cap w1 hc1 hc2 hw1; clear hset hw1)
  go_ret
  exact ⟨_, rfl, HP.out _, Nat.le_refl _⟩

theorem In.ne {w : World} {c bw L : Nat} {Z : List Nat} (h : In w c bw L Z) : ¬ c = bw := by
  intro e
  have h1 := h.c
  have h2 : w.heap[bw]? = _ := h.z
  rw [e, h2] at h1
  injection h1 with h1
  injection h1 with _ h1
  simp at h1
theorem Row.set_out {w : World} {b o n : Nat} {xs : List Nat} (h : Row w b o xs) (hn : o + xs.length ≤ n) (v : Value) : Row (w.setCell ⟨b, n, none⟩ v) b o xs := by
  intro j hj
  rw [cell_set_ne (by intro e; injection e with _ e; omega)]
  exact h j hj
theorem Row.set_other {w : World} {b c o n : Nat} {xs : List Nat} (h : Row w b o xs) (hn : c ≠ b) (v : Value) : Row (w.setCell ⟨c, n, none⟩ v) b o xs := by
  intro j hj
  rw [cell_set_ne (by intro e; injection e with e _; exact hn e)]
  exact h j hj

/-- What nat of the inner stack gives where words lie on it. -/
def NatOn (w : World) (c n bw L : Nat) (e : Ending) (w' : World) : Prop :=
  ∃ bw', e = .returned (.slice (some ⟨bw', L, none⟩) n n) ∧ NatIn w c n bw' L w' ∧ (bw' = bw ∨ w.heap.size ≤ bw') ∧ ∀ o xs, o + xs.length ≤ L → Row w bw o xs → Row w' bw o xs

set_option maxRecDepth 100000 in
set_option maxHeartbeats 1000000 in
theorem natI_room (c n bw L R : Nat) (Z : List Nat) (w : World) (h : In w c bw L Z) (h0 : 0 < n) (hn : n ≤ 60) (hL : L ≤ 60) (hR : 4 * ((n + 3) / 4) = R) (hroom : L + R ≤ Z.length) :
    Calls Tryz.prog 154 #[.pointer (some ⟨c, 0, none⟩), .int .i64 (n : Int)] w (NatOn w c n bw L) := by
  have hup := up4 n (by omega)
  obtain ⟨hR1, hR2⟩ : n ≤ R ∧ R ≤ n + 3 := ⟨by omega, by omega⟩
  rw [hR] at hup
  have hg := fun w => grow_room (some ⟨bw, 0, none⟩) L Z.length R w hroom h.s (by omega) (by omega)
  have hc0 := cell_of h.c
  have hf0 := frozen_of h.c
  have hbz := h.z.frozen L
  have hne := h.ne
  have hk3 : ∃ v0, ∀ v1 v2, ((w.setCell ⟨c, 0, none⟩ v1).setCell ⟨c, 0, none⟩ v2).cell? ⟨bw, L, none⟩ = some v0 := ⟨_, fun v1 v2 => ((h.z.set_ne hne 0 v1).set_ne hne 0 v2).cell L (by omega)⟩
  obtain ⟨v0, hk3⟩ := hk3
  have HP : Hid (∀ v1, NatOn w c n bw L (.returned (.slice (some ⟨bw, L, none⟩) n n)) (((w.setCell ⟨c, 0, none⟩ v1).setCell ⟨c, 0, none⟩ (.slice (some ⟨bw, 0, none⟩) (L + R) Z.length)).setCell ⟨bw, L, none⟩ (.int .u64 1043915))) := by
    refine Lib.hid fun v1 => ⟨bw, rfl, ⟨⟨L + R, Z.set L 1043915, ⟨?_, ?_, by simpa using hroom, Lib.hid (by have := h.s.out; simpa using this)⟩, by omega, by omega⟩, [c, bw], ?_, by simp⟩, .inl rfl, ?_⟩
    · rw [show (Z.set L 1043915).length = Z.length by simp]
      have := set_of (set_of h.c v1) (.slice (some ⟨bw, 0, none⟩) (L + R) Z.length)
      exact (Below.heap_setCell _ _ _ _ (fun e => by simp at e; omega)).trans this
    · exact ((h.z.set_ne hne 0 v1).set_ne hne 0 _).set L 1043915
    · exact ((((Fr.refl _ w)).set (.inl (by simp)) 0 v1).set (.inl (by simp)) 0 _).set (.inl (by simp)) L _
    · intro o xs ho hR
      exact ((hR.set_other hne v1).set_other hne _).set_out ho _
  obtain ⟨g, g1, g2, g3⟩ : ∃ g : Nat, (L : Int) + (R : Int) = (g : Int) ∧ Hid (g = L + R) ∧ g ≤ Z.length := ⟨L + R, by omega, Lib.hid rfl, hroom⟩
  obtain ⟨f, f1, f2, f3, f4, f5⟩ : ∃ f : Nat, (L : Int) + (n : Int) = (f : Int) ∧ f ≤ g ∧ f - L = n ∧ L ≤ f ∧ ¬ f = L := ⟨L + n, by omega, by have := g2.out; omega, by omega, by omega, by omega⟩
  have g4 : g ≤ 1000 := by have := g2.out; omega
  have f6 : f ≤ Z.length := by omega
  rw [← g2.out] at HP
  generalize Z.length = cZ at *
  clear h hR hroom
  go_enter Tryz.func154, Tryz.ntmps154
  go_wp2_with (go_at_call 194; (with_reducible refine (hg _).mono ?_); rintro e w1 ⟨rfl, rfl⟩)
  go_ret
  exact HP.out _

theorem Blk.of_row {w w' : World} {b o : Nat} {Z xs : List Nat} (hZ : Blk w b Z) (hR : Row w b o xs) (hf : Blk w' b Z) : Row w' b o xs := by
  intro j hj
  have h := hR j hj
  unfold World.cell? at h ⊢
  rw [show w'.heap[b]? = w.heap[b]? from (show w'.heap[b]? = _ from hf).trans (show w.heap[b]? = _ from hZ).symm]
  exact h

set_option maxRecDepth 100000 in
set_option maxHeartbeats 1000000 in
theorem natI_more (c n bw L R : Nat) (Z : List Nat) (w : World) (h : In w c bw L Z) (h0 : 0 < n) (hn : n ≤ 60) (hL : L ≤ 60) (hR : 4 * ((n + 3) / 4) = R) (hroom : Z.length < L + R) :
    Calls Tryz.prog 154 #[.pointer (some ⟨c, 0, none⟩), .int .i64 (n : Int)] w (NatOn w c n bw L) := by
  have hup := up4 n (by omega)
  obtain ⟨hR1, hR2⟩ : n ≤ R ∧ R ≤ n + 3 := ⟨by omega, by omega⟩
  rw [hR] at hup
  have hg := grow_more bw L Z.length R Z w h.z rfl hroom h.l (by omega) (by omega)
  have hc0 := cell_of h.c
  have hlt := lt_of h.c
  have hne := h.ne
  obtain ⟨g, g1, g2⟩ : ∃ g : Nat, (L : Int) + (R : Int) = (g : Int) ∧ Hid (g = L + R) := ⟨L + R, by omega, Lib.hid rfl⟩
  have hset : ∀ Y w1, Y.take Z.length = Z → Z.length ≤ Y.length → L + R ≤ Y.length → Hid (Y.length < 9223372036854775808) → w1 = w.drew.alloc (.cells (wds Y) 168) →
      w1.cell? ⟨c, 0, none⟩ = some (.slice (some ⟨bw, 0, none⟩) L Z.length) ∧ w1.frozen? ⟨c, 0, none⟩ = false ∧ (∃ v0, ∀ v1 v2, ((w1.setCell ⟨c, 0, none⟩ v1).setCell ⟨c, 0, none⟩ v2).cell? ⟨w.heap.size, L, none⟩ = some v0) ∧ w1.frozen? ⟨w.heap.size, L, none⟩ = false ∧ ¬ c = w.heap.size ∧
      Hid (∀ v1, NatOn w c n bw L (.returned (.slice (some ⟨w.heap.size, L, none⟩) n n)) (((w1.setCell ⟨c, 0, none⟩ v1).setCell ⟨c, 0, none⟩ (.slice (some ⟨w.heap.size, 0, none⟩) g Y.length)).setCell ⟨w.heap.size, L, none⟩ (.int .u64 1043915))) := by
    rintro Y w1 hY hYl hYR hY2 rfl
    have hf : Fr [] w (w.drew.alloc (.cells (wds Y) 168)) := ((Fr.refl [] w).drewN 1).alloc _
    have hI := h.fr hf (by simp) (by simp)
    have hB : Blk (w.drew.alloc (.cells (wds Y) 168)) w.heap.size Y := Blk.new w.drew _
    have hbl := h.z.lt
    refine ⟨cell_of hI.c, frozen_of hI.c, ⟨_, fun v1 v2 => ((hB.set_ne (by omega) 0 v1).set_ne (by omega) 0 v2).cell L (by omega)⟩, hB.frozen L, by omega, Lib.hid fun v1 => ⟨w.heap.size, rfl, ⟨⟨g, Y.set L 1043915, ⟨?_, ?_, by have := g2.out; simp; omega, Lib.hid (by have := hY2.out; simpa using this)⟩, by have := g2.out; omega, by have := g2.out; omega⟩, [c, w.heap.size], ?_, by simp⟩, .inr (Nat.le_refl _), ?_⟩⟩
    · rw [show (Y.set L 1043915).length = Y.length by simp]
      have := set_of (set_of hI.c v1) (.slice (some ⟨w.heap.size, 0, none⟩) g Y.length)
      exact (Below.heap_setCell _ _ _ _ (fun e => by simp at e; omega)).trans this
    · exact ((hB.set_ne (by omega) 0 v1).set_ne (by omega) 0 _).set L 1043915
    · exact ((((hf.mono (by simp))).set (.inl (by simp)) 0 v1).set (.inl (by simp)) 0 _).set (.inl (by simp)) L _
    · intro o xs ho hR
      exact (((hR.fr hf (by simp)).set_other hne v1).set_other hne _).set_other (by omega) _
  obtain ⟨f, f1, f2, f3, f4, f5⟩ : ∃ f : Nat, (L : Int) + (n : Int) = (f : Int) ∧ f ≤ g ∧ f - L = n ∧ L ≤ f ∧ ¬ f = L := ⟨L + n, by omega, by have := g2.out; omega, by omega, by omega, by omega⟩
  have g4 : g ≤ 1000 := by have := g2.out; omega
  rw [← g2.out] at hset
  generalize hcZ : Z.length = cZ at *
  clear hroom hR
  go_enter Tryz.func154, Tryz.ntmps154
  go_wp2_with (go_at_call 194; (with_reducible refine hg.mono ?_); rintro e w1 ⟨Y, hY1, hY2, hY3, hY4, rfl, hw1⟩; obtain ⟨k1, k2, ⟨v0, k3⟩, k4, k5, HP⟩ := hset Y w1 (by rw [← hcZ]; exact hY1) (by omega) (by have := g2.out; omega) hY4 hw1; have k6 : f ≤ Y.length := (by have := g2.out; omega); have k7 : g ≤ Y.length := (by have := g2.out; omega); clear hset hw1 hY1 hY2 hY3 h; generalize Y.length = cY at *)
  go_ret
  exact HP.out _

/-- nat of the inner stack. -/
theorem natI_on (c n bw L : Nat) (Z : List Nat) (w : World) (h : In w c bw L Z) (h0 : 0 < n) (hn : n ≤ 60) (hL : L ≤ 60) :
    Calls Tryz.prog 154 #[.pointer (some ⟨c, 0, none⟩), .int .i64 (n : Int)] w (NatOn w c n bw L) := by
  by_cases hr : L + 4 * ((n + 3) / 4) ≤ Z.length
  · exact natI_room c n bw L _ Z w h h0 hn hL rfl hr
  · exact natI_more c n bw L _ Z w h h0 hn hL rfl (by omega)
end Go.Proofs.YtpmggjplfcjkkaaGreatDoor

/- The stack as a whole. -/
set_option linter.unusedVariables false
set_option linter.unusedSimpArgs false
namespace Go.Proofs.YtpmggjplfcjkkaaGreatDoor
open Go.RowKit Nq

/-- A stack that bears an inner one. -/
structure StkIn (w : World) (s c bw L : Nat) (Z : List Nat) : Prop where
  s : w.heap[s]? = some (.cells #[.pointer (some ⟨c, 0, none⟩)] 139 (0, 0))
  i : In w c bw L Z
theorem StkIn.fr {S : List Nat} {w w' : World} {s c bw L : Nat} {Z : List Nat} (h : StkIn w s c bw L Z) (hf : Fr S w w') (h0 : s ∉ S) (h1 : c ∉ S) (h2 : bw ∉ S) : StkIn w' s c bw L Z :=
  ⟨(hf.block s (lt_of h.s) h0).trans h.s, h.i.fr hf h1 h2⟩

set_option maxRecDepth 100000 in
theorem save_in {s c bw L : Nat} {Z : List Nat} {w : World} (h : StkIn w s c bw L Z) : Calls Tryz.prog 101 #[.pointer (some ⟨s, 0, none⟩)] w fun e w' => e = .returned (.int .i64 (L : Int)) ∧ w' = w := by
  have h1 := cell_of h.s
  have h2 := cell_of h.i.c
  have hs : ∀ w, w.cell? ⟨c, 0, none⟩ = some (.slice (some ⟨bw, 0, none⟩) L Z.length) → Calls Tryz.prog 152 #[.pointer (some ⟨c, 0, none⟩)] w fun e w' => e = .returned (.int .i64 (L : Int)) ∧ w' = w := by
    intro w h2
    clear h1 h
    go_enter Tryz.func152, Tryz.ntmps152
    go_wp2
    go_ret
    exact ⟨rfl, rfl⟩
  have hs1 := hs w h2
  clear hs h
  go_enter Tryz.func101, Tryz.ntmps101
  go_wp2_with (go_at_call 152; (with_reducible refine hs1.mono ?_); rintro e w1 ⟨rfl, rfl⟩)
  go_ret
  exact ⟨rfl, rfl⟩

/-- restore, free: the length is cut. -/
def Cut (w : World) (s c bw k : Nat) (Z : List Nat) (e : Ending) (w' : World) : Prop := e = .returned (.tuple #[]) ∧ StkIn w' s c bw k Z ∧ Fr [c] w w'

set_option maxRecDepth 100000 in
theorem restoreI {c bw L k : Nat} {Z : List Nat} {w : World} (h : In w c bw L Z) (hk : k ≤ Z.length) : Calls Tryz.prog 151 #[.pointer (some ⟨c, 0, none⟩), .int .i64 (k : Int)] w fun e w' => e = .returned (.tuple #[]) ∧ In w' c bw k Z ∧ Fr [c] w w' := by
  have h2 := cell_of h.c
  have h3 := frozen_of h.c
  have HP : Hid (In (w.setCell ⟨c, 0, none⟩ (.slice (some ⟨bw, 0, none⟩) k Z.length)) c bw k Z ∧ Fr [c] w (w.setCell ⟨c, 0, none⟩ (.slice (some ⟨bw, 0, none⟩) k Z.length))) :=
    Lib.hid ⟨⟨set_of h.c _, h.z.set_ne h.ne _ _, hk, h.s⟩, (Fr.refl [c] w).set (.inl (by simp)) _ _⟩
  clear h
  generalize hz : Z.length = cz at *
  go_enter Tryz.func151, Tryz.ntmps151
  go_wp2
  exact ⟨rfl, .tuple #[], results_none rfl _ _ _, rfl, HP.out⟩
set_option maxRecDepth 100000 in
theorem freeI {c bw L : Nat} {Z : List Nat} {w : World} (h : In w c bw L Z) : Calls Tryz.prog 54 #[.pointer (some ⟨c, 0, none⟩)] w fun e w' => e = .returned (.tuple #[]) ∧ In w' c bw 0 Z ∧ Fr [c] w w' := by
  have h2 := cell_of h.c
  have h3 := frozen_of h.c
  have HP : Hid (In (w.setCell ⟨c, 0, none⟩ (.slice (some ⟨bw, 0, none⟩) 0 Z.length)) c bw 0 Z ∧ Fr [c] w (w.setCell ⟨c, 0, none⟩ (.slice (some ⟨bw, 0, none⟩) 0 Z.length))) :=
    Lib.hid ⟨⟨set_of h.c _, h.z.set_ne h.ne _ _, Nat.zero_le _, h.s⟩, (Fr.refl [c] w).set (.inl (by simp)) _ _⟩
  clear h
  generalize hz : Z.length = cz at *
  go_enter Tryz.func54, Tryz.ntmps54
  go_wp2
  exact ⟨rfl, .tuple #[], results_none rfl _ _ _, rfl, HP.out⟩

theorem StkIn.ne {w : World} {s c bw L : Nat} {Z : List Nat} (h : StkIn w s c bw L Z) : ¬ s = c := by
  intro e
  have h1 := h.s
  rw [e, h.i.c] at h1
  simp at h1

set_option maxRecDepth 100000 in
theorem restore_in {s c bw L k : Nat} {Z : List Nat} {w : World} (h : StkIn w s c bw L Z) (hk : k ≤ Z.length) : Calls Tryz.prog 100 #[.pointer (some ⟨s, 0, none⟩), .int .i64 (k : Int)] w (Cut w s c bw k Z) := by
  have h1 := cell_of h.s
  have hs1 := restoreI h.i hk
  have hfin : ∀ w', In w' c bw k Z → Fr [c] w w' → Hid (Cut w s c bw k Z (.returned (.tuple #[])) w') := fun w' hi hf => Lib.hid ⟨rfl, ⟨(hf.block s (lt_of h.s) (by simpa using h.ne)).trans h.s, hi⟩, hf⟩
  clear h
  go_enter Tryz.func100, Tryz.ntmps100
  go_wp2_with (go_at_call 151; (with_reducible refine hs1.mono ?_); rintro e w1 ⟨rfl, k1, k2⟩; have HP := hfin w1 k1 k2)
  exact ⟨rfl, .tuple #[], results_none rfl _ _ _, HP.out⟩
set_option maxRecDepth 100000 in
theorem free_in {s c bw L : Nat} {Z : List Nat} {w : World} (h : StkIn w s c bw L Z) : Calls Tryz.prog 41 #[.pointer (some ⟨s, 0, none⟩)] w (Cut w s c bw 0 Z) := by
  have h1 := cell_of h.s
  have hs1 := freeI h.i
  have hfin : ∀ w', In w' c bw 0 Z → Fr [c] w w' → Hid (Cut w s c bw 0 Z (.returned (.tuple #[])) w') := fun w' hi hf => Lib.hid ⟨rfl, ⟨(hf.block s (lt_of h.s) (by simpa using h.ne)).trans h.s, hi⟩, hf⟩
  clear h
  go_enter Tryz.func41, Tryz.ntmps41
  go_wp2_with (go_at_call 54; (with_reducible refine hs1.mono ?_); rintro e w1 ⟨rfl, k1, k2⟩; have HP := hfin w1 k1 k2)
  exact ⟨rfl, .tuple #[], results_none rfl _ _ _, HP.out⟩
end Go.Proofs.YtpmggjplfcjkkaaGreatDoor

/- The stack, whatever its state. -/
set_option linter.unusedVariables false
set_option linter.unusedSimpArgs false
namespace Go.Proofs.YtpmggjplfcjkkaaGreatDoor
open Go.RowKit Nq

/-- s is a stack of which L words are in use; its blocks are K. -/
def StkK (w : World) (s L : Nat) (K : List Nat) : Prop := (StkNil w s ∧ L = 0 ∧ K = [s]) ∨ ∃ c bw Z, StkIn w s c bw L Z ∧ K = [s, c, bw]

theorem StkK.fr {S : List Nat} {w w' : World} {s L : Nat} {K : List Nat} (h : StkK w s L K) (hf : Fr S w w') (hS : ∀ b ∈ K, b ∉ S) : StkK w' s L K := by
  rcases h with ⟨h, rfl, rfl⟩ | ⟨c, bw, Z, h, rfl⟩
  · exact .inl ⟨h.fr hf (hS s (by simp)), rfl, rfl⟩
  · exact .inr ⟨c, bw, Z, h.fr hf (hS s (by simp)) (hS c (by simp)) (hS bw (by simp)), rfl⟩
theorem not_words {w : World} {b : Nat} {Z : List Nat} {v : Value} {t : TypeId} (hZ : Blk w b Z) (ht : t ≠ 168) : ¬ w.heap[b]? = some (.cells #[v] t (0, 0)) := by
  intro h
  rw [show w.heap[b]? = _ from hZ] at h
  injection h with h
  injection h with _ h
  exact ht h.symm
/-- What is written into words leaves the stack as it is. -/
theorem StkK.upd {w w' : World} {s L b : Nat} {K Z Z' : List Nat} (h : StkK w s L K) (hf : Fr [b] w w') (hZ : Blk w b Z) (hZ' : Blk w' b Z') (hl : Z'.length = Z.length) : StkK w' s L K := by
  rcases h with ⟨h, rfl, rfl⟩ | ⟨c, bw, Y, h, rfl⟩
  · exact .inl ⟨h.fr hf (by intro e; simp at e; subst e; exact not_words hZ (by decide) h), rfl, rfl⟩
  · have n1 : s ≠ b := by rintro rfl; exact not_words hZ (by decide) h.s
    have n2 : c ≠ b := by rintro rfl; exact not_words hZ (by decide) h.i.c
    by_cases hb : bw = b
    · subst hb
      have e := hZ.inj h.i.z
      subst e
      refine .inr ⟨c, bw, Z', ⟨(hf.block s (lt_of h.s) (by simpa using n1)).trans h.s, ⟨?_, hZ', by rw [hl]; exact h.i.l, Lib.hid (by rw [hl]; exact h.i.s.out)⟩⟩, rfl⟩
      rw [hl]
      exact (hf.block c (lt_of h.i.c) (by simpa using n2)).trans h.i.c
    · exact .inr ⟨c, bw, Y, h.fr hf (by simpa using n1) (by simpa using n2) (by simpa using hb), rfl⟩
theorem StkK.lt {w : World} {s L : Nat} {K : List Nat} (h : StkK w s L K) : ∀ b ∈ K, b < w.heap.size := by
  rcases h with ⟨h, rfl, rfl⟩ | ⟨c, bw, Z, h, rfl⟩
  · intro b hb; simp at hb; subst hb; exact h.lt
  · intro b hb; simp at hb
    rcases hb with rfl | rfl | rfl
    · exact lt_of h.s
    · exact lt_of h.i.c
    · exact h.i.z.lt

/-- What stk.nat(n) gives. -/
def StkNat (w : World) (s n L : Nat) (K : List Nat) (e : Ending) (w' : World) : Prop :=
  ∃ bt ot ct Z L' K', e = .returned (.slice (some ⟨bt, ot, none⟩) n ct) ∧ Blk w' bt Z ∧ ot + n ≤ Z.length ∧ n ≤ ct ∧ StkK w' s L' K' ∧ L ≤ L' ∧ L' ≤ L + n + 3 ∧ (∀ b ∈ K', b ∈ K ∨ w.heap.size ≤ b) ∧ Fr K w w' ∧
    (w.heap.size ≤ bt ∨ (bt ∈ K ∧ L ≤ ot)) ∧ (∀ b o xs, (b ∉ K ∨ o + xs.length ≤ L) → Row w b o xs → Row w' b o xs) ∧ (bt ∈ K' → ot + n ≤ L')

set_option maxRecDepth 100000 in
set_option maxHeartbeats 1000000 in
theorem stkNat_in {s n c bw L : Nat} {Z : List Nat} {w : World} (h : StkIn w s c bw L Z) (h0 : 0 < n) (hn : n ≤ 60) (hL : L ≤ 60) :
    Calls Tryz.prog 102 #[.pointer (some ⟨s, 0, none⟩), .int .i64 (n : Int)] w (StkNat w s n L [s, c, bw]) := by
  have h1 := cell_of h.s
  have hs1 := natI_on c n bw L Z w h.i h0 hn hL
  have hfin : ∀ e w', NatOn w c n bw L e w' → ∃ v, e = .returned v ∧ Hid (StkNat w s n L [s, c, bw] (.returned v) w') := by
    rintro e w' ⟨bw', rfl, ⟨⟨L', Z', hI, hL1, hL2⟩, S, hF, hS⟩, hb, hR⟩
    refine ⟨_, rfl, Lib.hid ⟨bw', L, n, Z', L', [s, c, bw'], rfl, hI.z, by have := hI.l; omega, Nat.le_refl _, ?_, by omega, by omega, ?_, ?_, ?_, ?_, fun _ => hL1⟩⟩
    · have hlt := lt_of h.s
      refine .inr ⟨c, bw', Z', ⟨(hF.block s hlt ?_).trans h.s, hI⟩, rfl⟩
      intro hs
      rcases hS s hs with e | e
      · exact h.ne e
      · rcases hb with h2 | h2
        · rw [h2] at e; rw [e] at h; exact not_words h.i.z (by decide) h.s
        · omega
    · intro b hb'
      simp at hb'
      rcases hb' with rfl | rfl | rfl
      · simp
      · simp
      · rcases hb with rfl | h2
        · simp
        · exact .inr h2
    · refine (Fr.refl _ _).trans_new hF ?_
      intro x hx
      rcases hS x hx with rfl | rfl
      · simp
      · rcases hb with rfl | h2
        · simp
        · exact .inr h2
    · rcases hb with rfl | h2
      · exact .inr ⟨by simp, Nat.le_refl _⟩
      · exact .inl h2
    · intro b o xs hbo hrow
      by_cases hbb : b = bw
      · subst hbb
        rcases hbo with h2 | h2
        · simp at h2
        · exact hR o xs h2 hrow
      · by_cases hx : xs = []
        · subst hx; exact Row.nil _ _ _
        · by_cases hin : b ∈ [s, c, bw]
          · exfalso
            have hc := hrow 0 (pos_of_ne hx)
            simp at hin
            unfold World.cell? at hc
            rcases hin with rfl | rfl | rfl
            · rw [h.s] at hc
              simp at hc
              cases o <;> simp at hc
            · rw [h.i.c] at hc
              simp at hc
              cases o <;> simp at hc
            · exact hbb rfl
          · refine hrow.fr hF ?_
            intro hbS
            simp at hin
            rcases hS b hbS with rfl | rfl
            · exact hin.2.1 rfl
            · rcases hb with rfl | h2
              · exact hbb rfl
              · have hc := hrow 0 (pos_of_ne hx)
                unfold World.cell? at hc
                rw [Array.getElem?_eq_none h2] at hc
                simp at hc
  clear h
  go_enter Tryz.func102, Tryz.ntmps102
  go_wp2_with (go_at_call 154; (with_reducible refine hs1.mono ?_); rintro e w1 hp; obtain ⟨v, rfl, HP⟩ := hfin e w1 hp)
  go_ret
  exact HP.out

theorem stkNat_small {s n : Nat} {w : World} (h : StkNil w s) (h0 : 0 < n) (hn : n ≤ 4) :
    Calls Tryz.prog 102 #[.pointer (some ⟨s, 0, none⟩), .int .i64 (n : Int)] w (StkNat w s n 0 [s]) := by
  refine (nat_small h hn h0).mono ?_
  rintro e w' ⟨b, Z, rfl, hB, hl, hb, hF⟩
  have hlt := h.lt
  refine ⟨b, 0, Z.length, Z, 0, [s], rfl, hB, by omega, hl, .inl ⟨h.fr hF (by simp), rfl, rfl⟩, by omega, by omega, fun b hb => .inl hb, hF.mono (by simp), .inl hb, fun b o xs _ hR => hR.fr hF (by simp), ?_⟩
  intro e
  simp at e
  omega

theorem size_set (w : World) (a : Addr) (v : Value) : (w.setCell a v).heap.size = w.heap.size := by
  unfold World.setCell
  simp
theorem Row.block_lt {w : World} {b o : Nat} {xs : List Nat} (h : Row w b o xs) (hx : xs ≠ []) : b < w.heap.size := by
  have hc := h 0 (pos_of_ne hx)
  unfold World.cell? at hc
  by_cases hb : b < w.heap.size
  · exact hb
  · rw [Array.getElem?_eq_none (show w.heap.size ≤ b by omega)] at hc
    simp at hc

set_option maxRecDepth 100000 in
set_option maxHeartbeats 1000000 in
theorem stkNat_big {s n : Nat} {w : World} (h : StkNil w s) (h4 : 4 < n) (hn : n ≤ 60) :
    Calls Tryz.prog 102 #[.pointer (some ⟨s, 0, none⟩), .int .i64 (n : Int)] w (StkNat w s n 0 [s]) := by
  have hc := h.cell
  have hz := h.frozen
  have hlt := h.lt
  obtain ⟨w1, hw1⟩ : ∃ w1, w1 = w.setCell ⟨s, 0, none⟩ (.pointer (some ⟨w.heap.size, 0, none⟩)) := ⟨_, rfl⟩
  have hF1 : Fr [s] w w1 := by rw [hw1]; exact (Fr.refl [s] w).set (.inl (by simp)) _ _
  have hs1 : w1.heap[s]? = some (.cells #[.pointer (some ⟨w.heap.size, 0, none⟩)] 139 (0, 0)) := by rw [hw1]; exact set_of h _
  have e1 : w1.heap.size = w.heap.size := by rw [hw1]; exact size_set _ _ _
  obtain ⟨w2, hw2⟩ : ∃ w2, w2 = w1.alloc (.cells #[.slice none 0 0] 217) := ⟨_, rfl⟩
  have hF2 : Fr [s] w w2 := by rw [hw2]; exact hF1.alloc _
  have hs2 : w2.heap[s]? = some (.cells #[.pointer (some ⟨w.heap.size, 0, none⟩)] 139 (0, 0)) := by rw [hw2]; exact (Below.heap_alloc _ _ _ (lt_of hs1)).trans hs1
  have hI2 : In0 w2 w.heap.size := by rw [hw2, ← e1]; exact alloc_at w1 _
  have hcall := natI_new w.heap.size n w2 hI2 (by omega) hn
  have hsz : w.heap.size < w2.heap.size := lt_of hI2
  have hfin : ∀ bw w', NatIn w2 w.heap.size n bw 0 w' → w2.heap.size ≤ bw → Hid (StkNat w s n 0 [s] (.returned (.slice (some ⟨bw, 0, none⟩) n n)) w') := by
    rintro bw w' ⟨⟨L, Z, hI3, hL1, hL2⟩, S, hF3, hS⟩ hbw
    have hF : Fr [s] w w' := by
      refine hF2.trans_new hF3 ?_
      intro x hx
      rcases hS x hx with rfl | rfl
      · exact .inr (Nat.le_refl _)
      · exact .inr (by omega)
    · refine Lib.hid ⟨bw, 0, n, Z, L, [s, w.heap.size, bw], rfl, hI3.z, by have := hI3.l; omega, Nat.le_refl _, .inr ⟨w.heap.size, bw, Z, ⟨(hF3.block s (lt_of hs2) ?_).trans hs2, hI3⟩, rfl⟩, by omega, by omega, ?_, hF, .inl (by omega), ?_, fun _ => hL1⟩
      · intro hsS
        rcases hS s hsS with e | e <;> omega
      · intro b hb
        simp at hb
        rcases hb with rfl | rfl | rfl
        · simp
        · exact .inr (Nat.le_refl _)
        · exact .inr (by omega)
      · intro b o xs hbo hR
        by_cases hx : xs = []
        · subst hx; exact Row.nil _ _ _
        · refine hR.fr hF ?_
          intro hb
          simp at hb
          subst hb
          rcases hbo with h2 | h2
          · simp at h2
          · have := pos_of_ne hx; omega
  have hd : decide ((n : Int) ≤ 4) = false := by simp; omega
  subst hw1
  subst hw2
  clear h hI2 hF1 hF2 hs2 hs1 e1
  go_enter Tryz.func102, Tryz.ntmps102
  go_wp2_with (go_at_call 154; (with_reducible refine hcall.mono ?_); rintro e w3 ⟨bw, rfl, hp1, hp2⟩; have HP := hfin bw w3 hp1 hp2)
  go_ret
  exact HP.out

/-- stk.nat(n) -/
theorem stkNat {s n L : Nat} {K : List Nat} {w : World} (h : StkK w s L K) (h0 : 0 < n) (hn : n ≤ 60) (hL : L ≤ 60) :
    Calls Tryz.prog 102 #[.pointer (some ⟨s, 0, none⟩), .int .i64 (n : Int)] w (StkNat w s n L K) := by
  rcases h with ⟨h, rfl, rfl⟩ | ⟨c, bw, Z, h, rfl⟩
  · by_cases h4 : n ≤ 4
    · exact stkNat_small h h0 h4
    · exact stkNat_big h (by omega) hn
  · exact stkNat_in h h0 hn hL
/-- stk.save() -/
theorem stkSave {s L : Nat} {K : List Nat} {w : World} (h : StkK w s L K) : Calls Tryz.prog 101 #[.pointer (some ⟨s, 0, none⟩)] w fun e w' => e = .returned (.int .i64 (L : Int)) ∧ w' = w := by
  rcases h with ⟨h, rfl, rfl⟩ | ⟨c, bw, Z, h, rfl⟩
  · exact save_nil h
  · exact save_in h
/-- stk.restore(k) -/
theorem stkRestore {s L k : Nat} {K : List Nat} {w : World} (h : StkK w s L K) (hk : k ≤ L) : Calls Tryz.prog 100 #[.pointer (some ⟨s, 0, none⟩), .int .i64 (k : Int)] w fun e w' => e = .returned (.tuple #[]) ∧ StkK w' s k K ∧ Fr K w w' ∧ (∀ b o xs, Row w b o xs → Row w' b o xs) ∧ ∀ b Z, Blk w b Z → Blk w' b Z := by
  rcases h with ⟨h, rfl, rfl⟩ | ⟨c, bw, Z, h, rfl⟩
  · refine (restore_nil _ h).mono ?_
    rintro e w' ⟨rfl, rfl⟩
    exact ⟨rfl, .inl ⟨h, by omega, rfl⟩, Fr.refl _ _, fun _ _ _ h => h, fun _ _ h => h⟩
  · refine (restore_in h (Nat.le_trans hk h.i.l)).mono ?_
    rintro e w' ⟨rfl, h1, hF⟩
    have hb : ∀ b Z, Blk w b Z → Blk w' b Z := fun b Z hB => hB.fr hF (by intro e; simp at e; subst e; exact not_words hB (by decide) h.i.c)
    refine ⟨rfl, .inr ⟨c, bw, Z, h1, rfl⟩, hF.mono (by simp), ?_, hb⟩
    intro b o xs hR
    by_cases hx : xs = []
    · subst hx; exact Row.nil _ _ _
    · refine hR.fr hF ?_
      intro e
      simp at e
      subst e
      have hc := hR 0 (pos_of_ne hx)
      unfold World.cell? at hc
      rw [h.i.c] at hc
      simp at hc
      cases o <;> simp at hc
/-- stk.free() -/
theorem stkFree {s L : Nat} {K : List Nat} {w : World} (h : StkK w s L K) : Calls Tryz.prog 41 #[.pointer (some ⟨s, 0, none⟩)] w fun e w' => e = .returned (.tuple #[]) ∧ Fr K w w' := by
  rcases h with ⟨h, rfl, rfl⟩ | ⟨c, bw, Z, h, rfl⟩
  · refine (free_nil h).mono ?_
    rintro e w' ⟨rfl, rfl⟩
    exact ⟨rfl, Fr.refl _ _⟩
  · refine (free_in h).mono ?_
    rintro e w' ⟨rfl, h1, hF⟩
    exact ⟨rfl, hF.mono (by simp)⟩
end Go.Proofs.YtpmggjplfcjkkaaGreatDoor

/- One step of the long division: the plain part. -/
set_option linter.unusedVariables false
set_option linter.unusedSimpArgs false
namespace Go.Proofs.YtpmggjplfcjkkaaGreatDoor
open Go.RowKit Nq

/-- The words that a guess looks at: u two words, u2, v1, v2; the rest lies below P. -/
structure Win (P u u2 U1 v1 v2 V1 : Nat) : Prop where
  u1 : U1 < P
  vr : V1 < P
  n1 : Bw ≤ 2 * v1
  l1 : v1 < Bw
  l2 : v2 < Bw
  lu : u2 < Bw
noncomputable abbrev wU (P u u2 U1 : Nat) : Nat := (u * Bw + u2) * P + U1
/-- A guess that is not too small. -/
structure Gs (P u u2 U1 v1 v2 V1 q r : Nat) : Prop where
  inv : q * v1 + r = u
  lt : wU P u u2 U1 < (q + 1) * wU P v1 v2 V1
  q : q < Bw
  r : r < Bw
/-- A guess that is too great by one at most. -/
structure Gk (U V q : Nat) : Prop where
  lt : U < (q + 1) * V
  le : q * V ≤ U + V
  q : q < Bw

theorem Win.pos {P u u2 U1 v1 v2 V1 : Nat} (h : Win P u u2 U1 v1 v2 V1) : 0 < v1 := by have := h.n1; have := Bw_pos; omega
theorem Gs.start {P u u2 U1 v1 v2 V1 uj uk : Nat} (h : Win P u u2 U1 v1 v2 V1) (hu : uj * Bw + uk = u) (hk : uk < Bw) (hlt : uj < v1) : Gs P u u2 U1 v1 v2 V1 (divQ uj uk v1) (divR uj uk v1) := by
  have e := div_eq uj uk v1
  refine ⟨by rw [Nat.mul_comm]; omega, ?_, divQ_lt hlt hk, Nat.lt_trans (divR_lt h.pos) h.l1⟩
  have := kn_first (V1 := V1) (v2 := v2) (u := u) h.pos h.lu h.u1
  unfold divQ
  rw [hu]
  exact this
theorem Gs.down {P u u2 U1 v1 v2 V1 q r : Nat} (h : Win P u u2 U1 v1 v2 V1) (g : Gs P u u2 U1 v1 v2 V1 q r) (ht : r * Bw + u2 < q * v2) :
    0 < q ∧ (q - 1) * v1 + (r + v1) = u ∧ wU P u u2 U1 < (q - 1 + 1) * wU P v1 v2 V1 ∧ q - 1 < Bw := by
  have hq : 0 < q := by
    rcases Nat.eq_zero_or_pos q with e | e
    · subst e; simp at ht
    · exact e
  have h1 := (kn_test (v2 := v2) (u2 := u2) g.inv).2 ht
  have h2 := kn_down (V1 := V1) h.u1 h1
  obtain ⟨p, rfl⟩ : ∃ p, q = p + 1 := ⟨q - 1, by omega⟩
  refine ⟨hq, ?_, ?_, by have := g.q; omega⟩
  · have := g.inv
    rw [Nat.add_mul, Nat.one_mul] at this
    simp only [Nat.add_sub_cancel]
    omega
  · simpa using h2
theorem Gs.ok {P u u2 U1 v1 v2 V1 q r : Nat} (h : Win P u u2 U1 v1 v2 V1) (g : Gs P u u2 U1 v1 v2 V1 q r) (ht : q * v2 ≤ r * Bw + u2) : Gk (wU P u u2 U1) (wU P v1 v2 V1) q := by
  have h1 : q * (v1 * Bw + v2) ≤ u * Bw + u2 := by
    apply Nat.le_of_not_lt
    rw [kn_test g.inv]
    omega
  have hB : Bw ≤ v1 * Bw + v2 := by
    have := Nat.mul_le_mul_right Bw h.pos
    omega
  exact ⟨g.lt, kn_ok h.vr (by have := g.q; omega) hB h1, g.q⟩
theorem Gs.brk {P u u2 U1 v1 v2 V1 q r : Nat} (h : Win P u u2 U1 v1 v2 V1) (g : Gs P u u2 U1 v1 v2 V1 q r) (ht : r * Bw + u2 < q * v2) (hr : Bw ≤ r + v1) : Gk (wU P u u2 U1) (wU P v1 v2 V1) (q - 1) := by
  obtain ⟨h1, h2, h3, h4⟩ := g.down h ht
  have h5 : (q - 1) * (v1 * Bw + v2) ≤ u * Bw + u2 := kn_break h2 (by have := g.q; omega) h.l2 hr
  have hB : Bw ≤ v1 * Bw + v2 := by
    have := Nat.mul_le_mul_right Bw h.pos
    omega
  exact ⟨h3, kn_ok h.vr (by have := g.q; omega) hB h5, h4⟩
theorem Gs.next {P u u2 U1 v1 v2 V1 q r : Nat} (h : Win P u u2 U1 v1 v2 V1) (g : Gs P u u2 U1 v1 v2 V1 q r) (ht : r * Bw + u2 < q * v2) (hr : r + v1 < Bw) : Gs P u u2 U1 v1 v2 V1 (q - 1) (r + v1) := by
  obtain ⟨h1, h2, h3, h4⟩ := g.down h ht
  exact ⟨h2, h3, h4, hr⟩
theorem Gk.eq {P u2 U1 v1 v2 V1 u1 : Nat} (h : Win P (v1 * Bw + u1) u2 U1 v1 v2 V1) (hlt : wU P (v1 * Bw + u1) u2 U1 < Bw * wU P v1 v2 V1) : Gk (wU P (v1 * Bw + u1) u2 U1) (wU P v1 v2 V1) (Bw - 1) := by
  have hB := Bw_pos
  refine ⟨by rw [Nat.sub_add_cancel hB]; exact hlt, kn_eq h.l2 h.vr h.n1, by omega⟩

/-- The product of the guess and the second word, as the two words x1, x2. -/
structure Xs (q v2 x1 x2 : Nat) : Prop where
  eq : x1 * Bw + x2 = q * v2
  l1 : x1 < Bw
  l2 : x2 < Bw
theorem Xs.start {q v2 : Nat} (hq : q < Bw) (hv : v2 < Bw) : Xs q v2 (mulHi q v2) (mulLo q v2) := ⟨by have := mul_eq q v2; rw [Nat.mul_comm]; omega, mulHi_lt hq hv, mulLo_lt _ _⟩
theorem Xs.down_le {q v2 x1 x2 : Nat} (h : Xs q v2 x1 x2) (hq : 0 < q) (hle : v2 ≤ x2) : Xs (q - 1) v2 x1 (x2 - v2) := by
  obtain ⟨p, rfl⟩ : ∃ p, q = p + 1 := ⟨q - 1, by omega⟩
  have := h.eq
  rw [Nat.add_mul, Nat.one_mul] at this
  exact ⟨by simp only [Nat.add_sub_cancel]; omega, h.l1, by have := h.l2; omega⟩
theorem Xs.down_lt {q v2 x1 x2 : Nat} (h : Xs q v2 x1 x2) (hq : 0 < q) (hle : x2 < v2) (hv : v2 < Bw) : 0 < x1 ∧ Xs (q - 1) v2 (x1 - 1) (x2 + Bw - v2) := by
  obtain ⟨p, rfl⟩ : ∃ p, q = p + 1 := ⟨q - 1, by omega⟩
  have h1 := h.eq
  rw [Nat.add_mul, Nat.one_mul] at h1
  have h0 : 0 < x1 := by
    rcases Nat.eq_zero_or_pos x1 with e | e
    · subst e; omega
    · exact e
  obtain ⟨y, rfl⟩ : ∃ y, x1 = y + 1 := ⟨x1 - 1, by omega⟩
  rw [Nat.add_mul, Nat.one_mul] at h1
  exact ⟨h0, by simp only [Nat.add_sub_cancel]; omega, by have := h.l1; simp only [Nat.add_sub_cancel]; omega, by omega⟩
theorem Xs.test {q v2 x1 x2 r u2 : Nat} (h : Xs q v2 x1 x2) (hu : u2 < Bw) : gtW x1 x2 r u2 = true ↔ r * Bw + u2 < q * v2 := by
  rw [gtW_iff h.l2 hu, h.eq]

/-- The words of a row of three at least. -/
theorem win_split {ws : List Nat} {k : Nat} (h : ws.length = k + 3) : vl ws = ((ws.getD (k + 2) 0 * Bw + ws.getD (k + 1) 0) * Bw + ws.getD k 0) * Bw ^ k + vl (ws.take k) := by
  have h1 := vl_take_succ (l := ws) (i := k) (by omega)
  have h2 := vl_take_succ (l := ws) (i := k + 1) (by omega)
  have h3 := vl_take_succ (l := ws) (i := k + 2) (by omega)
  rw [show k + 2 + 1 = ws.length by omega, List.take_length] at h3
  have p1 : Bw ^ (k + 1) = Bw ^ k * Bw := Nat.pow_succ _ _
  have p2 : Bw ^ (k + 2) = Bw ^ k * Bw * Bw := by rw [Nat.pow_succ, p1]
  rw [h3, h2, h1, p1, p2]
  clear h1 h2 h3 p1 p2 h
  generalize ws.getD (k + 2) 0 = a
  generalize ws.getD (k + 1) 0 = b
  generalize ws.getD k 0 = c
  generalize Bw ^ k = p
  generalize Bw = B
  generalize vl (ws.take k) = t
  grind
theorem two_split {ws : List Nat} {k : Nat} (h : ws.length = k + 2) : vl ws = (ws.getD (k + 1) 0 * Bw + ws.getD k 0) * Bw ^ k + vl (ws.take k) := by
  have h1 := vl_take_succ (l := ws) (i := k) (by omega)
  have h2 := vl_take_succ (l := ws) (i := k + 1) (by omega)
  rw [show k + 1 + 1 = ws.length by omega, List.take_length] at h2
  rw [h2, h1, Nat.pow_succ]
  clear h1 h2 h
  generalize ws.getD (k + 1) 0 = b
  generalize ws.getD k 0 = c
  generalize Bw ^ k = p
  grind
end Go.Proofs.YtpmggjplfcjkkaaGreatDoor

/- One round of the long division: what lies in memory. -/
set_option linter.unusedVariables false
set_option linter.unusedSimpArgs false
namespace Go.Proofs.YtpmggjplfcjkkaaGreatDoor
open Go.RowKit Nq

/-- Two ways to write a number in words of one length. -/
theorem vl_top {a : List Nat} {n x r : Nat} (hl : a.length = n) (wa : Wd a) (h : vl a + Bw ^ n * x = r) (hr : r < Bw ^ n) : x = 0 ∧ vl a = r := by
  have hx : x = 0 := by
    rcases Nat.eq_zero_or_pos x with e | e
    · exact e
    · have := Nat.mul_le_mul_left (Bw ^ n) e
      omega
  subst hx
  exact ⟨rfl, by simpa using h⟩
theorem vl_top1 {a : List Nat} {n x r : Nat} (hl : a.length = n) (wa : Wd a) (h : vl a + Bw ^ n * x = Bw ^ n * Bw + r) (hr : r < Bw ^ n) : x = Bw ∧ vl a = r := by
  have h1 := vl_lt wa
  rw [hl] at h1
  have hx : x = Bw := by
    rcases Nat.lt_trichotomy x Bw with e | e | e
    · have := Nat.mul_le_mul_left (Bw ^ n) (show x + 1 ≤ Bw from e)
      rw [Nat.mul_add, Nat.mul_one] at this
      omega
    · exact e
    · have := Nat.mul_le_mul_left (Bw ^ n) (show Bw + 1 ≤ x from e)
      rw [Nat.mul_add, Nat.mul_one] at this
      omega
  subst hx
  exact ⟨rfl, by omega⟩

/-- The difference did not go below zero. -/
theorem round_ok {zs2 : List Nat} {n U V q : Nat} (g : Gk U V q) (hl : zs2.length = n + 1) (wz : Wd zs2) (hV : V < Bw ^ n) (h : vl zs2 + V * q = U) :
    q = U / V ∧ zs2 = zs2.take n ++ [0] ∧ vl (zs2.take n) = U % V ∧ U % V < V := by
  have hle : q * V ≤ U := by rw [Nat.mul_comm]; omega
  obtain ⟨e1, e2⟩ := (kn_done g.lt g.le).1 hle
  have hV0 : 0 < V := by
    rcases Nat.eq_zero_or_pos V with e | e
    · have := g.lt; subst e; omega
    · exact e
  have hm := Nat.mod_lt U hV0
  have hv : vl zs2 = U % V := by rw [e2, Nat.mul_comm q V]; omega
  have ht := vl_take_succ (l := zs2) (i := n) (by omega)
  rw [show n + 1 = zs2.length by omega, List.take_length, hv] at ht
  obtain ⟨h0, h1⟩ := vl_top (x := zs2.getD n 0) (by simp; omega) (wz.take n) ht.symm (by omega)
  refine ⟨e1.symm, ?_, h1, hm⟩
  have := take_succ_eq (l := zs2) (i := n) (by omega)
  rw [show n + 1 = zs2.length by omega, List.take_length, h0] at this
  exact this
/-- It did: the divisor is added again. -/
theorem round_fix {zs2 zs3 : List Nat} {n U V q c3 : Nat} (g : Gk U V q) (hl : zs2.length = n + 1) (wz : Wd zs2) (hl3 : zs3.length = n) (wz3 : Wd zs3) (hV : V < Bw ^ n) (hU : U < Bw ^ (n + 1)) (h : vl zs2 + V * q = U + Bw ^ (n + 1)) (h3 : vl zs3 + Bw ^ n * c3 = vl (zs2.take n) + V) :
    0 < q ∧ q - 1 = U / V ∧ zs2.getD n 0 + c3 = Bw ∧ vl zs3 = U % V ∧ U % V < V := by
  have hw := vl_lt wz
  rw [hl] at hw
  have hlt : U < q * V := by rw [Nat.mul_comm]; omega
  obtain ⟨e1, e2⟩ := (kn_done g.lt g.le).2 hlt
  have hV0 : 0 < V := by
    rcases Nat.eq_zero_or_pos V with e | e
    · subst e; omega
    · exact e
  have hq0 : 0 < q := by
    rcases Nat.eq_zero_or_pos q with e | e
    · subst e; omega
    · exact e
  have hm := Nat.mod_lt U hV0
  have ht := vl_take_succ (l := zs2) (i := n) (by omega)
  rw [show n + 1 = zs2.length by omega, List.take_length] at ht
  have hsum : vl zs3 + Bw ^ n * (zs2.getD n 0 + c3) = Bw ^ n * Bw + U % V := by
    have e3 : Bw ^ (n + 1) = Bw ^ n * Bw := Nat.pow_succ _ _
    have e4 : q * V = V * q := Nat.mul_comm _ _
    have e5 := g.le
    rw [Nat.mul_add, e2]
    rw [e3] at h hU hw
    omega
  obtain ⟨h4, h5⟩ := vl_top1 hl3 wz3 hsum (by omega)
  exact ⟨hq0, e1.symm, h4, h5, hm⟩

/-- What stands fixed in a long division: m words of quotient, a divisor of k + 2 words. -/
structure Dv (bq bu bt bv ot ov m k : Nat) (Zq Zu Zt us vs : List Nat) : Prop where
  n : vs.length = k + 2
  ul : us.length = m + (k + 2)
  wu : Wd us
  wv : Wd vs
  top : Bw ≤ 2 * vs.getD (k + 1) 0
  qu : bq ≠ bu
  qt : bq ≠ bt
  ut : bu ≠ bt
  vq : bv ≠ bq
  vu : bv ≠ bu
  vt : bv = bt → ov + (k + 2) ≤ ot
  lq : m ≤ Zq.length
  lu : m + (k + 2) ≤ Zu.length
  lt : ot + (k + 3) ≤ Zt.length
  hm : m ≤ 1000
  hk : k ≤ 50

/-- The words of u when the round of j begins, j1 = j + 1. -/
def uW (us rs : List Nat) (m j1 : Nat) : List Nat := us.take j1 ++ rs ++ List.replicate (m - j1) 0
/-- Memory between two rounds. -/
structure Db (w0 : World) (bq bu bt bv ot ov m k s L : Nat) (K Zq Zu Zt us vs : List Nat) (j1 : Nat) (rs qd : List Nat) (w : World) : Prop where
  j : j1 ≤ m
  u : Blk w bu (spl Zu 0 (uW us rs m j1))
  r : rs.length = k + 2
  wr : Wd rs
  rv : vl rs < vl vs
  q : Blk w bq (spl Zq j1 qd)
  d : qd.length = m - j1
  wd : Wd qd
  val : vl (us.drop j1) = vl qd * vl vs + vl rs
  t : ∃ Z, Blk w bt Z ∧ Z.length = Zt.length
  v : Row w bv ov vs
  st : StkK w s L K
  fr : Fr [bq, bu, bt] w0 w

theorem Db.drew {w0 : World} {bq bu bt bv ot ov m k s L : Nat} {K Zq Zu Zt us vs : List Nat} {j1 : Nat} {rs qd : List Nat} {w : World} (h : Db w0 bq bu bt bv ot ov m k s L K Zq Zu Zt us vs j1 rs qd w) : Db w0 bq bu bt bv ot ov m k s L K Zq Zu Zt us vs j1 rs qd w.drew :=
  ⟨h.j, h.u.drew, h.r, h.wr, h.rv, h.q.drew, h.d, h.wd, h.val, h.t, h.v.drew, h.st.fr ((Fr.refl [] w).drewN 1) (by simp), h.fr.drewN 1⟩

theorem uW_length {us rs : List Nat} {m j1 k : Nat} (hu : us.length = m + (k + 2)) (hr : rs.length = k + 2) (hj : j1 ≤ m) : (uW us rs m j1).length = m + (k + 2) := by
  simp [uW]; omega
/-- The words that a round looks at. -/
theorem uW_win {us rs : List Nat} {m j k : Nat} (hu : us.length = m + (k + 2)) (hr : rs.length = k + 2) (hj : j < m) : ((uW us rs m (j + 1)).drop j).take (k + 3) = us.getD j 0 :: rs := by
  unfold uW
  rw [take_succ_eq (l := us) (i := j) (by omega), List.append_assoc, List.append_assoc, List.drop_append_of_le_length (by simp; omega)]
  have e1 : List.drop j (us.take j) = [] := List.drop_eq_nil_of_le (by simp; omega)
  rw [e1]
  simp [List.take_append, hr]
theorem uW_next {Zu us rs rs' : List Nat} {m j k : Nat} (hu : us.length = m + (k + 2)) (hr : rs.length = k + 2) (hr' : rs'.length = k + 2) (hj : j < m) (hZ : m + (k + 2) ≤ Zu.length) :
    spl (spl Zu 0 (uW us rs m (j + 1))) j (rs' ++ [0]) = spl Zu 0 (uW us rs' m j) := by
  have l1 := uW_length (m := m) (j1 := j + 1) hu hr (by omega)
  have l2 := uW_length (m := m) (j1 := j) hu hr' (by omega)
  simp only [spl, List.take_zero, List.nil_append, Nat.zero_add, l1, l2]
  rw [List.take_append_of_le_length (by omega), List.drop_append_of_le_length (by simp; omega)]
  unfold uW
  have e1 : (us.take (j + 1) ++ rs ++ List.replicate (m - (j + 1)) 0).take j = us.take j := by
    rw [List.append_assoc, List.take_append_of_le_length (by simp; omega), List.take_take]
    congr 1
    omega
  have e2 : (us.take (j + 1) ++ rs ++ List.replicate (m - (j + 1)) 0).drop (j + (rs' ++ [0]).length) = List.replicate (m - (j + 1)) 0 := by
    have e : j + (rs' ++ [0]).length = (us.take (j + 1) ++ rs).length := by simp; omega
    rw [e, List.drop_left]
  rw [e1, e2, rep_cons hj]
  simp [List.append_assoc]

section
variable {w0 : World} {bq bu bt bv ot ov m k s L : Nat} {K Zq Zu Zt us vs : List Nat}

/-- Behind the product: its words ts lie in bt. -/
structure Dm (w0 : World) (bq bu bt bv ot ov m k s L : Nat) (K Zq Zu Zt us vs : List Nat) (j1 : Nat) (rs qd ts : List Nat) (q : Nat) (w : World) : Prop where
  b : Db w0 bq bu bt bv ot ov m k s L K Zq Zu Zt us vs j1 rs qd w
  r : Row w bt ot ts
  l : ts.length = k + 3
  wt : Wd ts
  e : vl ts = vl vs * q

theorem spl_row {w : World} {b o : Nat} {Z zs : List Nat} (h : Blk w b (spl Z o zs)) (ho : o ≤ Z.length) : Row w b o zs := by
  have := h.row o zs.length
  rwa [spl_mid _ _ _ ho] at this

theorem Db.mul (D : Dv bq bu bt bv ot ov m k Zq Zu Zt us vs) {j1 : Nat} {rs qd : List Nat} {w : World} (h : Db w0 bq bu bt bv ot ov m k s L K Zq Zu Zt us vs j1 rs qd w) {q : Nat} (hq : q < Bw) (ct cv : Nat) :
    ∃ Q : Ending → World → Prop, Calls Tryz.prog 146 #[.slice (some ⟨bt, ot, none⟩) (k + 2) ct, .slice (some ⟨bv, ov, none⟩) (k + 2) cv, .int .u64 (q : Int), .int .u64 0] w Q ∧
      ∀ e w1, Q e w1 → ∃ c : Nat, e = .returned (.int .u64 (c : Int)) ∧ (q = 0 → c = 0) ∧ (∃ v, w1.cell? ⟨bt, ot + (k + 2), none⟩ = some v) ∧ w1.frozen? ⟨bt, ot + (k + 2), none⟩ = false ∧ ∃ ts, Dm w0 bq bu bt bv ot ov m k s L K Zq Zu Zt us vs j1 rs qd ts q (w1.setCell ⟨bt, ot + (k + 2), none⟩ (.int .u64 (c : Int))) := by
  obtain ⟨Z, hZ, hl⟩ := h.t
  have d1 := D.lt
  have d2 := D.hk
  have hcall := mulAddVWW bt ot ct bv ov cv (k + 2) Z vs q 0 w hZ h.v D.wv (by have := D.n; omega) (by have := D.n; omega) (by omega) (by omega) (fun e => .inr (D.vt e)) Bw_pos hq
  refine ⟨_, hcall, ?_⟩
  rintro e w1 ⟨c, zs, rfl, hc, hU, hE⟩
  rw [D.n] at hU hE
  have hB := hU.blk
  have hlz := hU.len
  have hlen : (spl Z ot zs).length = Z.length := spl_length _ _ _ (by omega)
  have hc0 : q = 0 → c = 0 := by
    rintro rfl
    have := vl_top hlz hU.wd hE (by simpa using pow_pos' (k + 2))
    exact this.1
  refine ⟨c, rfl, hc0, ⟨_, hB.cell (ot + (k + 2)) (by omega)⟩, hB.frozen _, zs ++ [c], ?_⟩
  have hs := hB.set (ot + (k + 2)) c
  have e1 := spl_snoc Z ot zs c (by omega)
  rw [hlz] at e1
  rw [e1] at hs
  have hF : Fr [bt] w (w1.setCell ⟨bt, ot + (k + 2), none⟩ (.int .u64 (c : Int))) := hU.fr.set (.inl (by simp)) _ _
  have hl2 : (spl Z ot (zs ++ [c])).length = Z.length := spl_length _ _ _ (by simp; omega)
  refine ⟨⟨h.j, h.u.fr hF (by simpa using D.ut), h.r, h.wr, h.rv, h.q.fr hF (by simpa using D.qt), h.d, h.wd, h.val, ⟨_, hs, by omega⟩, ?_, h.st.upd hF hZ hs hl2, h.fr.trans (hF.mono (by simp))⟩, spl_row hs (by omega), by simp; omega, hU.wd.append (Wd.one hc), by rw [vl_snoc, hlz, hE, Nat.add_zero]⟩
  by_cases hvt : bv = bt
  · subst hvt
    have hn := D.n
    have hv := D.vt rfl
    intro i hi
    rw [cell_set_ne (by intro e; injection e with _ e; omega)]
    have h1 := h.v i hi
    rw [← h1]
    have hc1 := hB.cell (ov + i) (by omega)
    have hc2 := hZ.cell (ov + i) (by omega)
    rw [hc1, hc2]
    congr 3
    simp only [spl]
    rw [List.getD_eq_getElem?_getD, List.getElem?_append_left (by simp; omega), List.getD_eq_getElem?_getD, List.getElem?_take, if_pos (by omega)]
  · exact h.v.fr hF (by simpa using hvt)

/-- Behind the subtraction, mended or not: the quotient's word q, the words rs' of the rest. -/
structure Dd (w0 : World) (bq bu bt bv ot ov m k s L : Nat) (K Zq Zu Zt us vs : List Nat) (j : Nat) (rs' qd : List Nat) (q : Nat) (w : World) : Prop where
  jl : j < m
  u : Blk w bu (spl Zu 0 (uW us rs' m j))
  r : rs'.length = k + 2
  wr : Wd rs'
  rv : vl rs' < vl vs
  qb : Blk w bq (spl Zq (j + 1) qd)
  d : qd.length = m - (j + 1)
  wd : Wd qd
  qw : q < Bw
  val : vl (us.drop j) = (vl qd * Bw + q) * vl vs + vl rs'
  t : ∃ Z, Blk w bt Z ∧ Z.length = Zt.length
  v : Row w bv ov vs
  st : StkK w s L K
  fr : Fr [bq, bu, bt] w0 w

theorem quo_val {A B V U q r u r0 Qd T : Nat} (hT : T = u + B * r0) (h0 : A = u + B * (Qd * V + r0)) (hq : q = T / V) (hr : r = T % V) : A = (Qd * B + q) * V + r := by
  have := Nat.div_add_mod T V
  subst hq hr
  generalize T / V = q at *
  generalize T % V = r at *
  subst hT
  grind

theorem Dd.store (D : Dv bq bu bt bv ot ov m k Zq Zu Zt us vs) {j : Nat} {rs' qd : List Nat} {q : Nat} {w : World} (h : Dd w0 bq bu bt bv ot ov m k s L K Zq Zu Zt us vs j rs' qd q w) :
    (∃ v, w.cell? ⟨bq, j, none⟩ = some v) ∧ w.frozen? ⟨bq, j, none⟩ = false ∧ Db w0 bq bu bt bv ot ov m k s L K Zq Zu Zt us vs j rs' (q :: qd) (w.setCell ⟨bq, j, none⟩ (.int .u64 (q : Int))) := by
  have hj := h.jl
  have hd := h.d
  have hl := D.lq
  have hlen : (spl Zq (j + 1) qd).length = Zq.length := spl_length _ _ _ (by omega)
  refine ⟨⟨_, h.qb.cell j (by omega)⟩, h.qb.frozen j, ?_⟩
  have hs := h.qb.set j q
  have hD : Down w bq j Zq (q :: qd) (w.setCell ⟨bq, j, none⟩ (.int .u64 (q : Int))) := Down.step (o := j) ⟨h.wd, h.qb, Fr.refl _ _⟩ h.qw (by omega)
  have hF := hD.fr
  obtain ⟨Z, hZ, hZl⟩ := h.t
  exact ⟨by omega, h.u.fr hF (by simpa using D.qu.symm), h.r, h.wr, h.rv, hD.blk, by simp; omega, hD.wd, by rw [h.val, vl_cons, Nat.add_comm q, Nat.mul_comm Bw], ⟨Z, hZ.fr hF (by simpa using D.qt.symm), hZl⟩, h.v.fr hF (by simpa using D.vq), h.st.upd hF h.qb hs (by simp), h.fr.trans (hF.mono (by simp))⟩
end
end Go.Proofs.YtpmggjplfcjkkaaGreatDoor

/- One round of the long division: the subtraction. -/
set_option linter.unusedVariables false
set_option linter.unusedSimpArgs false
namespace Go.Proofs.YtpmggjplfcjkkaaGreatDoor
open Go.RowKit Nq

theorem spl_again {Z a b : List Nat} {j x : Nat} (hl : a.length = b.length) (hj : j + (a.length + 1) ≤ Z.length) : spl (spl Z j (a ++ [x])) j b = spl Z j (b ++ [x]) := by
  have e1 : (Z.take j).length = j := by simp; omega
  simp only [spl]
  rw [List.append_assoc, List.take_append_of_le_length (by omega), List.take_of_length_le (by omega)]
  congr 1
  have e2 : j + b.length = (Z.take j).length + a.length := by omega
  rw [e2, List.append_assoc, ← List.drop_drop, List.drop_left, List.drop_left]
  simp [hl]
theorem spl_last {Z b : List Nat} {j x y : Nat} (hj : j + (b.length + 1) ≤ Z.length) : (spl Z j (b ++ [x])).set (j + b.length) y = spl Z j (b ++ [y]) := by
  have e1 := spl_snoc Z j b x (by omega)
  have e2 := spl_snoc Z j b y (by omega)
  rw [← e1, ← e2, List.set_set]

section
variable {w0 : World} {bq bu bt bv ot ov m k s L : Nat} {K Zq Zu Zt us vs : List Nat}

theorem Dm.sub (D : Dv bq bu bt bv ot ov m k Zq Zu Zt us vs) {j : Nat} {rs qd ts : List Nat} {q : Nat} {w : World} (h : Dm w0 bq bu bt bv ot ov m k s L K Zq Zu Zt us vs (j + 1) rs qd ts q w) (g : Gk (vl (us.getD j 0 :: rs)) (vl vs) q) (cu ct cv : Nat) :
    ∃ Q2 : Ending → World → Prop, Calls Tryz.prog 210 #[.slice (some ⟨bu, j, none⟩) (k + 3) cu, .slice (some ⟨bu, j, none⟩) (k + 3) cu, .slice (some ⟨bt, ot, none⟩) (k + 3) ct] w.drew Q2 ∧ ∀ e w3, Q2 e w3 →
      (e = .returned (.int .u64 0) ∧ ∃ rs', Dd w0 bq bu bt bv ot ov m k s L K Zq Zu Zt us vs j rs' qd q w3) ∨
      (e = .returned (.int .u64 1) ∧ ∃ Q3 : Ending → World → Prop, Calls Tryz.prog 155 #[.slice (some ⟨bu, j, none⟩) (k + 2) cu, .slice (some ⟨bu, j, none⟩) (k + 2) cu, .slice (some ⟨bv, ov, none⟩) (k + 2) cv] w3.drew Q3 ∧
        ∀ e w4, Q3 e w4 → ∃ c3 x : Nat, e = .returned (.int .u64 (c3 : Int)) ∧ w4.cell? ⟨bu, j + (k + 2), none⟩ = some (.int .u64 (x : Int)) ∧ w4.frozen? ⟨bu, j + (k + 2), none⟩ = false ∧ x + c3 = Bw ∧ 0 < q ∧
          ∃ rs', Dd w0 bq bu bt bv ot ov m k s L K Zq Zu Zt us vs j rs' qd (q - 1) (w4.setCell ⟨bu, j + (k + 2), none⟩ (.int .u64 0))) := by
  have hb := h.b
  have hj := hb.j
  have d1 := D.hm
  have d2 := D.hk
  have d3 := D.lu
  have hlr := hb.r
  have hln := D.n
  have hul := D.ul
  have hWl := uW_length (m := m) (j1 := j + 1) hul hlr hj
  have hsl : (spl Zu 0 (uW us rs m (j + 1))).length = Zu.length := spl_length _ _ _ (by omega)
  have hrow : Row w bu j (us.getD j 0 :: rs) := by
    have h1 := hb.u.row j (k + 3)
    have e : ((spl Zu 0 (uW us rs m (j + 1))).drop j).take (k + 3) = us.getD j 0 :: rs := by
      rw [← uW_win hul hlr (by omega)]
      simp only [spl, List.take_zero, List.nil_append]
      rw [List.drop_append_of_le_length (by omega), List.take_append_of_le_length (by simp; omega)]
    rwa [e] at h1
  have wwin : Wd (us.getD j 0 :: rs) := Wd.cons (D.wu.getD j) hb.wr
  have hcall := subVV bu j cu bu j cu bt ot ct (k + 3) (spl Zu 0 (uW us rs m (j + 1))) (us.getD j 0 :: rs) ts w.drew hb.u.drew hrow.drew wwin h.r.drew h.wt (by simp; omega) (by simp; omega) (by have := h.l; omega) (by have := h.l; omega) (by omega) (by omega) (fun _ => .inl (Nat.le_refl _)) (fun e => absurd e.symm D.ut)
  refine ⟨_, hcall, ?_⟩
  rintro e w3 ⟨c, zs2, rfl, hc, hU, hE⟩
  have hwl : (us.getD j 0 :: rs).length = k + 3 := by simp; omega
  rw [hwl] at hU hE
  rw [h.e] at hE
  have hl2 := hU.len
  have hV : vl vs < Bw ^ (k + 2) := by have := vl_lt D.wv; rwa [hln] at this
  have hUlt : vl (us.getD j 0 :: rs) < Bw ^ (k + 3) := by have := vl_lt wwin; rwa [hwl] at this
  have hA : vl (us.drop j) = us.getD j 0 + Bw * (vl qd * vl vs + vl rs) := by rw [drop_eq_cons (by omega), vl_cons, hb.val]
  have hF3 : Fr [bu] w w3 := ((Fr.refl [bu] w).drewN 1).trans hU.fr
  obtain ⟨Z, hZ, hZl⟩ := hb.t
  have hz2l : (spl (spl Zu 0 (uW us rs m (j + 1))) j zs2).length = Zu.length := by rw [spl_length _ _ _ (by omega), hsl]
  have hst3 := hb.st.upd hF3 hb.u hU.blk (by omega)
  have hq3 := hb.q.fr hF3 (by simpa using D.qu)
  have ht3 := hZ.fr hF3 (by simpa using D.ut.symm)
  have hv3 := hb.v.fr hF3 (by simpa using D.vu)
  have hfr3 : Fr [bq, bu, bt] w0 w3 := hb.fr.trans (hF3.mono (by simp))
  have hc01 : c = 0 ∨ c = 1 := by omega
  rcases hc01 with rfl | rfl
  · left
    obtain ⟨r1, r2, r3, r4⟩ := round_ok g (n := k + 2) hl2 hU.wd hV (by simpa using hE)
    have hB := hU.blk
    rw [r2, uW_next hul hlr (by simp; omega) (by omega) d3] at hB
    exact ⟨rfl, zs2.take (k + 2), ⟨by omega, hB, by simp; omega, hU.wd.take _, by rw [r3]; exact r4, hq3, hb.d, hb.wd, g.q, quo_val (U := 0) (u := us.getD j 0) (r0 := vl rs) (vl_cons _ _) hA r1 r3, ⟨Z, ht3, hZl⟩, hv3, hst3, hfr3⟩⟩
  · right
    refine ⟨rfl, ?_⟩
    have hrow2 : Row w3 bu j (zs2.take (k + 2)) := (spl_row hU.blk (by omega)).take _
    have hcall3 := addVV bu j cu bu j cu bv ov cv (k + 2) _ (zs2.take (k + 2)) vs w3.drew hU.blk.drew hrow2.drew (hU.wd.take _) hv3.drew D.wv (by simp; omega) (by simp; omega) (by omega) (by omega) (by omega) (by omega) (fun _ => .inl (Nat.le_refl _)) (fun e => absurd e D.vu)
    refine ⟨_, hcall3, ?_⟩
    rintro e w4 ⟨c3, zs3, rfl, hc3, hU3, hE3⟩
    have htl : (zs2.take (k + 2)).length = k + 2 := by simp; omega
    rw [htl] at hU3 hE3
    have hl3 := hU3.len
    obtain ⟨r0, r1, r2, r3, r4⟩ := round_fix g (n := k + 2) hl2 hU.wd hl3 hU3.wd hV (by simpa using hUlt) (by simpa using hE) hE3
    have hB := hU3.blk
    have ez : zs2 = zs2.take (k + 2) ++ [zs2.getD (k + 2) 0] := by
      have := take_succ_eq (l := zs2) (i := k + 2) (by omega)
      rwa [show k + 2 + 1 = zs2.length by omega, List.take_length] at this
    rw [ez, spl_again (by omega) (by rw [htl]; omega)] at hB
    have hbl : (spl (spl Zu 0 (uW us rs m (j + 1))) j (zs3 ++ [zs2.getD (k + 2) 0])).length = Zu.length := by rw [spl_length _ _ _ (by simp; omega), hsl]
    have hcell := (spl_row hB (by omega)) (k + 2) (by simp; omega)
    have eg : (zs3 ++ [zs2.getD (k + 2) 0]).getD (k + 2) 0 = zs2.getD (k + 2) 0 := by
      rw [List.getD_eq_getElem?_getD, List.getElem?_append_right (by omega), show k + 2 - zs3.length = 0 by omega]
      rfl
    rw [eg] at hcell
    refine ⟨c3, zs2.getD (k + 2) 0, rfl, hcell, hB.frozen _, r2, r0, zs3, ?_⟩
    have hs := hB.set (j + (k + 2)) 0
    have e1 := spl_last (Z := spl Zu 0 (uW us rs m (j + 1))) (b := zs3) (j := j) (x := zs2.getD (k + 2) 0) (y := 0) (by omega)
    rw [hl3] at e1
    rw [e1, uW_next hul hlr hl3 (by omega) d3] at hs
    have hF4 : Fr [bu] w3 (w4.setCell ⟨bu, j + (k + 2), none⟩ (.int .u64 0)) := (((Fr.refl [bu] w3).drewN 1).trans hU3.fr).set (.inl (by simp)) _ _
    have hsl2 : (spl Zu 0 (uW us zs3 m j)).length = Zu.length := spl_length _ _ _ (by rw [uW_length hul hl3 (by omega)]; omega)
    exact ⟨by omega, hs, hl3, hU3.wd, by rw [r3]; exact r4, hq3.fr hF4 (by simpa using D.qu), hb.d, hb.wd, by have := g.q; omega, quo_val (U := 0) (u := us.getD j 0) (r0 := vl rs) (vl_cons _ _) hA r1 r3, ⟨Z, ht3.fr hF4 (by simpa using D.ut.symm), hZl⟩, hv3.fr hF4 (by simpa using D.vu), hst3.upd hF4 hU.blk hs (by omega), hfr3.trans (hF4.mono (by simp))⟩
end
end Go.Proofs.YtpmggjplfcjkkaaGreatDoor

/- restore and free of the stack, as deferred calls. -/
set_option linter.unusedVariables false
set_option linter.unusedSimpArgs false
namespace Go.Proofs.YtpmggjplfcjkkaaGreatDoor
open Go.RowKit Nq

set_option maxRecDepth 100000 in
theorem restore_nil_d (u : FrameMode) {s : Nat} (n : Value) {w : World} (h : StkNil w s) : CallsD Tryz.prog 100 #[.pointer (some ⟨s, 0, none⟩), n] u w fun e u' w' => u' = u ∧ (e = .returned (.tuple #[]) ∧ w' = w) := by
  have hc := h.cell
  clear h
  go_enter_d Tryz.func100, Tryz.ntmps100
  go_wp2
  exact ⟨rfl, .tuple #[], results_none rfl _ _ _, rfl, rfl⟩

set_option maxRecDepth 100000 in
theorem free_nil_d (u : FrameMode) {s : Nat} {w : World} (h : StkNil w s) : CallsD Tryz.prog 41 #[.pointer (some ⟨s, 0, none⟩)] u w fun e u' w' => u' = u ∧ (e = .returned (.tuple #[]) ∧ w' = w) := by
  have hc := h.cell
  clear h
  go_enter_d Tryz.func41, Tryz.ntmps41
  go_wp2
  exact ⟨rfl, .tuple #[], results_none rfl _ _ _, rfl, rfl⟩

set_option maxRecDepth 100000 in
theorem restore_in_d (u : FrameMode) {s c bw L k : Nat} {Z : List Nat} {w : World} (h : StkIn w s c bw L Z) (hk : k ≤ Z.length) : CallsD Tryz.prog 100 #[.pointer (some ⟨s, 0, none⟩), .int .i64 (k : Int)] u w fun e u' w' => u' = u ∧ Cut w s c bw k Z e w' := by
  have h1 := cell_of h.s
  have hs1 := restoreI h.i hk
  have hfin : ∀ w', In w' c bw k Z → Fr [c] w w' → Hid (Cut w s c bw k Z (.returned (.tuple #[])) w') := fun w' hi hf => Lib.hid ⟨rfl, ⟨(hf.block s (lt_of h.s) (by simpa using h.ne)).trans h.s, hi⟩, hf⟩
  clear h
  go_enter_d Tryz.func100, Tryz.ntmps100
  go_wp2_with (go_at_call 151; (with_reducible refine hs1.mono ?_); rintro e w1 ⟨rfl, k1, k2⟩; have HP := hfin w1 k1 k2)
  exact ⟨rfl, .tuple #[], results_none rfl _ _ _, HP.out⟩

set_option maxRecDepth 100000 in
theorem free_in_d (u : FrameMode) {s c bw L : Nat} {Z : List Nat} {w : World} (h : StkIn w s c bw L Z) : CallsD Tryz.prog 41 #[.pointer (some ⟨s, 0, none⟩)] u w fun e u' w' => u' = u ∧ Cut w s c bw 0 Z e w' := by
  have h1 := cell_of h.s
  have hs1 := freeI h.i
  have hfin : ∀ w', In w' c bw 0 Z → Fr [c] w w' → Hid (Cut w s c bw 0 Z (.returned (.tuple #[])) w') := fun w' hi hf => Lib.hid ⟨rfl, ⟨(hf.block s (lt_of h.s) (by simpa using h.ne)).trans h.s, hi⟩, hf⟩
  clear h
  go_enter_d Tryz.func41, Tryz.ntmps41
  go_wp2_with (go_at_call 54; (with_reducible refine hs1.mono ?_); rintro e w1 ⟨rfl, k1, k2⟩; have HP := hfin w1 k1 k2)
  exact ⟨rfl, .tuple #[], results_none rfl _ _ _, HP.out⟩

/-- stk.restore(k) -/
theorem stkRestore_d (u : FrameMode) {s L k : Nat} {K : List Nat} {w : World} (h : StkK w s L K) (hk : k ≤ L) : CallsD Tryz.prog 100 #[.pointer (some ⟨s, 0, none⟩), .int .i64 (k : Int)] u w fun e u' w' => u' = u ∧ e = .returned (.tuple #[]) ∧ StkK w' s k K ∧ Fr K w w' ∧ (∀ b o xs, Row w b o xs → Row w' b o xs) ∧ ∀ b Z, Blk w b Z → Blk w' b Z := by
  rcases h with ⟨h, rfl, rfl⟩ | ⟨c, bw, Z, h, rfl⟩
  · refine (restore_nil_d u _ h).mono ?_
    rintro e u' w' ⟨rfl, rfl, rfl⟩
    exact ⟨rfl, rfl, .inl ⟨h, by omega, rfl⟩, Fr.refl _ _, fun _ _ _ h => h, fun _ _ h => h⟩
  · refine (restore_in_d u h (Nat.le_trans hk h.i.l)).mono ?_
    rintro e u' w' ⟨rfl, rfl, h1, hF⟩
    have hb : ∀ b Z, Blk w b Z → Blk w' b Z := fun b Z hB => hB.fr hF (by intro e; simp at e; subst e; exact not_words hB (by decide) h.i.c)
    refine ⟨rfl, rfl, .inr ⟨c, bw, Z, h1, rfl⟩, hF.mono (by simp), ?_, hb⟩
    intro b o xs hR
    by_cases hx : xs = []
    · subst hx; exact Row.nil _ _ _
    · refine hR.fr hF ?_
      intro e
      simp at e
      subst e
      have hc := hR 0 (pos_of_ne hx)
      unfold World.cell? at hc
      rw [h.i.c] at hc
      simp at hc
      cases o <;> simp at hc
/-- stk.free() -/
theorem stkFree_d (u : FrameMode) {s L : Nat} {K : List Nat} {w : World} (h : StkK w s L K) : CallsD Tryz.prog 41 #[.pointer (some ⟨s, 0, none⟩)] u w fun e u' w' => u' = u ∧ e = .returned (.tuple #[]) ∧ Fr K w w' := by
  rcases h with ⟨h, rfl, rfl⟩ | ⟨c, bw, Z, h, rfl⟩
  · refine (free_nil_d u h).mono ?_
    rintro e u' w' ⟨rfl, rfl, rfl⟩
    exact ⟨rfl, rfl, Fr.refl _ _⟩
  · refine (free_in_d u h).mono ?_
    rintro e u' w' ⟨rfl, rfl, h1, hF⟩
    exact ⟨rfl, rfl, hF.mono (by simp)⟩
end Go.Proofs.YtpmggjplfcjkkaaGreatDoor

/- The guess of a round, and the first round. -/
set_option linter.unusedVariables false
set_option linter.unusedSimpArgs false
namespace Go.Proofs.YtpmggjplfcjkkaaGreatDoor
open Go.RowKit Nq

theorem top_le {rs vs : List Nat} {k : Nat} (hr : rs.length = k + 2) (hv : vs.length = k + 2) (wv : Wd vs) (h : vl rs < vl vs) : rs.getD (k + 1) 0 ≤ vs.getD (k + 1) 0 := by
  apply Nat.le_of_not_lt
  intro hlt
  have h1 := vl_take_succ (l := rs) (i := k + 1) (by omega)
  have h2 := vl_take_succ (l := vs) (i := k + 1) (by omega)
  rw [show k + 1 + 1 = rs.length by omega, List.take_length] at h1
  rw [show k + 1 + 1 = vs.length by omega, List.take_length] at h2
  have h3 := vl_lt (wv.take (k + 1))
  rw [List.length_take, Nat.min_eq_left (by omega)] at h3
  have h4 := Nat.mul_le_mul_left (Bw ^ (k + 1)) hlt
  rw [Nat.mul_succ] at h4
  omega

section
variable {w0 : World} {bq bu bt bv ot ov m k s L : Nat} {K Zq Zu Zt us vs : List Nat}

/-- The guess of a round: the words, and what the divisor and the window are worth. -/
theorem Db.win (D : Dv bq bu bt bv ot ov m k Zq Zu Zt us vs) {j : Nat} {rs qd : List Nat} {w : World} (h : Db w0 bq bu bt bv ot ov m k s L K Zq Zu Zt us vs (j + 1) rs qd w) :
    Win (Bw ^ k) (rs.getD (k + 1) 0 * Bw + (us.getD j 0 :: rs).getD (k + 1) 0) ((us.getD j 0 :: rs).getD k 0) (vl ((us.getD j 0 :: rs).take k)) (vs.getD (k + 1) 0) (vs.getD k 0) (vl (vs.take k)) ∧
    wU (Bw ^ k) (rs.getD (k + 1) 0 * Bw + (us.getD j 0 :: rs).getD (k + 1) 0) ((us.getD j 0 :: rs).getD k 0) (vl ((us.getD j 0 :: rs).take k)) = vl (us.getD j 0 :: rs) ∧
    wU (Bw ^ k) (vs.getD (k + 1) 0) (vs.getD k 0) (vl (vs.take k)) = vl vs ∧ rs.getD (k + 1) 0 ≤ vs.getD (k + 1) 0 ∧ vl (us.getD j 0 :: rs) < Bw * vl vs ∧ (us.getD j 0 :: rs).getD (k + 1) 0 < Bw := by
  have hlr := h.r
  have hln := D.n
  have wwin : Wd (us.getD j 0 :: rs) := Wd.cons (D.wu.getD j) h.wr
  have e1 := win_split (ws := us.getD j 0 :: rs) (k := k) (by simp; omega)
  have e2 := two_split (ws := vs) (k := k) hln
  have h1 := vl_lt (wwin.take k)
  have h2 := vl_lt (D.wv.take k)
  rw [List.length_take, Nat.min_eq_left (by simp; omega)] at h1
  rw [List.length_take, Nat.min_eq_left (by omega)] at h2
  refine ⟨⟨h1, h2, D.top, D.wv.getD _, D.wv.getD _, wwin.getD _⟩, e1.symm, e2.symm, top_le hlr hln D.wv h.rv, ?_, wwin.getD _⟩
  have h3 := D.wu.getD j
  have h4 := Nat.mul_le_mul_left Bw h.rv
  rw [Nat.mul_succ] at h4
  rw [vl_cons]
  omega
/-- The cells that a round reads. -/
theorem Db.cells (D : Dv bq bu bt bv ot ov m k Zq Zu Zt us vs) {j : Nat} {rs qd : List Nat} {w : World} (h : Db w0 bq bu bt bv ot ov m k s L K Zq Zu Zt us vs (j + 1) rs qd w) :
    Row w bu j (us.getD j 0 :: rs) := by
  have hj := h.j
  have hWl := uW_length (m := m) (j1 := j + 1) D.ul h.r hj
  have d3 := D.lu
  have hsl : (spl Zu 0 (uW us rs m (j + 1))).length = Zu.length := spl_length _ _ _ (by omega)
  have h1 := h.u.row j (k + 3)
  have e : ((spl Zu 0 (uW us rs m (j + 1))).drop j).take (k + 3) = us.getD j 0 :: rs := by
    rw [← uW_win D.ul h.r (by omega)]
    simp only [spl, List.take_zero, List.nil_append]
    rw [List.drop_append_of_le_length (by omega), List.take_append_of_le_length (by simp; omega)]
  rwa [e] at h1
/-- The top word behind a round. -/
theorem Dd.top (D : Dv bq bu bt bv ot ov m k Zq Zu Zt us vs) {j : Nat} {rs' qd : List Nat} {q : Nat} {w : World} (h : Dd w0 bq bu bt bv ot ov m k s L K Zq Zu Zt us vs j rs' qd q w) :
    w.cell? ⟨bu, j + (k + 1), none⟩ = some (.int .u64 ((rs'.getD (k + 1) 0 : Nat) : Int)) := by
  have hj := h.jl
  have hlr := h.r
  have hWl := uW_length (m := m) (j1 := j) D.ul h.r (by omega)
  have d3 := D.lu
  have hul := D.ul
  have hc := h.u.cell (j + (k + 1)) (by rw [spl_length _ _ _ (by omega)]; omega)
  rw [hc]
  congr 3
  simp only [spl, List.take_zero, List.nil_append, uW]
  rw [List.getD_eq_getElem?_getD, List.getD_eq_getElem?_getD, List.append_assoc, List.append_assoc, List.getElem?_append_right (by simp; omega), List.getElem?_append_left (by simp; omega)]
  congr 2
  simp
  omega

/-- The cells that the first round reads. -/
theorem Db.row0 (D : Dv bq bu bt bv ot ov m k Zq Zu Zt us vs) {rs qd : List Nat} {w : World} (h : Db w0 bq bu bt bv ot ov m k s L K Zq Zu Zt us vs m rs qd w) : Row w bu m rs := by
  have hlr := h.r
  have hul := D.ul
  have htl : (us.take m).length = m := by simp; omega
  have h1 := h.u.row m (k + 2)
  have e : ((spl Zu 0 (uW us rs m m)).drop m).take (k + 2) = rs := by
    simp only [spl, List.take_zero, List.nil_append, uW, Nat.sub_self, List.replicate_zero, List.append_nil]
    rw [List.append_assoc, List.drop_append_of_le_length (by omega), List.drop_of_length_le (by omega), List.nil_append, List.take_append_of_le_length (by omega), List.take_of_length_le (by omega)]
  rwa [e] at h1
/-- The first round: nothing is taken away. -/
theorem Dm.sub0 (D : Dv bq bu bt bv ot ov m k Zq Zu Zt us vs) {rs qd ts : List Nat} {w : World} (h : Dm w0 bq bu bt bv ot ov m k s L K Zq Zu Zt us vs m rs qd ts 0 w) (cu ct : Nat) :
    ∃ Q2 : Ending → World → Prop, Calls Tryz.prog 210 #[.slice (some ⟨bu, m, none⟩) (k + 2) cu, .slice (some ⟨bu, m, none⟩) (k + 2) cu, .slice (some ⟨bt, ot, none⟩) (k + 2) ct] w.drew Q2 ∧ ∀ e w3, Q2 e w3 →
      e = .returned (.int .u64 0) ∧ Db w0 bq bu bt bv ot ov m k s L K Zq Zu Zt us vs m rs qd w3 ∧ w3.cell? ⟨bu, m + (k + 1), none⟩ = some (.int .u64 ((rs.getD (k + 1) 0 : Nat) : Int)) := by
  have hb := h.b
  have d1 := D.hm
  have d2 := D.hk
  have d3 := D.lu
  have hlr := hb.r
  have hul := D.ul
  have hWl := uW_length (m := m) (j1 := m) hul hlr (Nat.le_refl _)
  have hsl : (spl Zu 0 (uW us rs m m)).length = Zu.length := spl_length _ _ _ (by omega)
  have htl : (us.take m).length = m := by simp; omega
  have hrow : Row w bu m rs := by
    have h1 := hb.u.row m (k + 2)
    have e : ((spl Zu 0 (uW us rs m m)).drop m).take (k + 2) = rs := by
      simp only [spl, List.take_zero, List.nil_append, uW, Nat.sub_self, List.replicate_zero, List.append_nil]
      rw [List.append_assoc, List.drop_append_of_le_length (by omega), List.drop_of_length_le (by omega), List.nil_append, List.take_append_of_le_length (by omega), List.take_of_length_le (by omega)]
    rwa [e] at h1
  have hts := h.l
  have hcall := subVV bu m cu bu m cu bt ot ct (k + 2) (spl Zu 0 (uW us rs m m)) rs (ts.take (k + 2)) w.drew hb.u.drew hrow.drew hb.wr (h.r.take _).drew (h.wt.take _) (by omega) (by omega) (by simp; omega) (by simp; omega) (by omega) (by omega) (fun _ => .inl (Nat.le_refl _)) (fun e => absurd e.symm D.ut)
  refine ⟨_, hcall, ?_⟩
  rintro e w3 ⟨c, zs2, rfl, hc, hU, hE⟩
  have h0 : vl (ts.take (k + 2)) = 0 := by
    have := vl_split ts (k + 2) (by omega)
    have he := h.e
    rw [Nat.mul_zero] at he
    omega
  rw [h0, Nat.add_zero, hlr] at hE
  rw [hlr] at hU
  have hl2 := hU.len
  have hv2 := vl_lt hU.wd
  rw [hl2] at hv2
  have hr2 := vl_lt hb.wr
  have hc0 : c = 0 := by
    rcases Nat.eq_zero_or_pos c with e | e
    · exact e
    · have := Nat.mul_le_mul_left (Bw ^ (k + 2)) e
      omega
  subst hc0
  rw [Nat.mul_zero, Nat.add_zero] at hE
  have hzr : zs2 = rs := vl_inj_len hU.wd hb.wr (by omega) hE
  subst hzr
  have hB := hU.blk
  have hsame : spl (spl Zu 0 (uW us zs2 m m)) m zs2 = spl Zu 0 (uW us zs2 m m) := by
    have e1 : (uW us zs2 m m) = us.take m ++ zs2 := by simp [uW]
    rw [e1, ← spl_spl (Z := Zu) htl (by omega)]
    have e2 : (spl Zu 0 (us.take m)).length = Zu.length := spl_length _ _ _ (by omega)
    generalize spl Zu 0 (us.take m) = Y at *
    simp only [spl]
    rw [List.take_append_of_le_length (by simp; omega), List.take_take, Nat.min_self]
    congr 2
    have e3 : (Y.take m).length = m := by simp; omega
    have e5 : (Y.take m ++ zs2).length = m + zs2.length := by simp; omega
    rw [← List.append_assoc, ← e5, List.drop_left, e5]
  rw [hsame] at hB
  have hF3 : Fr [bu] w w3 := ((Fr.refl [bu] w).drewN 1).trans hU.fr
  obtain ⟨Z, hZ, hZl⟩ := hb.t
  refine ⟨rfl, ⟨hb.j, hB, hb.r, hb.wr, hb.rv, hb.q.fr hF3 (by simpa using D.qu), hb.d, hb.wd, hb.val, ⟨Z, hZ.fr hF3 (by simpa using D.ut.symm), hZl⟩, hb.v.fr hF3 (by simpa using D.vu), hb.st.upd hF3 hb.u hB rfl, hb.fr.trans (hF3.mono (by simp))⟩, ?_⟩
  have := (spl_row hU.blk (by omega)) (k + 1) (by omega)
  exact this
end
end Go.Proofs.YtpmggjplfcjkkaaGreatDoor
