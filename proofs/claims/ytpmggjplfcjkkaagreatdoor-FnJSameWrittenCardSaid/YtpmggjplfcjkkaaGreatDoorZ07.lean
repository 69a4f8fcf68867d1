/- alias and cmp of nats. -/
import Derived.Deep.QuietTactic
import Derived.BigQuiet
import Derived.Test.YtpmggjplfcjkkaaGreatDoorZ06
import Derived.StillTailTactics
set_option linter.unusedVariables false
set_option linter.unusedSimpArgs false
namespace Go.Proofs.YtpmggjplfcjkkaaGreatDoor
open Go.RowKit Nq

def Drew (w : World) (v : Value) (e : Ending) (w' : World) : Prop := e = .returned v ∧ ∃ nq, w' = w.drewN nq

set_option maxRecDepth 100000 in
set_option maxHeartbeats 400000 in
theorem alias_nil1 (l : Nat) (xv : Option Addr) (n c : Nat) (w : World) : Calls Tryz.prog 95 #[.slice none 0 0, .slice xv n c] w (Drew w (.bool false)) := by
  go_enter Tryz.func95, Tryz.ntmps95
  go_wp2_with fail
  go_quiet (fail)
  go_wp2
  go_ret
  exact ⟨rfl, _, rfl⟩

set_option maxRecDepth 100000 in
set_option maxHeartbeats 400000 in
theorem alias_nil2 (xv : Option Addr) (n c : Nat) (w : World) : Calls Tryz.prog 95 #[.slice xv n c, .slice none 0 0] w (Drew w (.bool false)) := by
  by_cases h : 0 < c
  · go_enter Tryz.func95, Tryz.ntmps95
    go_wp2_with fail
    go_quiet (fail)
    go_wp2
    go_ret
    exact ⟨rfl, _, rfl⟩
  · have h0 : c = 0 := by omega
    subst h0
    go_enter Tryz.func95, Tryz.ntmps95
    go_wp2_with fail
    go_quiet (fail)
    go_wp2
    go_ret
    exact ⟨rfl, _, rfl⟩

set_option maxRecDepth 100000 in
set_option maxHeartbeats 400000 in
theorem alias_blocks (b n c bx nx cx : Nat) (Z X : List Nat) (w : World) (hZ : Blk w b Z) (hX : Blk w bx X) (hc : Z.length = c) (hcx : X.length = cx) (h0 : 0 < c) (h0x : 0 < cx) (hl : c ≤ 100000) (hlx : cx ≤ 100000) (hn : n ≤ c) (hnx : nx ≤ cx) :
    Calls Tryz.prog 95 #[.slice (some ⟨b, 0, none⟩) n c, .slice (some ⟨bx, 0, none⟩) nx cx] w (Drew w (.bool (decide (b = bx)))) := by
  obtain ⟨k, hk, hk'⟩ : ∃ k : Nat, k < c ∧ Hid (c = k + 1) := ⟨c - 1, by omega, Lib.hid (by omega)⟩
  obtain ⟨kx, hkx, hkx'⟩ : ∃ k : Nat, k < cx ∧ Hid (cx = k + 1) := ⟨cx - 1, by omega, Lib.hid (by omega)⟩
  have ec : ((c : Int) - 1) = (k : Int) := by have := hk'.out; omega
  have ecx : ((cx : Int) - 1) = (kx : Int) := by have := hkx'.out; omega
  have w1 : IntKind.i64.wrap (k : Int) = (k : Int) := by have := hk'.out; rw [IntKind.wrap_i64]; omega
  have w2 : IntKind.i64.wrap (kx : Int) = (kx : Int) := by have := hkx'.out; rw [IntKind.wrap_i64]; omega
  by_cases hb : b = bx
  · subst hb
    have e1 := hZ.inj hX
    subst e1
    have e2 : k = kx := by have := hk'.out; have := hkx'.out; omega
    subst e2
    have e3 : c = cx := by omega
    subst e3
    have hr := fun nq : Nat => run_eql_word_same (w.drewN nq) ⟨b, k, none⟩
    clear hZ hX hc hcx
    simp only [decide_true]
    go_enter Tryz.func95, Tryz.ntmps95
    go_wp2_with fail
    go_quiet (fail)
    go_wp2
    go_ret
    exact ⟨by simp, _, rfl⟩
  · have hr := fun nq : Nat => run_eql_word_other (w.drewN nq) (o := k) (p := kx) (.inl hb) (hZ.drewN nq) (hX.drewN nq)
    have HP := Lib.hid (show (Value.bool (decide (b = bx))) = .bool false by simp [hb])
    clear hZ hX hc hcx
    rw [HP.out]
    go_enter Tryz.func95, Tryz.ntmps95
    go_wp2_with fail
    go_quiet (fail)
    go_wp2
    go_ret
    exact ⟨by simp, _, rfl⟩

/-- Whether two nats lie in one block. -/
def shared (zo xo : Option Nat) : Bool := match zo, xo with
  | some b, some c => decide (b = c)
  | _, _ => false
theorem alias_own {zv xv : Value} {zo xo : Option Nat} {zs xs : List Nat} {w : World} (hz : Own w zv zo zs) (hx : Own w xv xo xs) :
    Calls Tryz.prog 95 #[zv, xv] w (Drew w (.bool (shared zo xo))) := by
  rcases hz with ⟨rfl, rfl, rfl⟩ | ⟨b, Z, rfl, rfl, hZ, h4, h5, h6, h7⟩
  · obtain ⟨a, c, rfl⟩ := hx.slice
    exact alias_nil1 0 _ _ _ w
  · rcases hx with ⟨rfl, rfl, rfl⟩ | ⟨bx, X, rfl, rfl, hX, k4, k5, k6, k7⟩
    · exact alias_nil2 _ _ _ w
    · exact alias_blocks b _ _ bx _ _ Z X w hZ hX rfl rfl h6 k6 h7 k7 h5 k5

/-! ### cmp -/
def cmpW (a b : Nat) : Int := if a < b then -1 else if b < a then 1 else 0
theorem cmpW_lt {a b : Nat} (h : a < b) : cmpW a b = -1 := by simp [cmpW, h]
theorem cmpW_gt {a b : Nat} (h : b < a) : cmpW a b = 1 := by simp [cmpW, h]; omega
theorem cmpW_eq (a : Nat) : cmpW a a = 0 := by simp [cmpW]

theorem cmp_word {xs ys : List Nat} {k : Nat} (wX : Wd xs) (wY : Wd ys) (hx : k < xs.length) (hy : k < ys.length) (hl : xs.length = ys.length) (h : xs.drop (k + 1) = ys.drop (k + 1)) (hlt : xs.getD k 0 < ys.getD k 0) : vl xs < vl ys := by
  rw [vl_split xs (k + 1) (by omega), vl_split ys (k + 1) (by omega), h, vl_take_succ hx, vl_take_succ hy]
  have h1 := vl_lt (wX.take k)
  rw [List.length_take, Nat.min_eq_left (by omega)] at h1
  have h2 : Bw ^ k * (xs.getD k 0 + 1) ≤ Bw ^ k * ys.getD k 0 := Nat.mul_le_mul_left _ hlt
  rw [Nat.mul_add, Nat.mul_one] at h2
  omega
theorem cmp_all {xs ys : List Nat} (hl : xs.length = ys.length) (h : xs.drop 1 = ys.drop 1) (h0 : xs.getD 0 0 = ys.getD 0 0) : xs = ys := by
  match xs, ys, hl with
  | [], [], _ => rfl
  | x :: xs, y :: ys, _ => simp at h h0; rw [h, h0]

theorem cmpNat_diff (xv yv : Value) (ax ay : Option Addr) (m n cx cy : Nat) (r : Int) (w : World) (hx : xv = .slice ax m cx) (hy : yv = .slice ay n cy)
    (h : m < n ∧ r = -1 ∨ n < m ∧ r = 1) (hm : m ≤ 100000) (hn : n ≤ 100000) : Calls Tryz.prog 57 #[xv, yv] w (Drew w (.int .i64 r)) := by
  subst hx hy
  rcases h with ⟨h, rfl⟩ | ⟨h, rfl⟩
  · have hd : ((m : Int) == (n : Int)) = false := by simp; omega
    go_enter Tryz.func57, Tryz.ntmps57
    go_wp2
    go_ret
    exact ⟨rfl, 0, by simp [World.drewN]⟩
  · have hd : ((m : Int) == (n : Int)) = false := by simp; omega
    go_enter Tryz.func57, Tryz.ntmps57
    go_wp2
    go_ret
    exact ⟨rfl, 0, by simp [World.drewN]⟩

theorem cmpNat_zero (xv yv : Value) (ax ay : Option Addr) (cx cy : Nat) (w : World) (hx : xv = .slice ax 0 cx) (hy : yv = .slice ay 0 cy) : Calls Tryz.prog 57 #[xv, yv] w (Drew w (.int .i64 0)) := by
  subst hx hy
  go_enter Tryz.func57, Tryz.ntmps57
  go_wp2
  go_ret
  exact ⟨rfl, 0, by simp [World.drewN]⟩

theorem drewN_drewN (w : World) (a b : Nat) : (w.drewN a).drewN b = w.drewN (a + b) := by
  induction b with
  | zero => rfl
  | succ b ih => show ((w.drewN a).drewN b).drew = (w.drewN (a + b)).drew; rw [ih]

set_option maxRecDepth 100000 in
set_option maxHeartbeats 1000000 in
theorem cmpNat_same (bx cx by_ cy n : Nat) (xs ys : List Nat) (w : World) (hX : Row w bx 0 xs) (hY : Row w by_ 0 ys) (wX : Wd xs) (wY : Wd ys)
    (hl : xs.length ≤ n) (hl' : n ≤ xs.length) (hm : ys.length ≤ n) (hm' : n ≤ ys.length) (hn : n ≤ 100000) (h0 : 0 < n) (hc : n ≤ cx) (hcy : n ≤ cy) :
    Calls Tryz.prog 57 #[.slice (some ⟨bx, 0, none⟩) n cx, .slice (some ⟨by_, 0, none⟩) n cy] w (Drew w (.int .i64 (cmpW (vl xs) (vl ys)))) := by
  obtain ⟨m, rfl⟩ : ∃ m, n = m + 1 := ⟨n - 1, by omega⟩
  have em : (((m + 1 : Nat) : Int) - 1) = (m : Int) := by omega
  have hw1 : IntKind.i64.wrap (((m + 1 : Nat) : Int) - 1) = (m : Int) := by rw [IntKind.wrap_i64]; omega
  have hfin : ∀ k nq, k ≤ m → xs.drop (k + 1) = ys.drop (k + 1) → (xs.getD k 0 < ys.getD k 0 → Drew w (.int .i64 (cmpW (vl xs) (vl ys))) (.returned (.int .i64 (-1))) (w.drewN nq)) ∧ (ys.getD k 0 < xs.getD k 0 → Drew w (.int .i64 (cmpW (vl xs) (vl ys))) (.returned (.int .i64 1)) (w.drewN nq)) := by
    intro k nq hk hE
    refine ⟨fun h => ⟨?_, nq, rfl⟩, fun h => ⟨?_, nq, rfl⟩⟩
    · rw [cmpW_lt (cmp_word wX wY (by omega) (by omega) (by omega) hE h)]
    · rw [cmpW_gt (cmp_word wY wX (by omega) (by omega) (by omega) hE.symm h)]
  have hfin0 : ∀ nq, xs.drop 1 = ys.drop 1 → xs.getD 0 0 = ys.getD 0 0 → Drew w (.int .i64 (cmpW (vl xs) (vl ys))) (.returned (.int .i64 0)) (w.drewN nq) := by
    intro nq hE h
    have := cmp_all (by omega) hE h
    subst this
    exact ⟨by rw [cmpW_eq], nq, rfl⟩
  have hfs : (xs.drop (m + 1) = ys.drop (m + 1)) := by rw [List.drop_eq_nil_of_le (by omega), List.drop_eq_nil_of_le (by omega)]
  have HF := Lib.hid hfin
  have HF0 := Lib.hid hfin0
  clear hfin hfin0
  go_enter Tryz.func57, Tryz.ntmps57
  go_wp2_with fail
  go_loopw [7] (fun i7 wr => ∃ k nq : Nat, k ≤ m ∧ i7 = .int .i64 (k : Int) ∧ wr = w.drewN nq ∧ xs.drop (k + 1) = ys.drop (k + 1)) (fun i7 _ => (intOf i7).toNat)
  case atStart => exact ⟨m, 0, by omega, rfl, rfl, hfs⟩
  case round =>
    obtain ⟨k, nq, hk, rfl, rfl, hE⟩ := hrel
    have hx := hX k (by omega)
    have hy := hY k (by omega)
    simp only [Nat.zero_add] at hx hy
    have HF1 := Lib.hid (HF.out k · hk hE)
    have HD : 0 < k → xs.getD k 0 = ys.getD k 0 → Hid (xs.drop k = ys.drop k) := fun _ h => Lib.hid (by rw [drop_eq_cons (by omega), drop_eq_cons (l := ys) (by omega), h, hE])
    have HF2 : k = 0 → xs.getD k 0 = ys.getD k 0 → Hid (∀ nq, Drew w (.int .i64 (cmpW (vl xs) (vl ys))) (.returned (.int .i64 0)) (w.drewN nq)) := by
      intro h1 h2
      subst h1
      exact Lib.hid fun nq => HF0.out nq hE h2
    generalize xs.getD k 0 = x at hx HF1 HD HF2
    generalize ys.getD k 0 = y at hy HF1 HD HF2
    clear hE
    by_cases h1 : x < y
    · have hd : ((x : Int) == (y : Int)) = false := by simp; omega
      have HP := Lib.hid (fun nq => (HF1.out nq).1 h1)
      clear HD HF2
      by_cases hk0 : 0 < k
      · go_wp2_with fail
        go_quiet (fail)
        go_wp2_with fail
        go_quiet (fail)
        go_wp2
        go_ret
        simp only [drewN_drewN]; exact HP.out _
      · have hk1 : k = 0 := by omega
        subst hk1
        go_wp2_with fail
        go_quiet (fail)
        go_wp2_with fail
        go_quiet (fail)
        go_wp2
        go_ret
        simp only [drewN_drewN]; exact HP.out _
    · by_cases h2 : y < x
      · have hd : ((x : Int) == (y : Int)) = false := by simp; omega
        have HP := Lib.hid (fun nq => (HF1.out nq).2 h2)
        clear HD HF2
        by_cases hk0 : 0 < k
        · go_wp2_with fail
          go_quiet (fail)
          go_wp2_with fail
          go_quiet (fail)
          go_wp2_with fail
          go_quiet (fail)
          go_wp2
          go_ret
          simp only [drewN_drewN]; exact HP.out _
        · have hk1 : k = 0 := by omega
          subst hk1
          go_wp2_with fail
          go_quiet (fail)
          go_wp2_with fail
          go_quiet (fail)
          go_wp2_with fail
          go_quiet (fail)
          go_wp2
          go_ret
          simp only [drewN_drewN]; exact HP.out _
      · have e : x = y := by omega
        subst e
        by_cases hk0 : 0 < k
        · obtain ⟨j, rfl⟩ : ∃ j, k = j + 1 := ⟨k - 1, by omega⟩
          have hE2 := HD hk0 rfl
          have ej : (((j + 1 : Nat) : Int) - 1) = (j : Int) := by omega
          have hw2 : IntKind.i64.wrap (((j + 1 : Nat) : Int) - 1) = (j : Int) := by rw [IntKind.wrap_i64]; omega
          clear HD HF2 HF1
          go_wp2_with fail
          go_quiet (fail)
          go_wp2_with fail
          go_roundw
          case rel => exact ⟨j, _, by omega, rfl, rfl, hE2.out⟩
          case measure => simp [intOf]
        · have hk1 : k = 0 := by omega
          subst hk1
          have HP := HF2 rfl rfl
          clear HD HF2 HF1
          go_wp2_with fail
          go_quiet (fail)
          go_wp2_with fail
          go_quiet (fail)
          go_wp2_with fail
          go_quiet (fail)
          go_wp2
          go_ret
          simp only [drewN_drewN]; exact HP.out _

theorem cmp_own {xv yv : Value} {xo yo : Option Nat} {xs ys : List Nat} {w : World} (hx : Own w xv xo xs) (hy : Own w yv yo ys) (wX : Wd xs) (wY : Wd ys) (nX : Nz xs) (nY : Nz ys) :
    Calls Tryz.prog 57 #[xv, yv] w (Drew w (.int .i64 (cmpW (vl xs) (vl ys)))) := by
  have l1 := hx.length_le
  have l2 := hy.length_le
  by_cases hl : xs.length = ys.length
  · by_cases h0 : xs = []
    · subst h0
      have : ys = [] := by cases ys with | nil => rfl | cons a t => simp at hl
      subst this
      obtain ⟨a, c, h1⟩ := hx.slice
      obtain ⟨a', c', h1'⟩ := hy.slice
      rw [cmpW_eq]
      exact cmpNat_zero xv yv a a' c c' w h1 h1'
    · have h0' : ys ≠ [] := by intro h; rw [h] at hl; simp at hl; exact h0 hl
      have hp : 0 < xs.length := by cases xs with | nil => exact absurd rfl h0 | cons a t => simp
      obtain ⟨bx, X, _, rfl, hX, htX, hlX, hcX⟩ := hx.block h0
      obtain ⟨by_, Y, _, rfl, hY, htY, hlY, hcY⟩ := hy.block h0'
      rw [← hl]
      exact cmpNat_same bx X.length by_ Y.length xs.length xs ys w (hX.row_take htX) (hY.row_take htY) wX wY (by omega) (by omega) (by omega) (by omega) l1 hp hlX (by omega)
  · obtain ⟨a, c, h1⟩ := hx.slice
    obtain ⟨a', c', h1'⟩ := hy.slice
    refine cmpNat_diff xv yv a a' xs.length ys.length c c' _ w h1 h1' ?_ l1 l2
    rcases Nat.lt_or_gt_of_ne hl with h | h
    · exact .inl ⟨h, cmpW_lt (vl_lt_of_length wX nY h)⟩
    · exact .inr ⟨h, cmpW_gt (vl_lt_of_length wY nX h)⟩
end Go.Proofs.YtpmggjplfcjkkaaGreatDoor

/- mulAddWW, add, sub of nats. -/
set_option linter.unusedVariables false
set_option linter.unusedSimpArgs false
namespace Go.Proofs.YtpmggjplfcjkkaaGreatDoor
open Go.RowKit Nq

/-- The last norm of an operation, in the block that make gave. -/
theorem norm_fin {w w1 w2 : World} {zo : Option Nat} {b n c : Nat} {Z zs : List Nat} (h1 : Fr [] w w1) (hl : Later w zo (some b)) (h2 : Fr [b] w1 w2) (hZ : Blk w2 b (spl Z 0 zs)) (hn : zs.length = n) (hc : Z.length = c) (hnc : n ≤ Z.length) (h0 : 0 < Z.length) (hm : Z.length ≤ 100000) (hw : Wd zs) :
    Calls Tryz.prog 98 #[.slice (some ⟨b, 0, none⟩) n c] w2 (NatPost w zo (vl zs)) := by
  have e := spl_length Z 0 zs (by omega)
  have h := norm_own (n := n) hZ (spl_zero_take Z zs) hn (by omega) (by omega) (by omega) hw
  rw [e, hc] at h
  refine h.mono ?_
  rintro e w' ⟨rfl, v, rfl, k1, k2, k3, k4⟩
  exact ⟨v, some b, nrm zs, rfl, k1, k2, k3, k4, h1.made hl h2, hl⟩

set_option maxRecDepth 100000 in
set_option maxHeartbeats 400000 in
theorem mulAddWW_main {zv : Value} {zo : Option Nat} {zs : List Nat} {xv : Value} {xo : Option Nat} {xs : List Nat} {y r : Nat} {w : World} (hz : Own w zv zo zs) (hx : Own w xv xo xs) (wX : Wd xs) (hne : xs ≠ []) (hl : xs.length ≤ 80000)
    (hy : y < Bw) (hr : r < Bw) (hy0 : y ≠ 0) : Calls Tryz.prog 94 #[zv, xv, .int .u64 (y : Int), .int .u64 (r : Int)] w (NatPost w zo (vl xs * y + r)) := by
  have h0 : 0 < xs.length := by cases xs with | nil => exact absurd rfl hne | cons a t => simp
  have hcall : Calls Tryz.prog 96 #[zv, .int .i64 ((xs.length : Int) + 1)] w (MakePost w zo (xs.length + 1)) := by
    have := make_own (n := xs.length + 1) hz (by omega) (by omega)
    simpa using this
  obtain ⟨za, zc, hzv⟩ := hz.slice
  obtain ⟨bx, X, hxo, rfl, hX, htX, hlX, hcX⟩ := hx.block hne
  have hRX := hX.row_take htX
  have hmul : ∀ (bz : Nat) (Z : List Nat) (c : Nat) (w1 : World), Z.length = c → Blk w1 bz Z → xs.length + 1 ≤ Z.length → Fr [] w w1 → Calls Tryz.prog 146 #[.slice (some ⟨bz, 0, none⟩) xs.length c, .slice (some ⟨bx, 0, none⟩) xs.length X.length, .int .u64 y, .int .u64 r] w1 (MulAddPost w1 bz 0 Z xs y r) :=
    fun bz Z c w1 hc hZ h1 hf => mulAddVWW bz 0 c bx 0 X.length xs.length Z xs y r w1 hZ (hRX.fr hf (by simp)) wX (by omega) (by omega) (by omega) (by omega) (fun _ => .inl (by omega)) hr hy
  have hset : ∀ (bz : Nat) (Z : List Nat) (c : Nat) (w1 w2 : World) (e : Ending), Z.length = c → Blk w1 bz Z → xs.length + 1 ≤ Z.length → Z.length ≤ 100000 → Fr [] w w1 → Later w zo (some bz) → MulAddPost w1 bz 0 Z xs y r e w2 →
      ∃ d : Nat, e = .returned (.int .u64 (d : Int)) ∧ (∃ v, w2.cell? ⟨bz, xs.length, none⟩ = some v) ∧ w2.frozen? ⟨bz, xs.length, none⟩ = false ∧ Calls Tryz.prog 98 #[.slice (some ⟨bz, 0, none⟩) (xs.length + 1) c] (w2.setCell ⟨bz, xs.length, none⟩ (.int .u64 (d : Int))) (NatPost w zo (vl xs * y + r)) := by
    rintro bz Z c w1 w2 e hc hZ h1 h3 h4 h5 ⟨d, zs, rfl, hd, hU, hE⟩
    have hb := hU.blk
    have hlz := hU.len
    refine ⟨d, rfl, ⟨_, hb.cell xs.length (by rw [spl_length _ _ _ (by omega)]; omega)⟩, hb.frozen _, ?_⟩
    have hs := hb.set xs.length d
    have e1 := spl_snoc Z 0 zs d (by omega)
    rw [Nat.zero_add, hlz] at e1
    rw [e1] at hs
    have := norm_fin (n := xs.length + 1) h4 h5 (hU.fr.set (c := bz) (.inl (by simp)) xs.length (.int .u64 (d : Int))) hs (by simp; omega) hc (by omega) (by omega) h3 (hU.wd.append (Wd.one hd))
    rw [vl_snoc, hlz, hE] at this
    exact this
  rw [hzv] at hcall ⊢
  have hd1 : ((xs.length : Int) == 0) = false := by simp; omega
  have hd2 : ((y : Int) == 0) = false := by simp; omega
  generalize hxl : xs.length = n at *
  generalize X.length = cX at *
  generalize vl xs * y + r = val at *
  clear htX hX hx hRX
  go_enter Tryz.func94, Tryz.ntmps94
  go_wp2_with (first | (go_at_call 96; (refine hcall.mono ?_); rintro e w1 ⟨bz, Z, c, rfl, hc, hZ, h1, h2, h3, h4, h5⟩; have hm2 := hmul bz Z c w1 hc hZ h1 h4; have hs2 := fun w2 e => hset bz Z c w1 w2 e hc hZ h1 h3 h4 h5; have hnc : n + 1 ≤ c := (by omega); clear hc hZ hset hmul) | (go_at_call 146; (refine hm2.mono ?_); rintro e w2 hp; obtain ⟨d, rfl, ⟨v0, hv⟩, hfz, hN⟩ := hs2 w2 e hp; clear hs2) | (go_at_call 98; (refine hN.mono ?_); rintro e w3 ⟨v, o, ws, rfl, hp⟩; have HP : Hid (NatPost w zo val (.returned v) w3) := Lib.hid ⟨v, o, ws, rfl, hp⟩))
  go_ret
  exact HP.out

set_option maxRecDepth 100000 in
set_option maxHeartbeats 400000 in
theorem mulAddWW_own {zv : Value} {zo : Option Nat} {zs : List Nat} {xv : Value} {xo : Option Nat} {xs : List Nat} {y r : Nat} {w : World} (hz : Own w zv zo zs) (hx : Own w xv xo xs) (wX : Wd xs) (hl : xs.length ≤ 80000)
    (hy : y < Bw) (hr : r < Bw) : Calls Tryz.prog 94 #[zv, xv, .int .u64 (y : Int), .int .u64 (r : Int)] w (NatPost w zo (vl xs * y + r)) := by
  have hcall : Calls Tryz.prog 70 #[zv, .int .u64 (r : Int)] w (NatPost w zo r) := setWord hz hr
  obtain ⟨za, zc, hzv⟩ := hz.slice
  obtain ⟨xa, xc, hxv⟩ := hx.slice
  by_cases h0 : xs = []
  · subst h0
    rw [show vl [] * y + r = r by simp [vl]]
    subst hxv
    subst hzv
    clear hx hz hl wX
    rw [List.length_nil]
    go_enter Tryz.func94, Tryz.ntmps94
    go_wp2_with (go_at_call 70; (refine hcall.mono ?_); rintro e w3 ⟨v, o, ws, rfl, hp⟩; have HP : Hid (NatPost w zo r (.returned v) w3) := Lib.hid ⟨v, o, ws, rfl, hp⟩)
    go_ret
    exact HP.out
  · by_cases hy0 : y = 0
    · subst hy0
      rw [show vl xs * 0 + r = r by simp]
      have hp0 : 0 < xs.length := by cases xs with | nil => exact absurd rfl h0 | cons a t => simp
      have hd1 : ((xs.length : Int) == 0) = false := by simp; omega
      subst hxv
      subst hzv
      clear hx hz wX h0
      generalize xs.length = n at *
      go_enter Tryz.func94, Tryz.ntmps94
      go_wp2_with (go_at_call 70; (refine hcall.mono ?_); rintro e w3 ⟨v, o, ws, rfl, hp⟩; have HP : Hid (NatPost w zo r (.returned v) w3) := Lib.hid ⟨v, o, ws, rfl, hp⟩)
      go_ret
      exact HP.out
    · exact mulAddWW_main hz hx wX h0 hl hy hr hy0

/-! ### add -/
theorem Row.of_blk_eq {w : World} {b o : Nat} {Z xs : List Nat} (hR : Row w b o xs) (hZ : Blk w b Z) (hl : o + xs.length ≤ Z.length) : (Z.drop o).take xs.length = xs := by
  apply List.ext_getElem
  · simp; omega
  · intro j h1 h2
    have h := hR j h2
    rw [hZ.cell (o + j) (by omega)] at h
    injection h with h
    injection h with _ h
    have h' : Z.getD (o + j) 0 = xs.getD j 0 := Int.ofNat.inj h
    rw [List.getElem_take, List.getElem_drop]
    have h3 : o + j < Z.length := by omega
    simpa [List.getD_eq_getElem?_getD, h2, h3] using h'

theorem spl_drop {Z zs : List Nat} {n : Nat} (hn : zs.length = n) (hl : n ≤ Z.length) : (spl Z 0 zs).drop n = Z.drop n := by
  subst hn; simp [spl]
theorem spl_spl {Z zs ys : List Nat} {n : Nat} (hn : zs.length = n) (hl : n + ys.length ≤ Z.length) : spl (spl Z 0 zs) n ys = spl Z 0 (zs ++ ys) := by
  subst hn
  simp only [spl, List.take_zero, List.nil_append, Nat.zero_add, List.length_append]
  rw [List.take_append_of_le_length (Nat.le_refl _), List.take_length, List.drop_append, List.drop_of_length_le (by omega)]
  simp [List.drop_drop, List.append_assoc]

/-- What lies behind the first words stays. -/
theorem Row.behind {w w' : World} {bz bx n : Nat} {Z zs xs : List Nat} (hR : Row w bx n xs) (hZ : Blk w bz Z) (hZ' : Blk w' bz (spl Z 0 zs)) (hf : Fr [bz] w w') (hn : zs.length = n) (hl : bx = bz → n + xs.length ≤ Z.length) (hlz : n ≤ Z.length) : Row w' bx n xs := by
  by_cases hb : bx = bz
  · subst hb
    have h1 := hR.of_blk_eq hZ (hl rfl)
    have h2 := hZ'.row n xs.length
    rw [spl_drop hn hlz, h1] at h2
    exact h2
  · exact hR.fr hf (by simpa using hb)

theorem addVW_any (bz cz bx cx o n : Nat) (Z X xs : List Nat) (y : Nat) (w : World) (hZ : Blk w bz Z) (hR : Row w bx o xs) (hBX : Blk w bx X) (wX : Wd xs)
    (hl : xs.length = n) (hz : o + n ≤ Z.length) (hn : n ≤ 1000000) (hn0 : 0 < n) (hcz : n ≤ cz) (hcx : n ≤ cx) (hy : y < Bw) :
    Calls Tryz.prog 156 #[.slice (some ⟨bz, o, none⟩) n cz, .slice (some ⟨bx, o, none⟩) n cx, .int .u64 y] w (AddWPost w bz o Z xs y) := by
  by_cases hb : bx = bz
  · subst hb
    exact addVW_same bx o cz cx n Z xs y w hZ (hR.of_blk_eq hZ (by omega)) wX (by omega) (by omega) hz hn hn0 hcz hcx hy
  · exact addVW_apart bz o cz bx o cx n Z X xs y w hZ hR hBX wX (by omega) (by omega) hz hn hn0 hcz hcx hb hy
theorem subVW_any (bz cz bx cx o n : Nat) (Z X xs : List Nat) (y : Nat) (w : World) (hZ : Blk w bz Z) (hR : Row w bx o xs) (hBX : Blk w bx X) (wX : Wd xs)
    (hl : xs.length = n) (hz : o + n ≤ Z.length) (hn : n ≤ 1000000) (hn0 : 0 < n) (hcz : n ≤ cz) (hcx : n ≤ cx) (hy : y < Bw) :
    Calls Tryz.prog 211 #[.slice (some ⟨bz, o, none⟩) n cz, .slice (some ⟨bx, o, none⟩) n cx, .int .u64 y] w (SubWPost w bz o Z xs y) := by
  by_cases hb : bx = bz
  · subst hb
    exact subVW_same bx o cz cx n Z xs y w hZ (hR.of_blk_eq hZ (by omega)) wX (by omega) (by omega) hz hn hn0 hcz hcx hy
  · exact subVW_apart bz o cz bx o cx n Z X xs y w hZ hR hBX wX (by omega) (by omega) hz hn hn0 hcz hcx hb hy

theorem add_value {zs1 zs2 xs ys : List Nat} {n m c1 c2 : Nat} (h1 : vl zs1 + Bw ^ n * c1 = vl (xs.take n) + vl ys) (h2 : vl zs2 + Bw ^ (m - n) * c2 = vl (xs.drop n) + c1) (l1 : zs1.length = n) (l2 : zs2.length = m - n) (hn : n ≤ m) (hx : xs.length = m) :
    vl (zs1 ++ zs2 ++ [c2]) = vl xs + vl ys := by
  rw [vl_snoc, vl_append, vl_split xs n (by omega), List.length_append, l1, l2, Nat.pow_add]
  generalize Bw ^ n = P at *
  generalize Bw ^ (m - n) = R at *
  grind

set_option maxRecDepth 100000 in
set_option maxHeartbeats 1000000 in
theorem add_same {zv : Value} {zo : Option Nat} {zs : List Nat} {xo yo : Option Nat} {bx by_ m : Nat} {X Y xs ys : List Nat} {w : World} (hz : Own w zv zo zs) (hX : Blk w bx X) (hY : Blk w by_ Y) (htX : X.take xs.length = xs) (htY : Y.take ys.length = ys)
    (wX : Wd xs) (wY : Wd ys) (hm : xs.length = m) (hn : ys.length = m) (h0 : 0 < m) (hl : m ≤ 80000) (hcX : m ≤ X.length) (hcY : m ≤ Y.length) :
    Calls Tryz.prog 179 #[zv, .slice (some ⟨bx, 0, none⟩) m X.length, .slice (some ⟨by_, 0, none⟩) m Y.length] w (NatPost w zo (vl xs + vl ys)) := by
  have hcall : Calls Tryz.prog 96 #[zv, .int .i64 ((m : Int) + 1)] w (MakePost w zo (m + 1)) := by
    have := make_own (n := m + 1) hz (by omega) (by omega)
    simpa using this
  obtain ⟨za, zc, hzv⟩ := hz.slice
  have hRX := hX.row_take htX
  have hRY := hY.row_take htY
  have hadd : ∀ (bz : Nat) (Z : List Nat) (c : Nat) (w1 : World), Z.length = c → Blk w1 bz Z → m + 1 ≤ Z.length → Fr [] w w1 →
      Calls Tryz.prog 155 #[.slice (some ⟨bz, 0, none⟩) m c, .slice (some ⟨bx, 0, none⟩) m X.length, .slice (some ⟨by_, 0, none⟩) m Y.length] w1.drew (AddPost w1.drew bz 0 Z xs ys) :=
    fun bz Z c w1 hc hZ h1 hf => addVV bz 0 c bx 0 X.length by_ 0 Y.length m Z xs ys w1.drew hZ.drew (hRX.fr hf (by simp)).drew wX (hRY.fr hf (by simp)).drew wY (by omega) (by omega) (by omega) (by omega) (by omega) (by omega) (fun _ => .inl (by omega)) (fun _ => .inl (by omega))
  have hset : ∀ (bz : Nat) (Z : List Nat) (c : Nat) (w1 w2 : World) (e : Ending), Z.length = c → Blk w1 bz Z → m + 1 ≤ Z.length → Z.length ≤ 100000 → Fr [] w w1 → Later w zo (some bz) → AddPost w1.drew bz 0 Z xs ys e w2 →
      ∃ d : Nat, e = .returned (.int .u64 (d : Int)) ∧ (∃ v, w2.cell? ⟨bz, m, none⟩ = some v) ∧ w2.frozen? ⟨bz, m, none⟩ = false ∧ Calls Tryz.prog 98 #[.slice (some ⟨bz, 0, none⟩) (m + 1) c] (w2.setCell ⟨bz, m, none⟩ (.int .u64 (d : Int))) (NatPost w zo (vl xs + vl ys)) := by
    rintro bz Z c w1 w2 e hc hZ h1 h3 h4 h5 ⟨d, zs, rfl, hd, hU, hE⟩
    have hb := hU.blk
    have hlz := hU.len
    refine ⟨d, rfl, ⟨_, hb.cell m (by rw [spl_length _ _ _ (by omega)]; omega)⟩, hb.frozen _, ?_⟩
    have hs := hb.set m d
    have e1 := spl_snoc Z 0 zs d (by omega)
    rw [Nat.zero_add, hlz, hm] at e1
    rw [e1] at hs
    have := norm_fin (n := m + 1) (h4.drewN 1) h5 (hU.fr.set (c := bz) (.inl (by simp)) m (.int .u64 (d : Int))) hs (by simp; omega) hc (by omega) (by omega) h3 (hU.wd.append (Wd.one (by have := Bw_eq; omega)))
    rw [vl_snoc, hlz, hE] at this
    exact this
  subst hzv
  generalize hxl : X.length = cX at *
  generalize hyl : Y.length = cY at *
  generalize zs.length = zl at *
  generalize vl xs + vl ys = val at *
  clear htX hX hRX htY hY hRY hz hm hn hxl hyl
  go_enter Tryz.func179, Tryz.ntmps179
  go_wp2_with (first | (go_at_call 96; (refine hcall.mono ?_); rintro e w1 ⟨bz, Z, c, rfl, hc, hZ, h1, h2, h3, h4, h5⟩; have hm2 := hadd bz Z c w1 hc hZ h1 h4; have hs2 := fun w2 e => hset bz Z c w1 w2 e hc hZ h1 h3 h4 h5; have hnc : m ≤ c := (by omega); clear hc hZ hset hadd h1 h2 h3 h4 h5))
  go_still_tail 9, (by kernel_rfl)
  change wpList _ _ _ _ _ w1.drew
  generalize w1.drew = w4 at *
  go_wp2_with (first | (go_at_call 155; (refine hm2.mono ?_); rintro e w2 hp; obtain ⟨d, rfl, ⟨v0, hv⟩, hfz, hN⟩ := hs2 w2 e hp; clear hs2) | (go_at_call 98; (refine hN.mono ?_); rintro e w3 ⟨v, o, ws, rfl, hp⟩; have HP : Hid (NatPost w zo val (.returned v) w3) := Lib.hid ⟨v, o, ws, rfl, hp⟩))
  go_ret
  exact HP.out

set_option maxRecDepth 100000 in
set_option maxHeartbeats 1000000 in
theorem add_more {zv : Value} {zo : Option Nat} {zs : List Nat} {bx by_ m n : Nat} {X Y xs ys : List Nat} {w : World} (hz : Own w zv zo zs) (hX : Blk w bx X) (hY : Blk w by_ Y) (htX : X.take xs.length = xs) (htY : Y.take ys.length = ys)
    (wX : Wd xs) (wY : Wd ys) (hm : xs.length = m) (hn : ys.length = n) (h0 : 0 < n) (hnm : n < m) (hl : m ≤ 80000) (hcX : m ≤ X.length) (hcY : n ≤ Y.length) :
    Calls Tryz.prog 179 #[zv, .slice (some ⟨bx, 0, none⟩) m X.length, .slice (some ⟨by_, 0, none⟩) n Y.length] w (NatPost w zo (vl xs + vl ys)) := by
  have hcall : Calls Tryz.prog 96 #[zv, .int .i64 ((m : Int) + 1)] w (MakePost w zo (m + 1)) := by
    have := make_own (n := m + 1) hz (by omega) (by omega)
    simpa using this
  obtain ⟨za, zc, hzv⟩ := hz.slice
  have hRX := hX.row_take htX
  have hRY := hY.row_take htY
  have hRX2 : Row w bx n (xs.drop n) := by have := hRX.drop n; rwa [Nat.zero_add] at this
  have hadd : ∀ (bz : Nat) (Z : List Nat) (c : Nat) (w1 : World), Z.length = c → Blk w1 bz Z → m + 1 ≤ Z.length → Fr [] w w1 →
      Calls Tryz.prog 155 #[.slice (some ⟨bz, 0, none⟩) n c, .slice (some ⟨bx, 0, none⟩) n X.length, .slice (some ⟨by_, 0, none⟩) n Y.length] w1.drew (AddPost w1.drew bz 0 Z (xs.take n) ys) :=
    fun bz Z c w1 hc hZ h1 hf => addVV bz 0 c bx 0 X.length by_ 0 Y.length n Z (xs.take n) ys w1.drew hZ.drew ((hRX.take n).fr hf (by simp)).drew (wX.take n) (hRY.fr hf (by simp)).drew wY (by simp; omega) (by simp; omega) (by omega) (by omega) (by omega) (by omega) (fun _ => .inl (by omega)) (fun _ => .inl (by omega))
  have hset : ∀ (bz : Nat) (Z : List Nat) (c : Nat) (w1 w2 : World) (e : Ending), Z.length = c → Blk w1 bz Z → m + 1 ≤ Z.length → Z.length ≤ 100000 → Fr [] w w1 → Later w zo (some bz) → AddPost w1.drew bz 0 Z (xs.take n) ys e w2 →
      ∃ d : Nat, e = .returned (.int .u64 (d : Int)) ∧ ∃ Q : Ending → World → Prop,
        Calls Tryz.prog 156 #[.slice (some ⟨bz, n, none⟩) (m - n) (c - n), .slice (some ⟨bx, n, none⟩) (m - n) (X.length - n), .int .u64 (d : Int)] w2.drew Q ∧
        ∀ e' w3, Q e' w3 → ∃ d2 : Nat, e' = .returned (.int .u64 (d2 : Int)) ∧ (∃ v, w3.cell? ⟨bz, m, none⟩ = some v) ∧ w3.frozen? ⟨bz, m, none⟩ = false ∧ Calls Tryz.prog 98 #[.slice (some ⟨bz, 0, none⟩) (m + 1) c] (w3.setCell ⟨bz, m, none⟩ (.int .u64 (d2 : Int))) (NatPost w zo (vl xs + vl ys)) := by
    rintro bz Z c w1 w2 e hc hZ h1 h3 h4 h5 ⟨d, zs1, rfl, hd, hU, hE⟩
    have hb := hU.blk
    have hlt : (xs.take n).length = n := by simp; omega
    rw [hlt] at hE hU
    have hlz := hU.len
    have hX1 : Blk w1 bx X := hX.fr h4 (by simp)
    have hR1 : Row w1 bx n (xs.drop n) := hRX2.fr h4 (by simp)
    have hR2 : Row w2 bx n (xs.drop n) := Row.behind hR1.drew hZ.drew hb hU.fr hlz (by intro; simp; omega) (by omega)
    have hX2 : ∃ X', Blk w2 bx X' := by
      by_cases hbb : bx = bz
      · subst hbb; exact ⟨_, hb⟩
      · exact ⟨X, (hX1.drew).fr hU.fr (by simpa using hbb)⟩
    obtain ⟨X', hX2⟩ := hX2
    have hls := spl_length Z 0 zs1 (by omega)
    refine ⟨d, rfl, AddWPost w2.drew bz n (spl Z 0 zs1) (xs.drop n) d, addVW_any bz (c - n) bx (X.length - n) n (m - n) (spl Z 0 zs1) X' (xs.drop n) d w2.drew hb.drew hR2.drew hX2.drew (wX.drop n) (by simp; omega) (by omega) (by omega) (by omega) (by omega) (by omega) (by have := Bw_eq; omega), ?_⟩
    rintro e' w3 ⟨d2, zs2, rfl, hd2, hl2, hw2, hB2, hF2, hE2⟩
    have hld : (xs.drop n).length = m - n := by simp; omega
    rw [hld] at hl2 hE2
    rw [spl_spl hlz (by omega)] at hB2
    have hv := add_value hE hE2 hlz hl2 (by omega) hm
    have hlzz : (zs1 ++ zs2).length = m := by simp; omega
    refine ⟨d2, rfl, ⟨_, hB2.cell m (by rw [spl_length _ _ _ (by omega)]; omega)⟩, hB2.frozen _, ?_⟩
    have hs := hB2.set m d2
    have e1 := spl_snoc Z 0 (zs1 ++ zs2) d2 (by omega)
    rw [Nat.zero_add, hlzz] at e1
    rw [e1] at hs
    have := norm_fin (n := m + 1) ((h4.drewN 1).mono (T := []) (by simp)) h5 (((hU.fr.drewN 1).trans hF2).set (c := bz) (.inl (by simp)) m (.int .u64 (d2 : Int))) hs (by simp; omega) hc (by omega) (by omega) h3 ((hU.wd.append hw2).append (Wd.one (by have := Bw_eq; omega)))
    rw [hv] at this
    exact this
  subst hzv
  generalize hxl : X.length = cX at *
  generalize hyl : Y.length = cY at *
  generalize zs.length = zl at *
  generalize vl xs + vl ys = val at *
  clear htX hX hRX hRX2 htY hY hRY hz hm hn hxl hyl
  have hnX : n ≤ cX := by omega
  have hnX2 : ¬ cX = n := by omega
  go_enter Tryz.func179, Tryz.ntmps179
  go_wp2_with (first | (go_at_call 96; (refine hcall.mono ?_); rintro e w1 ⟨bz, Z, c, rfl, hc, hZ, h1, h2, h3, h4, h5⟩; have hm2 := hadd bz Z c w1 hc hZ h1 h4; have hs2 := fun w2 e => hset bz Z c w1 w2 e hc hZ h1 h3 h4 h5; have hnc : n ≤ c := (by omega); have hmc : m ≤ c := (by omega); have hnc2 : ¬ c = n := (by omega); clear hc hZ hset hadd h1 h2 h3 h4 h5))
  go_still_tail 9, (by kernel_rfl)
  change wpList _ _ _ _ _ w1.drew
  generalize w1.drew = w4 at *
  go_wp2_with (first | (go_at_call 155; (refine hm2.mono ?_); rintro e w2 hp; obtain ⟨d, rfl, Q, hA, hs3⟩ := hs2 w2 e hp; clear hs2))
  have hnm' : n ≤ m := by omega
  go_still_tail 8, (by kernel_rfl)
  change wpList _ _ _ _ _ w2.drew
  generalize w2.drew = w5 at *
  go_wp2_with (first | (go_at_call 156; (refine hA.mono ?_); rintro e w3 hp; obtain ⟨d2, rfl, ⟨v0, hv⟩, hfz, hN⟩ := hs3 e w3 hp; clear hs3) | (go_at_call 98; (refine hN.mono ?_); rintro e w6 ⟨v, o, ws, rfl, hp⟩; have HP : Hid (NatPost w zo val (.returned v) w6) := Lib.hid ⟨v, o, ws, rfl, hp⟩))
  go_ret
  exact HP.out

/-! ### sub -/
theorem sub_value {zs1 zs2 xs ys : List Nat} {n m c1 c2 : Nat} (h1 : vl zs1 + vl ys = vl (xs.take n) + Bw ^ n * c1) (h2 : vl zs2 + c1 = vl (xs.drop n) + Bw ^ (m - n) * c2) (l1 : zs1.length = n) (l2 : zs2.length = m - n) (hn : n ≤ m) (hx : xs.length = m) :
    vl (zs1 ++ zs2) + vl ys = vl xs + Bw ^ m * c2 := by
  have e : Bw ^ m = Bw ^ n * Bw ^ (m - n) := by rw [← Nat.pow_add]; congr 1; omega
  rw [vl_append, vl_split xs n (by omega), l1, e]
  generalize Bw ^ n = P at *
  generalize Bw ^ (m - n) = R at *
  grind
theorem sub_end {zs xs ys : List Nat} {m c : Nat} (h : vl zs + vl ys = vl xs + Bw ^ m * c) (hl : zs.length = m) (hw : Wd zs) (hle : vl ys ≤ vl xs) : c = 0 ∧ vl zs = vl xs - vl ys := by
  have h1 := vl_lt hw
  rw [hl] at h1
  by_cases hc : c = 0
  · subst hc
    rw [Nat.mul_zero] at h
    exact ⟨rfl, by omega⟩
  · have h2 : Bw ^ m * 1 ≤ Bw ^ m * c := Nat.mul_le_mul_left _ (by omega)
    omega

set_option maxRecDepth 100000 in
set_option maxHeartbeats 1000000 in
theorem sub_same {zv : Value} {zo : Option Nat} {zs : List Nat} {bx by_ m : Nat} {X Y xs ys : List Nat} {w : World} (hz : Own w zv zo zs) (hX : Blk w bx X) (hY : Blk w by_ Y) (htX : X.take xs.length = xs) (htY : Y.take ys.length = ys)
    (wX : Wd xs) (wY : Wd ys) (hm : xs.length = m) (hn : ys.length = m) (h0 : 0 < m) (hl : m ≤ 80000) (hcX : m ≤ X.length) (hcY : m ≤ Y.length) (hle : vl ys ≤ vl xs) :
    Calls Tryz.prog 174 #[zv, .slice (some ⟨bx, 0, none⟩) m X.length, .slice (some ⟨by_, 0, none⟩) m Y.length] w (NatPost w zo (vl xs - vl ys)) := by
  have hcall : Calls Tryz.prog 96 #[zv, .int .i64 (m : Int)] w (MakePost w zo m) := make_own hz (by omega) (by omega)
  obtain ⟨za, zc, hzv⟩ := hz.slice
  have hRX := hX.row_take htX
  have hRY := hY.row_take htY
  have hadd : ∀ (bz : Nat) (Z : List Nat) (c : Nat) (w1 : World), Z.length = c → Blk w1 bz Z → m ≤ Z.length → Fr [] w w1 →
      Calls Tryz.prog 210 #[.slice (some ⟨bz, 0, none⟩) m c, .slice (some ⟨bx, 0, none⟩) m X.length, .slice (some ⟨by_, 0, none⟩) m Y.length] w1.drew (SubPost w1.drew bz 0 Z xs ys) :=
    fun bz Z c w1 hc hZ h1 hf => subVV bz 0 c bx 0 X.length by_ 0 Y.length m Z xs ys w1.drew hZ.drew (hRX.fr hf (by simp)).drew wX (hRY.fr hf (by simp)).drew wY (by omega) (by omega) (by omega) (by omega) (by omega) (by omega) (fun _ => .inl (by omega)) (fun _ => .inl (by omega))
  have hset : ∀ (bz : Nat) (Z : List Nat) (c : Nat) (w1 w2 : World) (e : Ending), Z.length = c → Blk w1 bz Z → m ≤ Z.length → 0 < Z.length → Z.length ≤ 100000 → Fr [] w w1 → Later w zo (some bz) → SubPost w1.drew bz 0 Z xs ys e w2 →
      e = .returned (.int .u64 0) ∧ Calls Tryz.prog 98 #[.slice (some ⟨bz, 0, none⟩) m c] w2 (NatPost w zo (vl xs - vl ys)) := by
    rintro bz Z c w1 w2 e hc hZ h1 h2 h3 h4 h5 ⟨d, zs, rfl, hd, hU, hE⟩
    have hlz := hU.len
    obtain ⟨rfl, hv⟩ := sub_end hE hlz hU.wd hle
    refine ⟨rfl, ?_⟩
    have := norm_fin (n := m) (h4.drewN 1) h5 hU.fr hU.blk (by omega) hc (by omega) h2 h3 hU.wd
    rw [hv] at this
    exact this
  subst hzv
  have hd1 : ((m : Int) == 0) = false := by simp; omega
  generalize hxl : X.length = cX at *
  generalize hyl : Y.length = cY at *
  generalize zs.length = zl at *
  generalize vl xs - vl ys = val at *
  clear htX hX hRX htY hY hRY hz hm hn hxl hyl hle
  go_enter Tryz.func174, Tryz.ntmps174
  go_wp2_with (first | (go_at_call 96; (refine hcall.mono ?_); rintro e w1 ⟨bz, Z, c, rfl, hc, hZ, h1, h2, h3, h4, h5⟩; have hm2 := hadd bz Z c w1 hc hZ h1 h4; have hs2 := fun w2 e => hset bz Z c w1 w2 e hc hZ h1 h2 h3 h4 h5; have hnc : m ≤ c := (by omega); clear hc hZ hset hadd h1 h2 h3 h4 h5))
  go_still_tail 9, (by kernel_rfl)
  change wpList _ _ _ _ _ w1.drew
  generalize w1.drew = w4 at *
  go_wp2_with (first | (go_at_call 210; (refine hm2.mono ?_); rintro e w2 hp; obtain ⟨rfl, hN⟩ := hs2 w2 e hp; clear hs2) | (go_at_call 98; (refine hN.mono ?_); rintro e w3 ⟨v, o, ws, rfl, hp⟩; have HP : Hid (NatPost w zo val (.returned v) w3) := Lib.hid ⟨v, o, ws, rfl, hp⟩))
  go_ret
  exact HP.out

set_option maxRecDepth 100000 in
set_option maxHeartbeats 1000000 in
theorem sub_more {zv : Value} {zo : Option Nat} {zs : List Nat} {bx by_ m n : Nat} {X Y xs ys : List Nat} {w : World} (hz : Own w zv zo zs) (hX : Blk w bx X) (hY : Blk w by_ Y) (htX : X.take xs.length = xs) (htY : Y.take ys.length = ys)
    (wX : Wd xs) (wY : Wd ys) (hm : xs.length = m) (hn : ys.length = n) (h0 : 0 < n) (hnm : n < m) (hl : m ≤ 80000) (hcX : m ≤ X.length) (hcY : n ≤ Y.length) (hle : vl ys ≤ vl xs) :
    Calls Tryz.prog 174 #[zv, .slice (some ⟨bx, 0, none⟩) m X.length, .slice (some ⟨by_, 0, none⟩) n Y.length] w (NatPost w zo (vl xs - vl ys)) := by
  have hcall : Calls Tryz.prog 96 #[zv, .int .i64 (m : Int)] w (MakePost w zo m) := make_own hz (by omega) (by omega)
  obtain ⟨za, zc, hzv⟩ := hz.slice
  have hRX := hX.row_take htX
  have hRY := hY.row_take htY
  have hRX2 : Row w bx n (xs.drop n) := by have := hRX.drop n; rwa [Nat.zero_add] at this
  have hadd : ∀ (bz : Nat) (Z : List Nat) (c : Nat) (w1 : World), Z.length = c → Blk w1 bz Z → m ≤ Z.length → Fr [] w w1 →
      Calls Tryz.prog 210 #[.slice (some ⟨bz, 0, none⟩) n c, .slice (some ⟨bx, 0, none⟩) n X.length, .slice (some ⟨by_, 0, none⟩) n Y.length] w1.drew (SubPost w1.drew bz 0 Z (xs.take n) ys) :=
    fun bz Z c w1 hc hZ h1 hf => subVV bz 0 c bx 0 X.length by_ 0 Y.length n Z (xs.take n) ys w1.drew hZ.drew ((hRX.take n).fr hf (by simp)).drew (wX.take n) (hRY.fr hf (by simp)).drew wY (by simp; omega) (by simp; omega) (by omega) (by omega) (by omega) (by omega) (fun _ => .inl (by omega)) (fun _ => .inl (by omega))
  have hset : ∀ (bz : Nat) (Z : List Nat) (c : Nat) (w1 w2 : World) (e : Ending), Z.length = c → Blk w1 bz Z → m ≤ Z.length → Z.length ≤ 100000 → Fr [] w w1 → Later w zo (some bz) → SubPost w1.drew bz 0 Z (xs.take n) ys e w2 →
      ∃ d : Nat, e = .returned (.int .u64 (d : Int)) ∧ ∃ Q : Ending → World → Prop,
        Calls Tryz.prog 211 #[.slice (some ⟨bz, n, none⟩) (m - n) (c - n), .slice (some ⟨bx, n, none⟩) (m - n) (X.length - n), .int .u64 (d : Int)] w2.drew Q ∧
        ∀ e' w3, Q e' w3 → e' = .returned (.int .u64 0) ∧ Calls Tryz.prog 98 #[.slice (some ⟨bz, 0, none⟩) m c] w3 (NatPost w zo (vl xs - vl ys)) := by
    rintro bz Z c w1 w2 e hc hZ h1 h3 h4 h5 ⟨d, zs1, rfl, hd, hU, hE⟩
    have hb := hU.blk
    have hlt : (xs.take n).length = n := by simp; omega
    rw [hlt] at hE hU
    have hlz := hU.len
    have hX1 : Blk w1 bx X := hX.fr h4 (by simp)
    have hR1 : Row w1 bx n (xs.drop n) := hRX2.fr h4 (by simp)
    have hR2 : Row w2 bx n (xs.drop n) := Row.behind hR1.drew hZ.drew hb hU.fr hlz (by intro; simp; omega) (by omega)
    have hX2 : ∃ X', Blk w2 bx X' := by
      by_cases hbb : bx = bz
      · subst hbb; exact ⟨_, hb⟩
      · exact ⟨X, (hX1.drew).fr hU.fr (by simpa using hbb)⟩
    obtain ⟨X', hX2⟩ := hX2
    have hls := spl_length Z 0 zs1 (by omega)
    refine ⟨d, rfl, SubWPost w2.drew bz n (spl Z 0 zs1) (xs.drop n) d, subVW_any bz (c - n) bx (X.length - n) n (m - n) (spl Z 0 zs1) X' (xs.drop n) d w2.drew hb.drew hR2.drew hX2.drew (wX.drop n) (by simp; omega) (by omega) (by omega) (by omega) (by omega) (by omega) (by have := Bw_eq; omega), ?_⟩
    rintro e' w3 ⟨d2, zs2, rfl, hd2, hl2, hw2, hB2, hF2, hE2⟩
    have hld : (xs.drop n).length = m - n := by simp; omega
    rw [hld] at hl2 hE2
    rw [spl_spl hlz (by omega)] at hB2
    have hv := sub_value hE hE2 hlz hl2 (by omega) hm
    have hlzz : (zs1 ++ zs2).length = m := by simp; omega
    obtain ⟨rfl, hv2⟩ := sub_end hv hlzz (hU.wd.append hw2) hle
    refine ⟨rfl, ?_⟩
    have := norm_fin (n := m) ((h4.drewN 1).mono (T := []) (by simp)) h5 ((hU.fr.drewN 1).trans hF2) hB2 hlzz hc (by omega) (by omega) h3 (hU.wd.append hw2)
    rw [hv2] at this
    exact this
  subst hzv
  have hd1 : ((m : Int) == 0) = false := by simp; omega
  generalize hxl : X.length = cX at *
  generalize hyl : Y.length = cY at *
  generalize zs.length = zl at *
  generalize vl xs - vl ys = val at *
  clear htX hX hRX hRX2 htY hY hRY hz hm hn hxl hyl hle
  have hnX : n ≤ cX := by omega
  have hnX2 : ¬ cX = n := by omega
  go_enter Tryz.func174, Tryz.ntmps174
  go_wp2_with (first | (go_at_call 96; (refine hcall.mono ?_); rintro e w1 ⟨bz, Z, c, rfl, hc, hZ, h1, h2, h3, h4, h5⟩; have hm2 := hadd bz Z c w1 hc hZ h1 h4; have hs2 := fun w2 e => hset bz Z c w1 w2 e hc hZ h1 h3 h4 h5; have hnc : n ≤ c := (by omega); have hmc : m ≤ c := (by omega); have hnc2 : ¬ c = n := (by omega); clear hc hZ hset hadd h1 h2 h3 h4 h5))
  go_still_tail 9, (by kernel_rfl)
  change wpList _ _ _ _ _ w1.drew
  generalize w1.drew = w4 at *
  go_wp2_with (first | (go_at_call 210; (refine hm2.mono ?_); rintro e w2 hp; obtain ⟨d, rfl, Q, hA, hs3⟩ := hs2 w2 e hp; clear hs2))
  have hnm' : n ≤ m := by omega
  go_still_tail 7, (by kernel_rfl)
  change wpList _ _ _ _ _ w2.drew
  generalize w2.drew = w5 at *
  go_wp2_with (first | (go_at_call 211; (refine hA.mono ?_); rintro e w3 hp; obtain ⟨rfl, hN⟩ := hs3 e w3 hp; clear hs3) | (go_at_call 98; (refine hN.mono ?_); rintro e w6 ⟨v, o, ws, rfl, hp⟩; have HP : Hid (NatPost w zo val (.returned v) w6) := Lib.hid ⟨v, o, ws, rfl, hp⟩))
  go_ret
  exact HP.out
end Go.Proofs.YtpmggjplfcjkkaaGreatDoor

/- Sums and differences of nats, by their values. -/
set_option linter.unusedVariables false
set_option linter.unusedSimpArgs false
namespace Go.Proofs.YtpmggjplfcjkkaaGreatDoor
open Go.RowKit Nq

/-- The value v is the natural number n. -/
def IsN (w : World) (v : Value) (o : Option Nat) (n : Nat) : Prop := ∃ ws, Own w v o ws ∧ Wd ws ∧ Nz ws ∧ vl ws = n
theorem IsN.own {w : World} {v : Value} {o : Option Nat} {n : Nat} (h : IsN w v o n) : ∃ ws, Own w v o ws := let ⟨ws, h, _⟩ := h; ⟨ws, h⟩
theorem IsN.fr {S : List Nat} {w w' : World} {v : Value} {o : Option Nat} {n : Nat} (h : IsN w v o n) (hf : Fr S w w') (hb : ∀ b, o = some b → b ∉ S) : IsN w' v o n := let ⟨ws, h, k⟩ := h; ⟨ws, h.fr hf hb, k⟩
theorem IsN.drewN {w : World} {v : Value} {o : Option Nat} {n : Nat} (h : IsN w v o n) (k : Nat) : IsN (w.drewN k) v o n := h
theorem IsN.nil (w : World) : IsN w (.slice none 0 0) none 0 := ⟨[], Own.nil w, Wd.nil, Nz.nil, rfl⟩
theorem IsN.lt {w : World} {v : Value} {o : Option Nat} {n : Nat} (h : IsN w v o n) {b : Nat} (hb : o = some b) : b < w.heap.size := let ⟨ws, h, _⟩ := h; h.lt hb
theorem IsN.slice {w : World} {v : Value} {o : Option Nat} {n : Nat} (h : IsN w v o n) : ∃ a l c, v = .slice a l c := let ⟨ws, h, _⟩ := h; let ⟨a, c, e⟩ := h.slice; ⟨a, _, c, e⟩
theorem NatPost.isN {w : World} {zo : Option Nat} {val : Nat} {e : Ending} {w' : World} (h : NatPost w zo val e w') : ∃ v o, e = .returned v ∧ IsN w' v o val ∧ Fr zo.toList w w' ∧ Later w zo o :=
  let ⟨v, o, ws, h1, h2, h3, h4, h5, h6, h7⟩ := h; ⟨v, o, h1, ⟨ws, h2, h3, h4, h5⟩, h6, h7⟩
theorem NatPost.of {w : World} {zo o : Option Nat} {val : Nat} {v : Value} {w' : World} (h : IsN w' v o val) (hf : Fr zo.toList w w') (hl : Later w zo o) : NatPost w zo val (.returned v) w' :=
  let ⟨ws, h2, h3, h4, h5⟩ := h; ⟨v, o, ws, rfl, h2, h3, h4, h5, hf, hl⟩
/-- z[:0] -/
theorem Own.zero {w : World} {b n : Nat} {ws : List Nat} {c : Nat} (h : Own w (.slice (some ⟨b, 0, none⟩) n c) (some b) ws) : NatPost w (some b) 0 (.returned (.slice (some ⟨b, 0, none⟩) 0 c)) w := by
  obtain ⟨Z, h1, h2, h3, h4, h5, h6⟩ := h.some_blk
  injection h1 with _ _ h1
  subst h1
  exact ⟨_, some b, [], rfl, Own.of_blk (ws := []) h2 rfl rfl (by simp) h5 h6, Wd.nil, Nz.nil, rfl, Fr.refl _ _, Later.refl _ _⟩
theorem Own.cases {w : World} {v : Value} {o : Option Nat} {ws : List Nat} (h : Own w v o ws) : (v = .slice none 0 0 ∧ o = none ∧ ws = []) ∨ ∃ b c, v = .slice (some ⟨b, 0, none⟩) ws.length c ∧ o = some b ∧ ws.length ≤ c ∧ 0 < c := by
  rcases h with h | ⟨b, Z, h1, h2, h3, h4, h5, h6, h7⟩
  · exact .inl h
  · exact .inr ⟨b, _, h2, h1, h5, h6⟩
theorem pos_of_ne {l : List Nat} (h : l ≠ []) : 0 < l.length := by cases l with | nil => exact absurd rfl h | cons a t => simp

set_option maxRecDepth 100000 in
set_option maxHeartbeats 400000 in
theorem add_ge {zv : Value} {zo : Option Nat} {zs : List Nat} {xv yv : Value} {xo yo : Option Nat} {xs ys : List Nat} {w : World} (hz : Own w zv zo zs) (hx : Own w xv xo xs) (hy : Own w yv yo ys)
    (wX : Wd xs) (wY : Wd ys) (nX : Nz xs) (hl : xs.length ≤ 80000) (hnm : ys.length ≤ xs.length) : Calls Tryz.prog 179 #[zv, xv, yv] w (NatPost w zo (vl xs + vl ys)) := by
  by_cases hx0 : xs = []
  · subst hx0
    have hy0 : ys = [] := by cases ys with | nil => rfl | cons a t => simp at hnm
    subst hy0
    obtain ⟨xa, xc, rfl⟩ := hx.slice
    obtain ⟨ya, yc, rfl⟩ := hy.slice
    show Calls Tryz.prog 179 #[zv, .slice xa 0 xc, .slice ya 0 yc] w (NatPost w zo 0)
    rcases hz.cases with ⟨rfl, rfl, rfl⟩ | ⟨b, c, rfl, rfl, h1, h2⟩
    · have HP := Lib.hid (NatPost.of (IsN.nil w) (Fr.refl _ _) (Later.refl w none))
      go_enter Tryz.func179, Tryz.ntmps179
      go_wp2
      go_ret
      exact HP.out
    · have HP := Lib.hid hz.zero
      clear hz hx hy hl hnm
      generalize zs.length = zl at *
      go_enter Tryz.func179, Tryz.ntmps179
      go_wp2
      go_ret
      exact HP.out
  · by_cases hy0 : ys = []
    · subst hy0
      have hcall := set_own hz hx wX nX hx0 (by omega)
      have hp := pos_of_ne hx0
      rw [show vl xs + vl [] = vl xs from rfl]
      obtain ⟨xa, xc, rfl⟩ := hx.slice
      obtain ⟨ya, yc, rfl⟩ := hy.slice
      obtain ⟨za, zc, rfl⟩ := hz.slice
      have hd1 : ((xs.length : Int) == 0) = false := by simp; omega
      rw [List.length_nil]
      clear hx hy hz wX wY nX hx0 hnm
      generalize xs.length = n at *
      generalize zs.length = m at *
      generalize vl xs = val at *
      go_enter Tryz.func179, Tryz.ntmps179
      go_wp2_with (first | (go_at_call 93; (refine hcall.mono ?_); rintro e w6 ⟨v, o, ws, rfl, hp⟩; have HP : Hid (NatPost w zo val (.returned v) w6) := Lib.hid ⟨v, o, ws, rfl, hp⟩))
      go_ret
      exact HP.out
    · have hp := pos_of_ne hx0
      have hq := pos_of_ne hy0
      obtain ⟨bx, X, _, rfl, hX, htX, hlX, hcX⟩ := hx.block hx0
      obtain ⟨by_, Y, _, rfl, hY, htY, hlY, hcY⟩ := hy.block hy0
      by_cases he : xs.length = ys.length
      · have := add_same (m := xs.length) (xo := xo) (yo := yo) hz hX hY htX htY wX wY rfl he.symm (by omega) (by omega) hlX (by omega)
        rwa [← he]
      · exact add_more hz hX hY htX htY wX wY rfl rfl hq (by omega) hl hlX hlY

set_option maxRecDepth 100000 in
set_option maxHeartbeats 400000 in
theorem add_own {zv : Value} {zo : Option Nat} {zs : List Nat} {xv yv : Value} {xo yo : Option Nat} {xs ys : List Nat} {w : World} (hz : Own w zv zo zs) (hx : Own w xv xo xs) (hy : Own w yv yo ys)
    (wX : Wd xs) (wY : Wd ys) (nX : Nz xs) (nY : Nz ys) (hl : xs.length ≤ 80000) (hl' : ys.length ≤ 80000) : Calls Tryz.prog 179 #[zv, xv, yv] w (NatPost w zo (vl xs + vl ys)) := by
  by_cases h : ys.length ≤ xs.length
  · exact add_ge hz hx hy wX wY nX hl h
  · have hcall := add_ge hz hy hx wY wX nY hl' (by omega)
    rw [Nat.add_comm] at hcall
    obtain ⟨xa, xc, rfl⟩ := hx.slice
    obtain ⟨ya, yc, rfl⟩ := hy.slice
    obtain ⟨za, zc, rfl⟩ := hz.slice
    clear hx hy hz wX wY nX nY
    generalize xs.length = n at *
    generalize ys.length = m at *
    generalize zs.length = m at *
    generalize vl xs + vl ys = val at *
    go_enter Tryz.func179, Tryz.ntmps179
    go_wp2_with (first | (go_at_call 179; (refine hcall.mono ?_); rintro e w6 ⟨v, o, ws, rfl, hp⟩; have HP : Hid (NatPost w zo val (.returned v) w6) := Lib.hid ⟨v, o, ws, rfl, hp⟩))
    go_ret
    exact HP.out

theorem len_of_lt {ws : List Nat} {n k : Nat} (nz : Nz ws) (h : vl ws = n) (hn : n < Bw ^ k) : ws.length ≤ k := length_le_of_lt_pow nz (by rw [h]; exact hn)

/-- z.add(x, y) -/
theorem add_N {zv : Value} {zo : Option Nat} {zs : List Nat} {xv yv : Value} {xo yo : Option Nat} {a b : Nat} {w : World} (hz : Own w zv zo zs) (hx : IsN w xv xo a) (hy : IsN w yv yo b) (ha : a < Bw ^ 1000) (hb : b < Bw ^ 1000) :
    Calls Tryz.prog 179 #[zv, xv, yv] w (NatPost w zo (a + b)) := by
  obtain ⟨xs, hx, wX, nX, rfl⟩ := hx
  obtain ⟨ys, hy, wY, nY, rfl⟩ := hy
  have := len_of_lt nX rfl ha
  have := len_of_lt nY rfl hb
  exact add_own hz hx hy wX wY nX nY (by omega) (by omega)

set_option maxRecDepth 100000 in
set_option maxHeartbeats 400000 in
theorem sub_own {zv : Value} {zo : Option Nat} {zs : List Nat} {xv yv : Value} {xo yo : Option Nat} {xs ys : List Nat} {w : World} (hz : Own w zv zo zs) (hx : Own w xv xo xs) (hy : Own w yv yo ys)
    (wX : Wd xs) (wY : Wd ys) (nX : Nz xs) (nY : Nz ys) (hl : xs.length ≤ 80000) (hle : vl ys ≤ vl xs) : Calls Tryz.prog 174 #[zv, xv, yv] w (NatPost w zo (vl xs - vl ys)) := by
  have hnm : ys.length ≤ xs.length := length_le_of_vl nY wX hle
  by_cases hx0 : xs = []
  · subst hx0
    have hy0 : ys = [] := by cases ys with | nil => rfl | cons a t => simp at hnm
    subst hy0
    obtain ⟨xa, xc, rfl⟩ := hx.slice
    obtain ⟨ya, yc, rfl⟩ := hy.slice
    show Calls Tryz.prog 174 #[zv, .slice xa 0 xc, .slice ya 0 yc] w (NatPost w zo 0)
    rcases hz.cases with ⟨rfl, rfl, rfl⟩ | ⟨b, c, rfl, rfl, h1, h2⟩
    · have HP := Lib.hid (NatPost.of (IsN.nil w) (Fr.refl _ _) (Later.refl w none))
      go_enter Tryz.func174, Tryz.ntmps174
      go_wp2
      go_ret
      exact HP.out
    · have HP := Lib.hid hz.zero
      clear hz hx hy hl hnm hle
      generalize zs.length = zl at *
      go_enter Tryz.func174, Tryz.ntmps174
      go_wp2
      go_ret
      exact HP.out
  · by_cases hy0 : ys = []
    · subst hy0
      have hcall := set_own hz hx wX nX hx0 (by omega)
      have hp := pos_of_ne hx0
      rw [show vl xs - vl [] = vl xs from rfl]
      obtain ⟨xa, xc, rfl⟩ := hx.slice
      obtain ⟨ya, yc, rfl⟩ := hy.slice
      obtain ⟨za, zc, rfl⟩ := hz.slice
      have hd1 : ((xs.length : Int) == 0) = false := by simp; omega
      rw [List.length_nil]
      clear hx hy hz wX wY nX hx0 hnm hle
      generalize xs.length = n at *
      generalize zs.length = m at *
      generalize vl xs = val at *
      go_enter Tryz.func174, Tryz.ntmps174
      go_wp2_with (first | (go_at_call 93; (refine hcall.mono ?_); rintro e w6 ⟨v, o, ws, rfl, hp⟩; have HP : Hid (NatPost w zo val (.returned v) w6) := Lib.hid ⟨v, o, ws, rfl, hp⟩))
      go_ret
      exact HP.out
    · have hp := pos_of_ne hx0
      have hq := pos_of_ne hy0
      obtain ⟨bx, X, _, rfl, hX, htX, hlX, hcX⟩ := hx.block hx0
      obtain ⟨by_, Y, _, rfl, hY, htY, hlY, hcY⟩ := hy.block hy0
      by_cases he : xs.length = ys.length
      · have := sub_same (m := xs.length) hz hX hY htX htY wX wY rfl he.symm (by omega) (by omega) hlX (by omega) hle
        rwa [← he]
      · exact sub_more hz hX hY htX htY wX wY rfl rfl hq (by omega) hl hlX hlY hle
/-- z.sub(x, y) -/
theorem sub_N {zv : Value} {zo : Option Nat} {zs : List Nat} {xv yv : Value} {xo yo : Option Nat} {a b : Nat} {w : World} (hz : Own w zv zo zs) (hx : IsN w xv xo a) (hy : IsN w yv yo b) (ha : a < Bw ^ 1000) (hb : b ≤ a) :
    Calls Tryz.prog 174 #[zv, xv, yv] w (NatPost w zo (a - b)) := by
  obtain ⟨xs, hx, wX, nX, rfl⟩ := hx
  obtain ⟨ys, hy, wY, nY, rfl⟩ := hy
  have := len_of_lt nX rfl ha
  exact sub_own hz hx hy wX wY nX nY (by omega) hb
/-- x.cmp(y) -/
theorem cmp_N {xv yv : Value} {xo yo : Option Nat} {a b : Nat} {w : World} (hx : IsN w xv xo a) (hy : IsN w yv yo b) : Calls Tryz.prog 57 #[xv, yv] w (Drew w (.int .i64 (cmpW a b))) := by
  obtain ⟨xs, hx, wX, nX, rfl⟩ := hx
  obtain ⟨ys, hy, wY, nY, rfl⟩ := hy
  exact cmp_own hx hy wX wY nX nY
end Go.Proofs.YtpmggjplfcjkkaaGreatDoor
