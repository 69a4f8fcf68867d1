/- Contracts of the functions on one and two words: sums and differences with carry, products, leading zeros. -/
import Derived.Shelf.Spec.BitsCarry
import Derived.Test.YtpmggjplfcjkkaaGreatDoorZ00
import Derived.Test.YtpmggjplfcjkkaaGreatDoorZ04
import Derived.Deep.QuietTactic
import Derived.BigQuiet
import Derived.LaidEqlPtr
set_option linter.unusedVariables false
set_option linter.unusedSimpArgs false
namespace Go.Proofs.YtpmggjplfcjkkaaGreatDoor
open Go.RowKit Nq

/- What comes out of the operations on words, each behind a name. -/
noncomputable def mulHi (x y : Nat) : Nat := x * y / Bw
noncomputable def mulLo (x y : Nat) : Nat := x * y % Bw
noncomputable def addHi (x y c : Nat) : Nat := (x + y + c) / Bw
noncomputable def addLo (x y c : Nat) : Nat := (x + y + c) % Bw
def subHi (x y c : Nat) : Nat := if x < y + c then 1 else 0
noncomputable def subLo (x y c : Nat) : Nat := (x + Bw - y - c) % Bw
noncomputable def maHi (x y c : Nat) : Nat := (x * y + c) / Bw
noncomputable def maLo (x y c : Nat) : Nat := (x * y + c) % Bw

theorem mulLo_lt (x y : Nat) : mulLo x y < Bw := Nat.mod_lt _ Bw_pos
theorem addLo_lt (x y c : Nat) : addLo x y c < Bw := Nat.mod_lt _ Bw_pos
theorem subLo_lt (x y c : Nat) : subLo x y c < Bw := Nat.mod_lt _ Bw_pos
theorem maLo_lt (x y c : Nat) : maLo x y c < Bw := Nat.mod_lt _ Bw_pos
theorem subHi_le (x y c : Nat) : subHi x y c ≤ 1 := by unfold subHi; split <;> omega
theorem add_eq (x y c : Nat) : addLo x y c + Bw * addHi x y c = x + y + c := by
  unfold addLo addHi; rw [Nat.add_comm]; exact Nat.div_add_mod _ _
theorem ma_eq (x y c : Nat) : maLo x y c + Bw * maHi x y c = x * y + c := by
  unfold maLo maHi; rw [Nat.add_comm]; exact Nat.div_add_mod _ _
theorem mul_eq (x y : Nat) : mulLo x y + Bw * mulHi x y = x * y := by
  unfold mulLo mulHi; rw [Nat.add_comm]; exact Nat.div_add_mod _ _
theorem addHi_le {x y c : Nat} (hx : x < Bw) (hy : y < Bw) (hc : c ≤ 1) : addHi x y c ≤ 1 := by
  unfold addHi
  have : (x + y + c) / Bw < 2 := (Nat.div_lt_iff_lt_mul Bw_pos).2 (by omega)
  omega
theorem sub_eq {x y c : Nat} (hx : x < Bw) (hy : y < Bw) (hc : c ≤ 1) : subLo x y c + y + c = x + Bw * subHi x y c := by
  unfold subLo subHi
  have hp := Bw_pos
  split
  · rw [Nat.mod_eq_of_lt (by omega)]; omega
  · have e : x + Bw - y - c = (x - y - c) + Bw := by omega
    rw [e, Nat.add_mod_right, Nat.mod_eq_of_lt (by omega)]; omega

theorem run_219 (x y c : Nat) (hc : c ≤ 1) (w : World) :
    (callFunc 219 #[.int .u64 x, .int .u64 y, .int .u64 c]).run Tryz.prog w = .ok (.value (.tuple #[.int .u64 (addLo x y c : Int), .int .u64 (addHi x y c : Int)])) w := by
  rw [run_callFunc_extern Tryz.func219 (by kernel_rfl) (by kernel_rfl) (by kernel_rfl) (e := add64Entry) (by kernel_rfl), run_add64 x y c (by omega) (by omega) (by omega) (by omega)]
  unfold addLo addHi
  rw [Bw_eq]
  simp only [Result.andThen]
  congr 5 <;> omega

theorem run_239 (x y b : Nat) (hb : b ≤ 1) (w : World) :
    (callFunc 239 #[.int .u64 x, .int .u64 y, .int .u64 b]).run Tryz.prog w = .ok (.value (.tuple #[.int .u64 (subLo x y b : Int), .int .u64 (subHi x y b : Int)])) w := by
  rw [run_callFunc_extern Tryz.func239 (by kernel_rfl) (by kernel_rfl) (by kernel_rfl) (e := sub64Entry) (by kernel_rfl)]
  unfold subLo subHi
  rw [Bw_eq]
  have : b = 0 ∨ b = 1 := by omega
  rcases this with rfl | rfl <;> rfl

set_option maxRecDepth 100000 in
set_option maxHeartbeats 400000 in
theorem bitsAdd (a b c : Nat) (hc : c ≤ 1) (w : World) :
    Calls Tryz.prog 196 #[.int .u64 a, .int .u64 b, .int .u64 c] w fun e w' => e = .returned (.tuple #[.int .u64 (addLo a b c : Int), .int .u64 (addHi a b c : Int)]) ∧ w = w' := by
  have h := run_219 a b c hc
  go_enter Tryz.func196, Tryz.ntmps196
  go_wp2
  go_ret2
  exact ⟨rfl, rfl⟩

/-- The sum of two words, no carry coming in. -/
theorem bitsAdd0 (a b : Nat) (w : World) :
    Calls Tryz.prog 196 #[.int .u64 a, .int .u64 b, .int .u64 0] w fun e w' => e = .returned (.tuple #[.int .u64 (addLo a b 0 : Int), .int .u64 (addHi a b 0 : Int)]) ∧ w = w' :=
  bitsAdd a b 0 (by omega) w

set_option maxRecDepth 100000 in
set_option maxHeartbeats 400000 in
theorem bitsSub (a b c : Nat) (hc : c ≤ 1) (w : World) :
    Calls Tryz.prog 230 #[.int .u64 a, .int .u64 b, .int .u64 c] w fun e w' => e = .returned (.tuple #[.int .u64 (subLo a b c : Int), .int .u64 (subHi a b c : Int)]) ∧ w = w' := by
  have h := run_239 a b c hc
  go_enter Tryz.func230, Tryz.ntmps230
  go_wp2
  go_ret2
  exact ⟨rfl, rfl⟩

theorem bitsSub0 (a b : Nat) (w : World) :
    Calls Tryz.prog 230 #[.int .u64 a, .int .u64 b, .int .u64 0] w fun e w' => e = .returned (.tuple #[.int .u64 (subLo a b 0 : Int), .int .u64 (subHi a b 0 : Int)]) ∧ w = w' :=
  bitsSub a b 0 (by omega) w

theorem bitsMul (x y : Nat) (hx : x < Bw) (hy : y < Bw) (w : World) :
    Calls Tryz.prog 215 #[.int .u64 x, .int .u64 y] w fun e w' => e = .returned (.tuple #[.int .u64 (mulHi x y : Int), .int .u64 (mulLo x y : Int)]) ∧ w = w' := by
  unfold mulHi mulLo
  rw [Bw_eq] at *
  exact (Tryz.bits_Mul x y hx hy w).mono fun e w' h => ⟨h.1, h.2.symm⟩

set_option maxRecDepth 100000 in
set_option maxHeartbeats 400000 in
theorem mulWW (x y : Nat) (hx : x < Bw) (hy : y < Bw) (w : World) :
    Calls Tryz.prog 181 #[.int .u64 x, .int .u64 y] w fun e w' => e = .returned (.tuple #[.int .u64 (mulHi x y : Int), .int .u64 (mulLo x y : Int)]) ∧ w = w' := by
  go_enter Tryz.func181, Tryz.ntmps181
  go_wp2_with (go_at_call 215; refine (bitsMul _ _ hx hy _).mono ?_; rintro e w' ⟨rfl, rfl⟩)
  go_ret2
  exact ⟨rfl, rfl⟩

/-- A product of two words and a word. -/
theorem mul_add_word {x y c B : Nat} (hB : 0 < B) (hx : x < B) (hy : y < B) (hc : c < B) : (x * y % B + c) % B = (x * y + c) % B ∧ x * y / B + (x * y % B + c) / B = (x * y + c) / B ∧ (x * y + c) / B < B := by
  have h1 := Nat.div_add_mod (x * y) B
  have h2 := Nat.mod_lt (x * y) hB
  refine ⟨by simp, ?_, ?_⟩
  · generalize x * y / B = q at *
    generalize x * y % B = r at *
    rw [← h1, Nat.add_assoc, Nat.mul_add_div hB]
  · rw [Nat.div_lt_iff_lt_mul hB]
    have h3 : x * y ≤ (B - 1) * (B - 1) := Nat.mul_le_mul (by omega) (by omega)
    obtain ⟨b, rfl⟩ : ∃ b, B = b + 1 := ⟨B - 1, by omega⟩
    simp only [Nat.add_sub_cancel] at h3
    grind
theorem maHi_lt {x y c : Nat} (hx : x < Bw) (hy : y < Bw) (hc : c < Bw) : maHi x y c < Bw := (mul_add_word Bw_pos hx hy hc).2.2
theorem mulHi_lt {x y : Nat} (hx : x < Bw) (hy : y < Bw) : mulHi x y < Bw := by
  have := maHi_lt hx hy Bw_pos
  simpa [maHi, mulHi] using this

theorem wrap_u64 (n : Nat) (h : n < Bw) : IntKind.u64.wrap (n : Int) = (n : Int) := by
  rw [Bw_eq] at h
  simp only [IntKind.wrap, IntKind.bits, IntKind.signed, Bool.false_and, Bool.false_eq_true, if_false]
  omega
theorem wrap_add (a b : Nat) (h : a + b < Bw) : IntKind.u64.wrap ((a : Int) + (b : Int)) = ((a + b : Nat) : Int) := by
  rw [← wrap_u64 (a + b) h]; rfl

theorem ret2 {k l : IntKind} {a b a' b' : Int} (h : a = a') (h' : b = b') : Ending.returned (.tuple #[.int k a, .int l b]) = .returned (.tuple #[.int k a', .int l b']) := by rw [h, h']
theorem ret1 {k : IntKind} {a a' : Int} (h : a = a') : Ending.returned (.int k a) = .returned (.int k a') := by rw [h]

set_option maxRecDepth 100000 in
set_option maxHeartbeats 400000 in
theorem mulAddWWW (x y c : Nat) (hx : x < Bw) (hy : y < Bw) (hc : c < Bw) (w : World) :
    Calls Tryz.prog 217 #[.int .u64 x, .int .u64 y, .int .u64 c] w fun e w' => e = .returned (.tuple #[.int .u64 (maHi x y c : Int), .int .u64 (maLo x y c : Int)]) ∧ w = w' := by
  have h1 : addLo (mulLo x y) c 0 = maLo x y c := (mul_add_word Bw_pos hx hy hc).1
  have h2 : mulHi x y + addHi (mulLo x y) c 0 = maHi x y c := (mul_add_word Bw_pos hx hy hc).2.1
  have k1 := Lib.hid h1
  have k2 := Lib.hid h2
  clear h1 h2
  go_enter Tryz.func217, Tryz.ntmps217
  go_wp2_with (first | (go_at_call 215; refine (bitsMul _ _ hx hy _).mono ?_; rintro e w' ⟨rfl, rfl⟩) | (go_at_call 196; refine (bitsAdd0 _ _ _).mono ?_; rintro e w' ⟨rfl, rfl⟩))
  go_ret2
  refine ⟨ret2 ?_ ?_, rfl⟩
  · have h3 := maHi_lt hx hy hc
    rw [wrap_add _ _ (by rw [k2.out]; exact h3), k2.out]
  · rw [k1.out]
/-! ### Shifts -/
noncomputable def shlW (x s : Nat) : Nat := x * 2 ^ min s 64 % Bw
def shrW (x s : Nat) : Nat := x / 2 ^ min s 64

theorem max_word : ((Bw - 1 : Nat) : Int) = 18446744073709551615 := by have := Bw_eq; omega
theorem Bw_pow : Bw = 2 ^ 64 := by rw [Bw_eq]
theorem Bw_split {s : Nat} (hs : s ≤ 64) : Bw = 2 ^ (64 - s) * 2 ^ s := by
  rw [Bw_pow, ← Nat.pow_add, show 64 - s + s = 64 by omega]

theorem shlW_lt (x s : Nat) : shlW x s < Bw := Nat.mod_lt _ Bw_pos
theorem shrW_le (x s : Nat) : shrW x s ≤ x := Nat.div_le_self _ _
theorem shrW_lt {x s : Nat} (h : x < Bw) : shrW x s < Bw := Nat.lt_of_le_of_lt (shrW_le x s) h
theorem shrW_small {x s : Nat} (hx : x < Bw) (hs : s ≤ 64) : shrW x (64 - s) < 2 ^ s := by
  unfold shrW
  rw [Nat.min_eq_left (by omega), Nat.div_lt_iff_lt_mul (Nat.two_pow_pos _), Nat.mul_comm, ← Bw_split hs]
  exact hx

/-- What a shift to the left drives out comes in at the other end. -/
theorem shl_shr {x s : Nat} (hs : s ≤ 64) : x * 2 ^ s = shlW x s + Bw * shrW x (64 - s) := by
  unfold shlW shrW
  rw [Nat.min_eq_left hs, Nat.min_eq_left (by omega)]
  have h1 := Nat.div_add_mod (x * 2 ^ s) Bw
  have h2 : x * 2 ^ s / Bw = x / 2 ^ (64 - s) := by
    rw [Bw_split hs, Nat.mul_div_mul_right _ _ (Nat.two_pow_pos _)]
  rw [h2] at h1
  omega
theorem shl_mod {x s : Nat} (hs : s ≤ 64) : shlW x s % 2 ^ s = 0 := by
  unfold shlW
  rw [Nat.min_eq_left hs, Bw_split hs, Nat.mul_mod_mul_right]
  exact Nat.mul_mod_left _ _
theorem shl_add_lt {x s r : Nat} (hs : s ≤ 64) (hr : r < 2 ^ s) : shlW x s + r < Bw := by
  have h1 := shl_mod (x := x) hs
  have h2 := shlW_lt x s
  obtain ⟨q, hq⟩ := Nat.dvd_of_mod_eq_zero h1
  rw [hq] at h2 ⊢
  rw [Bw_split hs] at h2 ⊢
  have h3 : q < 2 ^ (64 - s) := Nat.lt_of_mul_lt_mul_left (a := 2 ^ s) (by rw [Nat.mul_comm (2 ^ s) (2 ^ (64 - s))]; exact h2)
  have h4 : (q + 1) * 2 ^ s ≤ 2 ^ (64 - s) * 2 ^ s := Nat.mul_le_mul_right _ h3
  have h5 : (q + 1) * 2 ^ s = 2 ^ s * q + 2 ^ s := by rw [Nat.add_mul, Nat.one_mul, Nat.mul_comm]
  omega

theorem run_shl {P : Program} (k : IntKind) (x s : Nat) (w : World) : (Op.shift .shl .u64 (x : Int) k (s : Int)).run P w = .ok (.int .u64 (shlW x s : Int)) w := by
  unfold Op.shift
  rw [if_neg (by omega)]
  simp only [Sem.run_pure, Int.toNat_natCast, IntKind.bits, IntKind.wrap, IntKind.signed, Bool.false_and, Bool.false_eq_true, if_false]
  congr 2
  unfold shlW
  rw [Bw_pow]
  simp
theorem run_shr {P : Program} (k : IntKind) (x s : Nat) (w : World) : (Op.shift .shr .u64 (x : Int) k (s : Int)).run P w = .ok (.int .u64 (shrW x s : Int)) w := by
  unfold Op.shift
  rw [if_neg (by omega)]
  simp only [Sem.run_pure, Int.toNat_natCast, IntKind.bits]
  congr 2
  unfold shrW
  rw [Int.fdiv_eq_ediv_of_nonneg _ (by exact Int.le_of_lt (Int.pow_pos (by omega)))]
  simp

theorem wraps_u64 (n : Int) (h0 : 0 ≤ n) (h1 : n < 2 ^ 64) : IntKind.u64.wrap n = n := by
  obtain ⟨m, rfl⟩ := Int.eq_ofNat_of_zero_le h0
  exact wrap_u64 m (by rw [Bw_eq]; omega)
/-- An 'or' of words that share no bit is the sum. -/
theorem or_join {x s r : Nat} (hs : s ≤ 64) (hr : r < 2 ^ s) : bits .or .u64 (shlW x s : Int) (r : Int) = ((shlW x s + r : Nat) : Int) := by
  have h1 := shl_mod (x := x) hs
  have h2 := shlW_lt x s
  have h3 := shl_add_lt (x := x) hs hr
  rw [Bw_eq] at h2 h3
  have hp : ((2 : Int) ^ s) = ((2 ^ s : Nat) : Int) := by simp
  rw [bits_join .u64 64 (by decide) wraps_u64 s (shlW x s) r (by omega) (by rw [hp, ← Int.natCast_emod, h1]; rfl) (by omega) (by omega) (by rw [hp]; omega) (by omega)]
  rfl
theorem or_join' {x s r : Nat} (hs : s ≤ 64) (hr : r < 2 ^ s) : bits .or .u64 (r : Int) (shlW x s : Int) = ((shlW x s + r : Nat) : Int) := by
  rw [← or_join hs hr]
  unfold bits
  simp only [BitVec.or_comm]
theorem and63 {s : Nat} (hs : s < 64) : bits .and .u64 (s : Int) 63 = (s : Int) := by
  have := bits_mask .u64 64 (by decide) wraps_u64 6 (by decide) (s : Int) (by omega) (by omega)
  rw [show ((2 : Int) ^ 6 - 1) = 63 from rfl] at this
  rw [this]
  omega
/-- The walk's spelling of a shift whose count it knows to be small. -/
theorem kw_shl {s : Nat} (hs : s ≤ 64) (x : Nat) : IntKind.u64.wrap ((x : Int) * 2 ^ s) = (shlW x s : Int) := by
  simp only [IntKind.wrap, IntKind.bits, IntKind.signed, Bool.false_and, Bool.false_eq_true, if_false]
  unfold shlW
  rw [Bw_pow, Nat.min_eq_left hs]
  simp
theorem kw_shr {s : Nat} (hs : s ≤ 64) (x : Nat) : (x : Int) / 2 ^ s = (shrW x s : Int) := by
  unfold shrW
  rw [Nat.min_eq_left hs]
  simp
end Go.Proofs.YtpmggjplfcjkkaaGreatDoor

/- Contracts of the loops over words (arith.go): products and sums of a row of words. -/
set_option linter.unusedVariables false
set_option linter.unusedSimpArgs false
namespace Go.Proofs.YtpmggjplfcjkkaaGreatDoor
open Go.RowKit Nq

theorem quiet_same {P : Program} {f : FuncId} {args : Array Value} {w : World} {n : Nat} {v : Value}
    (h : Calls P f args (w.drewN n) fun e w' => e = .returned v ∧ w.drewN n = w') : Calls P f args (w.drewN n) fun e w'' => e = .returned v ∧ ∃ m, w'' = w.drewN m :=
  h.mono fun _ _ ⟨he, hm⟩ => ⟨he, n, hm.symm⟩

/-- What stands behind k rounds of a loop that writes z[0], z[1], ..: the words zs, the carry c. -/
structure Up (w : World) (bz oz : Nat) (Z zs : List Nat) (k : Nat) (w' : World) : Prop where
  len : zs.length = k
  wd : Wd zs
  blk : Blk w' bz (spl Z oz zs)
  fr : Fr [bz] w w'

theorem Up.zero {w : World} {bz oz : Nat} {Z : List Nat} (h : Blk w bz Z) : Up w bz oz Z [] 0 w := ⟨rfl, Wd.nil, by rw [spl_nil]; exact h, Fr.refl _ _⟩
theorem Up.cell {w : World} {bz oz : Nat} {Z zs : List Nat} {k : Nat} {w' : World} (h : Up w bz oz Z zs k w') (hz : oz + k < Z.length) : ∃ v, w'.cell? ⟨bz, oz + k, none⟩ = some v :=
  ⟨_, h.blk.cell (oz + k) (by rw [spl_length _ _ _ (by have := h.len; omega)]; exact hz)⟩
theorem Up.frozen {w : World} {bz oz : Nat} {Z zs : List Nat} {k : Nat} {w' : World} (h : Up w bz oz Z zs k w') : w'.frozen? ⟨bz, oz + k, none⟩ = false := h.blk.frozen _
theorem Up.step {w : World} {bz oz : Nat} {Z zs : List Nat} {k : Nat} {w' : World} (h : Up w bz oz Z zs k w') {x : Nat} (hx : x < Bw) (hz : oz + k < Z.length) :
    Up w bz oz Z (zs ++ [x]) (k + 1) (w'.setCell ⟨bz, oz + k, none⟩ (.int .u64 (x : Int))) := by
  refine ⟨by simp [h.len], h.wd.append (Wd.one hx), ?_, h.fr.set (.inl (by simp)) _ _⟩
  have := h.blk.set (oz + k) x
  rw [← h.len, spl_snoc _ _ _ _ (by have := h.len; omega)] at this
  rw [← h.len]; exact this
theorem Up.drewN {w : World} {bz oz : Nat} {Z zs : List Nat} {k : Nat} {w' : World} (h : Up w bz oz Z zs k w') (n : Nat) : Up w bz oz Z zs k (w'.drewN n) := ⟨h.len, h.wd, h.blk, h.fr.drewN n⟩

/-- A row that is still as it was from place k on. -/
def RowFrom (w' : World) (bx ox : Nat) (xs : List Nat) (k : Nat) : Prop := ∀ j, k ≤ j → j < xs.length → w'.cell? ⟨bx, ox + j, none⟩ = some (.int .u64 ((xs.getD j 0 : Nat) : Int))
theorem RowFrom.start {w : World} {bx ox : Nat} {xs : List Nat} (h : Row w bx ox xs) : RowFrom w bx ox xs 0 := fun j _ hj => h j hj
theorem RowFrom.step {w' : World} {bx ox : Nat} {xs : List Nat} {k : Nat} (h : RowFrom w' bx ox xs k) {bz oz : Nat} (hover : bx = bz → oz ≤ ox ∨ ox + xs.length ≤ oz) (v : Value) : RowFrom (w'.setCell ⟨bz, oz + k, none⟩ v) bx ox xs (k + 1) := by
  intro j hk hj
  rw [cell_set_ne]
  · exact h j (by omega) hj
  · intro e
    injection e with e1 e2
    have := hover e1.symm
    omega

theorem RowFrom.drewN {w' : World} {bx ox : Nat} {xs : List Nat} {k : Nat} (h : RowFrom w' bx ox xs k) (n : Nat) : RowFrom (w'.drewN n) bx ox xs k := h

/-- mulAddVWW hands back. -/
def MulAddPost (w : World) (bz oz : Nat) (Z xs : List Nat) (y r : Nat) (e : Ending) (w' : World) : Prop :=
  ∃ c zs, e = .returned (.int .u64 ((c : Nat) : Int)) ∧ c < Bw ∧ Up w bz oz Z zs xs.length w' ∧ vl zs + Bw ^ xs.length * c = vl xs * y + r

theorem mulAdd_step {k c y z c' : Nat} {zs xs : List Nat} {r : Nat} (hl : zs.length = k) (hk : k < xs.length) (h : vl zs + Bw ^ k * c = vl (xs.take k) * y + r) (hz : z + Bw * c' = xs.getD k 0 * y + c) :
    vl (zs ++ [z]) + Bw ^ (k + 1) * c' = vl (xs.take (k + 1)) * y + r := by
  rw [vl_snoc, vl_take_succ hk, hl, Nat.pow_succ]
  generalize Bw ^ k = p at *
  generalize Bw = B at *
  have : p * (z + B * c') = p * (xs.getD k 0 * y + c) := by rw [hz]
  grind

set_option maxRecDepth 100000 in
set_option maxHeartbeats 400000 in
theorem mulAddVWW_g (bz oz cz bx ox cx n : Nat) (Z xs : List Nat) (y r : Nat) (w : World) (hZ : Blk w bz Z) (hX : Row w bx ox xs) (wX : Wd xs) (hl : xs.length ≤ n) (hl' : n ≤ xs.length) (hz : oz + n ≤ Z.length)
    (hn : n ≤ 1000000) (hover : bx = bz → oz ≤ ox ∨ ox + n ≤ oz) (hr : r < Bw) (hy : y < Bw) :
    Calls Tryz.prog 192 #[.slice (some ⟨bz, oz, none⟩) n cz, .slice (some ⟨bx, ox, none⟩) n cx, .int .u64 y, .int .u64 r] w (MulAddPost w bz oz Z xs y r) := by
  go_enter Tryz.func192, Tryz.ntmps192
  go_wp2
  go_loopw [8, 9, 19] (fun c8 _ i19 wr => ∃ k c : Nat, ∃ zs : List Nat, k ≤ n ∧ i19 = .int .i64 k ∧ c8 = .int .u64 (c : Int) ∧ c < Bw ∧ Up w bz oz Z zs k wr ∧ RowFrom wr bx ox xs k ∧ Hid (vl zs + Bw ^ k * c = vl (xs.take k) * y + r)) (fun _ _ i19 _ => n - (intOf i19).toNat)
  case atStart => exact ⟨0, r, [], by omega, rfl, rfl, hr, Up.zero hZ, RowFrom.start hX, Lib.hid (by simp)⟩
  case round =>
    obtain ⟨k, c, zs, hk, rfl, rfl, hc, hU, hR, hE⟩ := hrel
    by_cases hlt : k < n
    · have hx := hR k (Nat.le_refl _) (by omega)
      obtain ⟨v0, hz1⟩ := hU.cell (by omega)
      have hz2 := hU.frozen
      have xw := wX.getD k
      have hs := hU.step (maLo_lt (xs.getD k 0) y c) (by omega)
      have hs2 := hR.step (bz := bz) (oz := oz) (fun e => by have := hover e; omega) (.int .u64 (maLo (xs.getD k 0) y c : Int))
      have hq := maHi_lt xw hy hc
      have hE2 := Lib.hid (mulAdd_step hU.len (by omega) hE.out (ma_eq (xs.getD k 0) y c))
      go_wp2_with (go_at_call 217; refine (mulAddWWW _ _ _ xw hy hc _).mono ?_; rintro e w' ⟨rfl, rfl⟩)
      go_roundw
      case rel => exact ⟨k + 1, _, _, by omega, by go_num, rfl, hq, hs, hs2, hE2⟩
      case measure => simp [intOf]; omega
    · have hkn : k = xs.length := by omega
      have hfin : MulAddPost w bz oz Z xs y r (.returned (.int .u64 ((c : Nat) : Int))) wr := by
        have h2 := hE.out
        subst hkn
        rw [List.take_length] at h2
        exact ⟨c, zs, rfl, hc, hU, h2⟩
      clear hkn
      go_wp2
      go_ret
      exact hfin

set_option maxRecDepth 100000 in
set_option maxHeartbeats 400000 in
theorem mulAddVWW (bz oz cz bx ox cx n : Nat) (Z xs : List Nat) (y r : Nat) (w : World) (hZ : Blk w bz Z) (hX : Row w bx ox xs) (wX : Wd xs) (hl : xs.length ≤ n) (hl' : n ≤ xs.length) (hz : oz + n ≤ Z.length)
    (hn : n ≤ 1000000) (hover : bx = bz → oz ≤ ox ∨ ox + n ≤ oz) (hr : r < Bw) (hy : y < Bw) :
    Calls Tryz.prog 146 #[.slice (some ⟨bz, oz, none⟩) n cz, .slice (some ⟨bx, ox, none⟩) n cx, .int .u64 y, .int .u64 r] w (MulAddPost w bz oz Z xs y r) := by
  go_enter Tryz.func146, Tryz.ntmps146
  go_wp2_with (go_at_call 192; refine (mulAddVWW_g bz oz cz bx ox cx n Z xs y r _ hZ hX wX hl hl' hz hn hover hr hy).mono ?_; rintro e w' ⟨c, zs, rfl, hc, hU, hE⟩)
  have hfin : MulAddPost w bz oz Z xs y r (.returned (.int .u64 ((c : Nat) : Int))) w' := ⟨c, zs, rfl, hc, hU, hE⟩
  go_ret
  exact hfin

/-- addMulVVWW hands back. -/
def AddMulPost (w : World) (bz oz : Nat) (Z xs ys : List Nat) (m a : Nat) (e : Ending) (w' : World) : Prop :=
  ∃ c zs, e = .returned (.int .u64 ((c : Nat) : Int)) ∧ c < Bw ∧ Up w bz oz Z zs xs.length w' ∧ vl zs + Bw ^ xs.length * c = vl xs + vl ys * m + a

theorem addMul_step {k c m a z c' : Nat} {zs xs ys : List Nat} (hl : zs.length = k) (hk : k < xs.length) (hk' : k < ys.length) (h : vl zs + Bw ^ k * c = vl (xs.take k) + vl (ys.take k) * m + a)
    (hz : z + Bw * c' = ys.getD k 0 * m + xs.getD k 0 + c) : vl (zs ++ [z]) + Bw ^ (k + 1) * c' = vl (xs.take (k + 1)) + vl (ys.take (k + 1)) * m + a := by
  rw [vl_snoc, vl_take_succ hk, vl_take_succ hk', hl, Nat.pow_succ]
  generalize Bw ^ k = p at *
  generalize Bw = B at *
  have : p * (z + B * c') = p * (ys.getD k 0 * m + xs.getD k 0 + c) := by rw [hz]
  grind

/-- The two sums of a round of addMulVVWW: the word, and the carry. -/
theorem addMul_word {x y m c : Nat} (hx : x < Bw) (hy : y < Bw) (hm : m < Bw) (hc : c < Bw) :
    addLo (maLo y m x) c 0 + Bw * (addHi (maLo y m x) c 0 + maHi y m x) = y * m + x + c ∧ addHi (maLo y m x) c 0 + maHi y m x < Bw := by
  have h1 := ma_eq y m x
  have h2 := add_eq (maLo y m x) c 0
  have h3 : y * m ≤ (Bw - 1) * (Bw - 1) := Nat.mul_le_mul (by omega) (by omega)
  have e : addLo (maLo y m x) c 0 + Bw * (addHi (maLo y m x) c 0 + maHi y m x) = y * m + x + c := by
    generalize addLo (maLo y m x) c 0 = p at *
    generalize addHi (maLo y m x) c 0 = q at *
    generalize maLo y m x = r at *
    generalize maHi y m x = s at *
    generalize Bw = B at *
    grind
  refine ⟨e, ?_⟩
  apply Nat.lt_of_mul_lt_mul_left (a := Bw)
  generalize addHi (maLo y m x) c 0 + maHi y m x = q at *
  generalize addLo (maLo y m x) c 0 = p at *
  clear h1 h2
  obtain ⟨b, hb⟩ : ∃ b, Bw = b + 1 := ⟨Bw - 1, by omega⟩
  rw [hb] at h3 hx hy hm hc e ⊢
  simp only [Nat.add_sub_cancel] at h3
  grind

set_option maxRecDepth 100000 in
set_option maxHeartbeats 800000 in
theorem addMulVVWW_g (bz oz cz bx ox cx by_ oy cy n : Nat) (Z xs ys : List Nat) (m a : Nat) (w : World) (hZ : Blk w bz Z) (hX : Row w bx ox xs) (wX : Wd xs) (hY : Row w by_ oy ys) (wY : Wd ys)
    (hl : xs.length ≤ n) (hl' : n ≤ xs.length) (hl2 : ys.length ≤ n) (hl2' : n ≤ ys.length) (hz : oz + n ≤ Z.length)
    (hn : n ≤ 1000000) (hover : bx = bz → oz ≤ ox ∨ ox + n ≤ oz) (hover2 : by_ = bz → oz ≤ oy ∨ oy + n ≤ oz) (hm : m < Bw) (ha : a < Bw) :
    Calls Tryz.prog 193 #[.slice (some ⟨bz, oz, none⟩) n cz, .slice (some ⟨bx, ox, none⟩) n cx, .slice (some ⟨by_, oy, none⟩) n cy, .int .u64 m, .int .u64 a] w (AddMulPost w bz oz Z xs ys m a) := by
  go_enter Tryz.func193, Tryz.ntmps193
  go_wp2
  go_loopw [10, 11, 12, 13, 14, 15, 32] (fun c8 _ _ _ _ _ i19 wr => ∃ k c : Nat, ∃ zs : List Nat, k ≤ n ∧ i19 = .int .i64 k ∧ c8 = .int .u64 (c : Int) ∧ c < Bw ∧ Up w bz oz Z zs k wr ∧ RowFrom wr bx ox xs k ∧ RowFrom wr by_ oy ys k ∧ Hid (vl zs + Bw ^ k * c = vl (xs.take k) + vl (ys.take k) * m + a)) (fun _ _ _ _ _ _ i19 _ => n - (intOf i19).toNat)
  case atStart => exact ⟨0, a, [], by omega, rfl, rfl, ha, Up.zero hZ, RowFrom.start hX, RowFrom.start hY, Lib.hid (by simp)⟩
  case round =>
    obtain ⟨k, c, zs, hk, rfl, rfl, hc, hU, hR, hR2, hE⟩ := hrel
    by_cases hlt : k < n
    · have hx := hR k (Nat.le_refl _) (by omega)
      have hy := hR2 k (Nat.le_refl _) (by omega)
      obtain ⟨v0, hz1⟩ := hU.cell (by omega)
      have hz2 := hU.frozen
      have xw := wX.getD k
      have yw := wY.getD k
      have hs := hU.step (addLo_lt (maLo (ys.getD k 0) m (xs.getD k 0)) c 0) (by omega)
      have hs2 := hR.step (bz := bz) (oz := oz) (fun e => by have := hover e; omega) (.int .u64 (addLo (maLo (ys.getD k 0) m (xs.getD k 0)) c 0 : Int))
      have hs3 := hR2.step (bz := bz) (oz := oz) (fun e => by have := hover2 e; omega) (.int .u64 (addLo (maLo (ys.getD k 0) m (xs.getD k 0)) c 0 : Int))
      have hq := (addMul_word xw yw hm hc).2
      have hE2 := Lib.hid (addMul_step hU.len (by omega) (by omega) hE.out (addMul_word xw yw hm hc).1)
      go_wp2_with fail
      go_quiet ((go_at_call 217; exact quiet_same (mulAddWWW _ _ _ yw hm xw _)))
      go_wp2_with (go_at_call 196; refine (bitsAdd0 _ _ _).mono ?_; rintro e w' ⟨rfl, rfl⟩)
      go_roundw
      case rel => exact ⟨k + 1, _, _, by omega, by go_num, congrArg (Value.int .u64) (wrap_add _ _ hq), hq, hs.drewN nq, hs2.drewN nq, hs3.drewN nq, hE2⟩
      case measure => simp [intOf]; omega
    · have hkn : k = xs.length := by omega
      have hkn' : k = ys.length := by omega
      have hfin : AddMulPost w bz oz Z xs ys m a (.returned (.int .u64 ((c : Nat) : Int))) wr := by
        have h2 := hE.out
        rw [List.take_of_length_le (by omega), List.take_of_length_le (by omega)] at h2
        subst hkn
        exact ⟨c, zs, rfl, hc, hU, h2⟩
      clear hkn hkn'
      go_wp2
      go_ret
      exact hfin

set_option maxRecDepth 100000 in
set_option maxHeartbeats 400000 in
theorem addMulVVWW (bz oz cz bx ox cx by_ oy cy n : Nat) (Z xs ys : List Nat) (m a : Nat) (w : World) (hZ : Blk w bz Z) (hX : Row w bx ox xs) (wX : Wd xs) (hY : Row w by_ oy ys) (wY : Wd ys)
    (hl : xs.length ≤ n) (hl' : n ≤ xs.length) (hl2 : ys.length ≤ n) (hl2' : n ≤ ys.length) (hz : oz + n ≤ Z.length)
    (hn : n ≤ 1000000) (hover : bx = bz → oz ≤ ox ∨ ox + n ≤ oz) (hover2 : by_ = bz → oz ≤ oy ∨ oy + n ≤ oz) (hm : m < Bw) (ha : a < Bw) :
    Calls Tryz.prog 147 #[.slice (some ⟨bz, oz, none⟩) n cz, .slice (some ⟨bx, ox, none⟩) n cx, .slice (some ⟨by_, oy, none⟩) n cy, .int .u64 m, .int .u64 a] w (AddMulPost w bz oz Z xs ys m a) := by
  go_enter Tryz.func147, Tryz.ntmps147
  go_wp2_with (go_at_call 193; refine (addMulVVWW_g bz oz cz bx ox cx by_ oy cy n Z xs ys m a _ hZ hX wX hY wY hl hl' hl2 hl2' hz hn hover hover2 hm ha).mono ?_; rintro e w' ⟨c, zs, rfl, hc, hU, hE⟩)
  have hfin : AddMulPost w bz oz Z xs ys m a (.returned (.int .u64 ((c : Nat) : Int))) w' := ⟨c, zs, rfl, hc, hU, hE⟩
  go_ret
  exact hfin

/-- addVV hands back: the carry is 0 or 1. -/
def AddPost (w : World) (bz oz : Nat) (Z xs ys : List Nat) (e : Ending) (w' : World) : Prop :=
  ∃ c zs, e = .returned (.int .u64 ((c : Nat) : Int)) ∧ c ≤ 1 ∧ Up w bz oz Z zs xs.length w' ∧ vl zs + Bw ^ xs.length * c = vl xs + vl ys

theorem add_step {k c z c' : Nat} {zs xs ys : List Nat} (hl : zs.length = k) (hk : k < xs.length) (hk' : k < ys.length) (h : vl zs + Bw ^ k * c = vl (xs.take k) + vl (ys.take k))
    (hz : z + Bw * c' = xs.getD k 0 + ys.getD k 0 + c) : vl (zs ++ [z]) + Bw ^ (k + 1) * c' = vl (xs.take (k + 1)) + vl (ys.take (k + 1)) := by
  rw [vl_snoc, vl_take_succ hk, vl_take_succ hk', hl, Nat.pow_succ]
  generalize Bw ^ k = p at *
  generalize Bw = B at *
  have : p * (z + B * c') = p * (xs.getD k 0 + ys.getD k 0 + c) := by rw [hz]
  grind

set_option maxRecDepth 100000 in
set_option maxHeartbeats 800000 in
theorem addVV_g (bz oz cz bx ox cx by_ oy cy n : Nat) (Z xs ys : List Nat) (w : World) (hZ : Blk w bz Z) (hX : Row w bx ox xs) (wX : Wd xs) (hY : Row w by_ oy ys) (wY : Wd ys)
    (hl : xs.length ≤ n) (hl' : n ≤ xs.length) (hl2 : ys.length ≤ n) (hl2' : n ≤ ys.length) (hz : oz + n ≤ Z.length)
    (hn : n ≤ 1000000) (hover : bx = bz → oz ≤ ox ∨ ox + n ≤ oz) (hover2 : by_ = bz → oz ≤ oy ∨ oy + n ≤ oz) :
    Calls Tryz.prog 195 #[.slice (some ⟨bz, oz, none⟩) n cz, .slice (some ⟨bx, ox, none⟩) n cx, .slice (some ⟨by_, oy, none⟩) n cy] w (AddPost w bz oz Z xs ys) := by
  go_enter Tryz.func195, Tryz.ntmps195
  go_wp2
  go_loopw [6, 7, 8, 9, 25] (fun c8 _ _ _ i19 wr => ∃ k c : Nat, ∃ zs : List Nat, k ≤ n ∧ i19 = .int .i64 k ∧ c8 = .int .u64 (c : Int) ∧ c ≤ 1 ∧ Up w bz oz Z zs k wr ∧ RowFrom wr bx ox xs k ∧ RowFrom wr by_ oy ys k ∧ Hid (vl zs + Bw ^ k * c = vl (xs.take k) + vl (ys.take k))) (fun _ _ _ _ i19 _ => n - (intOf i19).toNat)
  case atStart => exact ⟨0, 0, [], by omega, rfl, rfl, by omega, Up.zero hZ, RowFrom.start hX, RowFrom.start hY, Lib.hid (by simp)⟩
  case round =>
    obtain ⟨k, c, zs, hk, rfl, rfl, hc, hU, hR, hR2, hE⟩ := hrel
    by_cases hlt : k < n
    · have hx := hR k (Nat.le_refl _) (by omega)
      have hy := hR2 k (Nat.le_refl _) (by omega)
      obtain ⟨v0, hz1⟩ := hU.cell (by omega)
      have hz2 := hU.frozen
      have hs := hU.step (addLo_lt (xs.getD k 0) (ys.getD k 0) c) (by omega)
      have hs2 := hR.step (bz := bz) (oz := oz) (fun e => by have := hover e; omega) (.int .u64 (addLo (xs.getD k 0) (ys.getD k 0) c : Int))
      have hs3 := hR2.step (bz := bz) (oz := oz) (fun e => by have := hover2 e; omega) (.int .u64 (addLo (xs.getD k 0) (ys.getD k 0) c : Int))
      have hq := addHi_le (wX.getD k) (wY.getD k) hc
      have hE2 := Lib.hid (add_step hU.len (by omega) (by omega) hE.out (add_eq (xs.getD k 0) (ys.getD k 0) c))
      go_wp2_with fail
      go_quiet ((go_at_call 196; exact quiet_same (bitsAdd _ _ _ hc _)))
      go_wp2
      go_roundw
      case rel => exact ⟨k + 1, _, _, by omega, by go_num, rfl, hq, hs.drewN nq, hs2.drewN nq, hs3.drewN nq, hE2⟩
      case measure => simp [intOf]; omega
    · have hkn : k = xs.length := by omega
      have hkn' : k = ys.length := by omega
      have hfin : AddPost w bz oz Z xs ys (.returned (.int .u64 ((c : Nat) : Int))) wr := by
        have h2 := hE.out
        rw [List.take_of_length_le (by omega), List.take_of_length_le (by omega)] at h2
        subst hkn
        exact ⟨c, zs, rfl, hc, hU, h2⟩
      clear hkn hkn'
      go_wp2
      go_ret
      exact hfin

set_option maxRecDepth 100000 in
set_option maxHeartbeats 400000 in
theorem addVV (bz oz cz bx ox cx by_ oy cy n : Nat) (Z xs ys : List Nat) (w : World) (hZ : Blk w bz Z) (hX : Row w bx ox xs) (wX : Wd xs) (hY : Row w by_ oy ys) (wY : Wd ys)
    (hl : xs.length ≤ n) (hl' : n ≤ xs.length) (hl2 : ys.length ≤ n) (hl2' : n ≤ ys.length) (hz : oz + n ≤ Z.length)
    (hn : n ≤ 1000000) (hover : bx = bz → oz ≤ ox ∨ ox + n ≤ oz) (hover2 : by_ = bz → oz ≤ oy ∨ oy + n ≤ oz) :
    Calls Tryz.prog 155 #[.slice (some ⟨bz, oz, none⟩) n cz, .slice (some ⟨bx, ox, none⟩) n cx, .slice (some ⟨by_, oy, none⟩) n cy] w (AddPost w bz oz Z xs ys) := by
  go_enter Tryz.func155, Tryz.ntmps155
  go_wp2_with (go_at_call 195; refine (addVV_g bz oz cz bx ox cx by_ oy cy n Z xs ys _ hZ hX wX hY wY hl hl' hl2 hl2' hz hn hover hover2).mono ?_; rintro e w' ⟨c, zs, rfl, hc, hU, hE⟩)
  have hfin : AddPost w bz oz Z xs ys (.returned (.int .u64 ((c : Nat) : Int))) w' := ⟨c, zs, rfl, hc, hU, hE⟩
  go_ret
  exact hfin

/-- subVV hands back: the borrow is 0 or 1. -/
def SubPost (w : World) (bz oz : Nat) (Z xs ys : List Nat) (e : Ending) (w' : World) : Prop :=
  ∃ c zs, e = .returned (.int .u64 ((c : Nat) : Int)) ∧ c ≤ 1 ∧ Up w bz oz Z zs xs.length w' ∧ vl zs + vl ys = vl xs + Bw ^ xs.length * c

theorem sub_step {k c z c' : Nat} {zs xs ys : List Nat} (hl : zs.length = k) (hk : k < xs.length) (hk' : k < ys.length) (h : vl zs + vl (ys.take k) = vl (xs.take k) + Bw ^ k * c)
    (hz : z + ys.getD k 0 + c = xs.getD k 0 + Bw * c') : vl (zs ++ [z]) + vl (ys.take (k + 1)) = vl (xs.take (k + 1)) + Bw ^ (k + 1) * c' := by
  rw [vl_snoc, vl_take_succ hk, vl_take_succ hk', hl, Nat.pow_succ]
  generalize Bw ^ k = p at *
  generalize Bw = B at *
  have : p * (z + ys.getD k 0 + c) = p * (xs.getD k 0 + B * c') := by rw [hz]
  grind

set_option maxRecDepth 100000 in
set_option maxHeartbeats 800000 in
theorem subVV_g (bz oz cz bx ox cx by_ oy cy n : Nat) (Z xs ys : List Nat) (w : World) (hZ : Blk w bz Z) (hX : Row w bx ox xs) (wX : Wd xs) (hY : Row w by_ oy ys) (wY : Wd ys)
    (hl : xs.length ≤ n) (hl' : n ≤ xs.length) (hl2 : ys.length ≤ n) (hl2' : n ≤ ys.length) (hz : oz + n ≤ Z.length)
    (hn : n ≤ 1000000) (hover : bx = bz → oz ≤ ox ∨ ox + n ≤ oz) (hover2 : by_ = bz → oz ≤ oy ∨ oy + n ≤ oz) :
    Calls Tryz.prog 229 #[.slice (some ⟨bz, oz, none⟩) n cz, .slice (some ⟨bx, ox, none⟩) n cx, .slice (some ⟨by_, oy, none⟩) n cy] w (SubPost w bz oz Z xs ys) := by
  go_enter Tryz.func229, Tryz.ntmps229
  go_wp2
  go_loopw [6, 7, 8, 9, 25] (fun c8 _ _ _ i19 wr => ∃ k c : Nat, ∃ zs : List Nat, k ≤ n ∧ i19 = .int .i64 k ∧ c8 = .int .u64 (c : Int) ∧ c ≤ 1 ∧ Up w bz oz Z zs k wr ∧ RowFrom wr bx ox xs k ∧ RowFrom wr by_ oy ys k ∧ Hid (vl zs + vl (ys.take k) = vl (xs.take k) + Bw ^ k * c)) (fun _ _ _ _ i19 _ => n - (intOf i19).toNat)
  case atStart => exact ⟨0, 0, [], by omega, rfl, rfl, by omega, Up.zero hZ, RowFrom.start hX, RowFrom.start hY, Lib.hid (by simp)⟩
  case round =>
    obtain ⟨k, c, zs, hk, rfl, rfl, hc, hU, hR, hR2, hE⟩ := hrel
    by_cases hlt : k < n
    · have hx := hR k (Nat.le_refl _) (by omega)
      have hy := hR2 k (Nat.le_refl _) (by omega)
      obtain ⟨v0, hz1⟩ := hU.cell (by omega)
      have hz2 := hU.frozen
      have hs := hU.step (subLo_lt (xs.getD k 0) (ys.getD k 0) c) (by omega)
      have hs2 := hR.step (bz := bz) (oz := oz) (fun e => by have := hover e; omega) (.int .u64 (subLo (xs.getD k 0) (ys.getD k 0) c : Int))
      have hs3 := hR2.step (bz := bz) (oz := oz) (fun e => by have := hover2 e; omega) (.int .u64 (subLo (xs.getD k 0) (ys.getD k 0) c : Int))
      have hq := subHi_le (xs.getD k 0) (ys.getD k 0) c
      have hE2 := Lib.hid (sub_step hU.len (by omega) (by omega) hE.out (sub_eq (wX.getD k) (wY.getD k) hc))
      go_wp2_with fail
      go_quiet ((go_at_call 230; exact quiet_same (bitsSub _ _ _ hc _)))
      go_wp2
      go_roundw
      case rel => exact ⟨k + 1, _, _, by omega, by go_num, rfl, hq, hs.drewN nq, hs2.drewN nq, hs3.drewN nq, hE2⟩
      case measure => simp [intOf]; omega
    · have hkn : k = xs.length := by omega
      have hkn' : k = ys.length := by omega
      have hfin : SubPost w bz oz Z xs ys (.returned (.int .u64 ((c : Nat) : Int))) wr := by
        have h2 := hE.out
        rw [List.take_of_length_le (by omega), List.take_of_length_le (by omega)] at h2
        subst hkn
        exact ⟨c, zs, rfl, hc, hU, h2⟩
      clear hkn hkn'
      go_wp2
      go_ret
      exact hfin

set_option maxRecDepth 100000 in
set_option maxHeartbeats 400000 in
theorem subVV (bz oz cz bx ox cx by_ oy cy n : Nat) (Z xs ys : List Nat) (w : World) (hZ : Blk w bz Z) (hX : Row w bx ox xs) (wX : Wd xs) (hY : Row w by_ oy ys) (wY : Wd ys)
    (hl : xs.length ≤ n) (hl' : n ≤ xs.length) (hl2 : ys.length ≤ n) (hl2' : n ≤ ys.length) (hz : oz + n ≤ Z.length)
    (hn : n ≤ 1000000) (hover : bx = bz → oz ≤ ox ∨ ox + n ≤ oz) (hover2 : by_ = bz → oz ≤ oy ∨ oy + n ≤ oz) :
    Calls Tryz.prog 210 #[.slice (some ⟨bz, oz, none⟩) n cz, .slice (some ⟨bx, ox, none⟩) n cx, .slice (some ⟨by_, oy, none⟩) n cy] w (SubPost w bz oz Z xs ys) := by
  go_enter Tryz.func210, Tryz.ntmps210
  go_wp2_with (go_at_call 229; refine (subVV_g bz oz cz bx ox cx by_ oy cy n Z xs ys _ hZ hX wX hY wY hl hl' hl2 hl2' hz hn hover hover2).mono ?_; rintro e w' ⟨c, zs, rfl, hc, hU, hE⟩)
  have hfin : SubPost w bz oz Z xs ys (.returned (.int .u64 ((c : Nat) : Int))) w' := ⟨c, zs, rfl, hc, hU, hE⟩
  go_ret
  exact hfin
end Go.Proofs.YtpmggjplfcjkkaaGreatDoor

/- Contracts of the shifts of rows of words, and of the sum and the difference of a row and a word. -/
set_option linter.unusedVariables false
set_option linter.unusedSimpArgs false
namespace Go.Proofs.YtpmggjplfcjkkaaGreatDoor
open Go.RowKit Nq

theorem spl_cons (Z : List Nat) (o : Nat) (zs : List Nat) (x : Nat) (h : o < Z.length) : (spl Z (o + 1) zs).set o x = spl Z o (x :: zs) := by
  simp only [spl]
  rw [List.set_append_left _ _ (by simp; omega), take_succ_eq h, List.set_append_right _ _ (by simp; omega)]
  have e1 : o - (List.take o Z).length = 0 := by simp; omega
  rw [e1]
  have e2 : o + 1 + zs.length = o + (zs.length + 1) := by omega
  simp [e2]

/-- What stands where a loop has written z[n-1], .., z[i]: the words zs. -/
structure Down (w : World) (bz o : Nat) (Z zs : List Nat) (w' : World) : Prop where
  wd : Wd zs
  blk : Blk w' bz (spl Z o zs)
  fr : Fr [bz] w w'
theorem Down.zero {w : World} {bz o : Nat} {Z : List Nat} (h : Blk w bz Z) : Down w bz o Z [] w := ⟨Wd.nil, by rw [spl_nil]; exact h, Fr.refl _ _⟩
theorem Down.drewN {w : World} {bz o : Nat} {Z zs : List Nat} {w' : World} (h : Down w bz o Z zs w') (n : Nat) : Down w bz o Z zs (w'.drewN n) := ⟨h.wd, h.blk, h.fr.drewN n⟩
theorem Down.cell {w : World} {bz o : Nat} {Z zs : List Nat} {w' : World} (h : Down w bz o Z zs w') (hl : o + zs.length ≤ Z.length) (j : Nat) (hj : j < Z.length) : ∃ v, w'.cell? ⟨bz, j, none⟩ = some v :=
  ⟨_, h.blk.cell j (by rw [spl_length _ _ _ hl]; exact hj)⟩
theorem Down.step {w : World} {bz o : Nat} {Z zs : List Nat} {w' : World} (h : Down w bz (o + 1) Z zs w') {x : Nat} (hx : x < Bw) (ho : o < Z.length) :
    Down w bz o Z (x :: zs) (w'.setCell ⟨bz, o, none⟩ (.int .u64 (x : Int))) :=
  ⟨Wd.cons hx h.wd, by have := h.blk.set o x; rw [spl_cons _ _ _ _ ho] at this; exact this, h.fr.set (.inl (by simp)) _ _⟩

/-- A row that is still as it was below place k. -/
def RowTo (w' : World) (bx ox : Nat) (xs : List Nat) (k : Nat) : Prop := ∀ j, j < k → j < xs.length → w'.cell? ⟨bx, ox + j, none⟩ = some (.int .u64 ((xs.getD j 0 : Nat) : Int))
theorem RowTo.start {w : World} {bx ox : Nat} {xs : List Nat} (h : Row w bx ox xs) (k : Nat) : RowTo w bx ox xs k := fun j _ hj => h j hj
theorem RowTo.step {w' : World} {bx ox : Nat} {xs : List Nat} {k : Nat} (h : RowTo w' bx ox xs (k + 1)) {bz oz n : Nat} (hover : bx = bz → ox ≤ oz ∨ oz + n ≤ ox) (hk : k < n) (v : Value) : RowTo (w'.setCell ⟨bz, oz + k, none⟩ v) bx ox xs k := by
  intro j hj hl
  rw [cell_set_ne]
  · exact h j (by omega) hl
  · intro e
    injection e with e1 e2
    have := hover e1.symm
    omega

/-- lshVU hands back. -/
def LshPost (w : World) (bz oz : Nat) (Z xs : List Nat) (s : Nat) (e : Ending) (w' : World) : Prop :=
  ∃ c zs, e = .returned (.int .u64 ((c : Nat) : Int)) ∧ c < 2 ^ s ∧ zs.length = xs.length ∧ Wd zs ∧ Blk w' bz (spl Z oz zs) ∧ Fr [bz] w w' ∧ vl zs + Bw ^ xs.length * c = vl xs * 2 ^ s

theorem lsh_step {k n x y s c p : Nat} {zs T : List Nat} (hs : s ≤ 64) (h : vl zs + p * c = vl T * 2 ^ s + shrW x (64 - s)) :
    vl ((shlW x s + y) :: zs) + (Bw * p) * c = vl (x :: T) * 2 ^ s + y := by
  have h1 := shl_shr (x := x) hs
  rw [vl_cons, vl_cons]
  generalize shlW x s = l at *
  generalize shrW x (64 - s) = r at *
  generalize Bw = B at *
  generalize 2 ^ s = q at *
  have : B * (vl zs + p * c) = B * (vl T * q + r) := by rw [h]
  grind

set_option maxRecDepth 100000 in
set_option maxHeartbeats 800000 in
theorem lshVU_g (bz oz cz bx ox cx n : Nat) (Z xs : List Nat) (s : Nat) (w : World) (hZ : Blk w bz Z) (hX : Row w bx ox xs) (wX : Wd xs)
    (hl : xs.length ≤ n) (hl' : n ≤ xs.length) (hz : oz + n ≤ Z.length)
    (hn : n ≤ 1000000) (hn0 : 0 < n) (hover : bx = bz → ox ≤ oz ∨ oz + n ≤ ox) (hs : s < 64) (hs0 : 0 < s) :
    Calls Tryz.prog 184 #[.slice (some ⟨bz, oz, none⟩) n cz, .slice (some ⟨bx, ox, none⟩) n cx, .int .u64 s] w (LshPost w bz oz Z xs s) := by
  have hne : (((s : Int)) == 0) = false := by simp; omega
  have hne2 : ((n : Int) == 0) = false := by simp; omega
  have hx := hX (n - 1) (by omega)
  have a1 := and63 hs
  have a2 : ((64 : Int) - (s : Int)) = ((64 - s : Nat) : Int) := by omega
  have a3 := and63 (show 64 - s < 64 by omega)
  have e1 := kw_shl (Nat.le_of_lt hs)
  have e2 := kw_shr (show 64 - s ≤ 64 by omega)
  have e3 := fun (x y : Nat) (hy : y < Bw) => or_join (x := x) (Nat.le_of_lt hs) (shrW_small hy (Nat.le_of_lt hs))
  have e4 := fun (x y : Nat) (hy : y < Bw) => shl_add_lt (x := x) (Nat.le_of_lt hs) (shrW_small hy (Nat.le_of_lt hs))
  have e5 := fun (x : Nat) (hx : x < Bw) => shrW_small hx (Nat.le_of_lt hs)
  have e6 := fun (p x y c : Nat) (zs T : List Nat) => lsh_step (k := 0) (n := 0) (p := p) (x := x) (y := y) (c := c) (zs := zs) (T := T) (Nat.le_of_lt hs)
  have hs' := Lib.hid hs
  obtain ⟨t, ht⟩ : ∃ t, 64 - s = t := ⟨_, rfl⟩
  rw [ht] at a2 a3 e2 e3 e4 e5 e6
  have E4 := Lib.hid e4
  have E5 := Lib.hid e5
  have E6 := Lib.hid e6
  have E3 := Lib.hid e3
  clear hs hs0 ht e3 e4 e5 e6
  go_enter Tryz.func184, Tryz.ntmps184
  go_wp2
  go_loopw [8] (fun i8 wr => ∃ k : Nat, ∃ zs : List Nat, k < n ∧ i8 = .int .i64 k ∧ zs.length + k + 1 = n ∧ Down w bz (oz + k + 1) Z zs wr ∧ RowTo wr bx ox xs (k + 1) ∧ Hid (vl zs + Bw ^ zs.length * shrW (xs.getD (n - 1) 0) t = vl (xs.drop (k + 1)) * 2 ^ s + shrW (xs.getD k 0) t)) (fun i8 _ => (intOf i8).toNat)
  case atStart => exact ⟨n - 1, [], by omega, by rw [show ((n - 1 : Nat) : Int) = (n : Int) - 1 by omega], by simp; omega, Down.zero hZ, RowTo.start hX _, Lib.hid (by rw [List.drop_eq_nil_of_le (by omega)]; simp)⟩
  case round =>
    obtain ⟨k, zs, hk, rfl, hlen, hD, hR, hE⟩ := hrel
    have hlen' := Lib.hid hlen
    clear hlen
    by_cases hlt : 0 < k
    · have hx := hR k (by omega) (by omega)
      have hy := hR (k - 1) (by omega) (by omega)
      obtain ⟨v0, hz1⟩ := hD.cell (by have := hlen'.out; omega) (oz + k) (by omega)
      have hz2 := hD.blk.frozen (oz + k)
      have hdc := drop_eq_cons (l := xs) (i := k) (by omega)
      have xw := wX.getD k
      have yw := wX.getD (k - 1)
      have hE0 := hE.out
      generalize xs.getD k 0 = x at hx hdc xw hE0
      obtain ⟨y, hyy⟩ : ∃ y, xs.getD (k - 1) 0 = y := ⟨_, rfl⟩
      rw [hyy] at hy yw
      have e3 := E3.out x y yw
      have hs1 := hD.step (E4.out x y yw) (by omega)
      have hs2 := hR.step (bz := bz) (oz := oz) (n := n) hover (by omega) (.int .u64 (((shlW x s + shrW y t : Nat)) : Int))
      have hE2 := E6.out (Bw ^ zs.length) x (shrW y t) (shrW (xs.getD (n - 1) 0) t) zs (xs.drop (k + 1)) hE0
      have hE3 : Hid (vl ((shlW x s + shrW y t) :: zs) + Bw ^ ((shlW x s + shrW y t) :: zs).length * shrW (xs.getD (n - 1) 0) t = vl (xs.drop (k - 1 + 1)) * 2 ^ s + shrW (xs.getD (k - 1) 0) t) := by
        rw [show k - 1 + 1 = k by omega, hdc, List.length_cons, Nat.pow_succ, Nat.mul_comm (Bw ^ zs.length), hyy]
        exact hE2
      clear hE2 hE0 hdc hyy
      go_wp2
      go_region
      go_wp2
      go_roundw
      case rel => exact ⟨k - 1, _, by omega, by rw [show ((k - 1 : Nat) : Int) = (k : Int) - 1 by omega], by have := hlen'.out; simp; omega, by rw [show oz + (k - 1) + 1 = oz + k by omega]; exact hs1.drewN 1, by rw [show k - 1 + 1 = k by omega]; exact hs2, hE3⟩
      case measure => simp [intOf]; omega
    · have hk0 : k = 0 := by omega
      subst hk0
      have hx := hR 0 (by omega) (by omega)
      obtain ⟨v0, hz1⟩ := hD.cell (by have := hlen'.out; omega) (oz + 0) (by omega)
      have hz2 := hD.blk.frozen (oz + 0)
      simp only [Nat.add_zero] at hx hz1 hz2
      have hs1 := hD.step (shlW_lt (xs.getD 0 0) s) (by omega)
      have hE2 := E6.out (Bw ^ zs.length) (xs.getD 0 0) 0 (shrW (xs.getD (n - 1) 0) t) zs (xs.drop 1) hE.out
      have hfin : LshPost w bz oz Z xs s (.returned (.int .u64 ((shrW (xs.getD (n - 1) 0) t : Nat) : Int))) (wr.setCell ⟨bz, oz, none⟩ (.int .u64 (shlW (xs.getD 0 0) s : Int))) := by
        refine ⟨_, _, rfl, E5.out _ (wX.getD _), ?_, hs1.wd, hs1.blk, hs1.fr, ?_⟩
        · have := hlen'.out; simp; omega
        · have hxs : xs.getD 0 0 :: xs.drop 1 = xs := (drop_eq_cons (l := xs) (i := 0) (by omega)).symm.trans (by simp)
          rw [hxs, Nat.add_zero, Nat.add_zero] at hE2
          rw [← hE2, ← Nat.pow_succ', show zs.length.succ = xs.length by have := hlen'.out; omega]
      clear hE2
      go_wp2
      go_ret
      exact hfin

set_option maxRecDepth 100000 in
set_option maxHeartbeats 400000 in
theorem lshVU (bz oz cz bx ox cx n : Nat) (Z xs : List Nat) (s : Nat) (w : World) (hZ : Blk w bz Z) (hX : Row w bx ox xs) (wX : Wd xs)
    (hl : xs.length ≤ n) (hl' : n ≤ xs.length) (hz : oz + n ≤ Z.length)
    (hn : n ≤ 1000000) (hn0 : 0 < n) (hover : bx = bz → ox ≤ oz ∨ oz + n ≤ ox) (hs : s < 64) (hs0 : 0 < s) :
    Calls Tryz.prog 124 #[.slice (some ⟨bz, oz, none⟩) n cz, .slice (some ⟨bx, ox, none⟩) n cx, .int .u64 s] w (LshPost w bz oz Z xs s) := by
  go_enter Tryz.func124, Tryz.ntmps124
  go_wp2_with (go_at_call 184; refine (lshVU_g bz oz cz bx ox cx n Z xs s _ hZ hX wX hl hl' hz hn hn0 hover hs hs0).mono ?_; rintro e w' ⟨c, zs, rfl, hc⟩)
  have hfin : LshPost w bz oz Z xs s (.returned (.int .u64 ((c : Nat) : Int))) w' := ⟨c, zs, rfl, hc⟩
  go_ret
  exact hfin

/-- rshVU hands back (what it drives out nobody reads here). -/
def RshPost (w : World) (bz oz : Nat) (Z xs : List Nat) (s : Nat) (e : Ending) (w' : World) : Prop :=
  ∃ c zs, e = .returned (.int .u64 ((c : Nat) : Int)) ∧ Up w bz oz Z zs xs.length w' ∧ vl zs = vl xs / 2 ^ s

theorem rsh_start {x s : Nat} (hs : s ≤ 64) : shrW x s = x / 2 ^ s := by unfold shrW; rw [Nat.min_eq_left hs]

theorem rsh_step {k x y s X : Nat} {zs : List Nat} (hs : s ≤ 64) (hl : zs.length = k) (h : vl zs + Bw ^ k * shrW x s = X / 2 ^ s) :
    vl (zs ++ [shlW y (64 - s) + shrW x s]) + Bw ^ (k + 1) * shrW y s = (X + Bw ^ (k + 1) * y) / 2 ^ s := by
  have h1 := shl_shr (x := y) (s := 64 - s) (by omega)
  rw [show 64 - (64 - s) = s by omega] at h1
  have e : Bw ^ (k + 1) * y = Bw ^ k * (y * 2 ^ (64 - s)) * 2 ^ s := by
    have := Bw_split hs
    rw [Nat.pow_succ]
    generalize Bw ^ k = p
    rw [this]
    generalize 2 ^ (64 - s) = a
    generalize 2 ^ s = b
    grind
  rw [e, Nat.add_mul_div_right _ _ (Nat.two_pow_pos s), ← h, h1, vl_snoc, hl, Nat.pow_succ]
  generalize Bw ^ k = p
  generalize Bw = B
  grind

set_option maxRecDepth 100000 in
set_option maxHeartbeats 800000 in
theorem rshVU_g (bz oz cz bx ox cx n : Nat) (Z xs : List Nat) (s : Nat) (w : World) (hZ : Blk w bz Z) (hX : Row w bx ox xs) (wX : Wd xs)
    (hl : xs.length ≤ n) (hl' : n ≤ xs.length) (hz : oz + n ≤ Z.length)
    (hn : n ≤ 1000000) (hn0 : 0 < n) (hover : bx = bz → oz ≤ ox ∨ ox + n ≤ oz) (hs : s < 64) (hs0 : 0 < s) :
    Calls Tryz.prog 199 #[.slice (some ⟨bz, oz, none⟩) n cz, .slice (some ⟨bx, ox, none⟩) n cx, .int .u64 s] w (RshPost w bz oz Z xs s) := by
  have hne : (((s : Int)) == 0) = false := by simp; omega
  have hne2 : ((n : Int) == 0) = false := by simp; omega
  have hx := hX 0 (by omega)
  simp only [Nat.add_zero] at hx
  have a1 := and63 hs
  have a2 : ((64 : Int) - (s : Int)) = ((64 - s : Nat) : Int) := by omega
  have a3 := and63 (show 64 - s < 64 by omega)
  have e1 := kw_shl (show 64 - s ≤ 64 by omega)
  have e2 := kw_shr (Nat.le_of_lt hs)
  have e3 := fun (x y : Nat) (hx : x < Bw) => or_join' (x := y) (s := 64 - s) (r := shrW x s) (by omega) (by have := shrW_small (x := x) (s := 64 - s) hx (by omega); rw [show 64 - (64 - s) = s by omega] at this; exact this)
  have e4 := fun (x y : Nat) (hx : x < Bw) => shl_add_lt (x := y) (s := 64 - s) (r := shrW x s) (by omega) (by have := shrW_small (x := x) (s := 64 - s) hx (by omega); rw [show 64 - (64 - s) = s by omega] at this; exact this)
  have e5 := fun (x : Nat) => rsh_start (x := x) (Nat.le_of_lt hs)
  have e6 := fun (k x y X : Nat) (zs : List Nat) => rsh_step (k := k) (x := x) (y := y) (X := X) (zs := zs) (Nat.le_of_lt hs)
  have hs' := Lib.hid hs
  obtain ⟨t, ht⟩ : ∃ t, 64 - s = t := ⟨_, rfl⟩
  rw [ht] at a2 a3 e1 e3 e4
  simp only [ht] at e6
  have E4 := Lib.hid e4
  have E5 := Lib.hid e5
  have E6 := Lib.hid e6
  have E3 := Lib.hid e3
  clear hs hs0 ht e3 e4 e5 e6
  go_enter Tryz.func199, Tryz.ntmps199
  go_wp2
  go_loopw [8] (fun i8 wr => ∃ k : Nat, ∃ zs : List Nat, k < n ∧ i8 = .int .i64 ((k : Int) + 1) ∧ Up w bz oz Z zs k wr ∧ RowFrom wr bx ox xs k ∧ Hid (vl zs + Bw ^ k * shrW (xs.getD k 0) s = vl (xs.take (k + 1)) / 2 ^ s)) (fun i8 _ => n - (intOf i8).toNat)
  case atStart => exact ⟨0, [], by omega, rfl, Up.zero hZ, RowFrom.start hX, Lib.hid (by rw [take_succ_eq (by omega), E5.out]; simp [vl_cons])⟩
  case round =>
    obtain ⟨k, zs, hk, rfl, hU, hR, hE⟩ := hrel
    by_cases hlt : k + 1 < n
    · have hx := hR k (by omega) (by omega)
      have hy := hR (k + 1) (by omega) (by omega)
      obtain ⟨v0, hz1⟩ := hU.cell (by omega)
      have hz2 := hU.frozen
      have xw := wX.getD k
      have yw := wX.getD (k + 1)
      obtain ⟨y, hyy⟩ : ∃ y, xs.getD (k + 1) 0 = y := ⟨_, rfl⟩
      have hE0 : Hid (vl (zs ++ [shlW y t + shrW (xs.getD k 0) s]) + Bw ^ (k + 1) * shrW (xs.getD (k + 1) 0) s = vl (xs.take (k + 1 + 1)) / 2 ^ s) := by
        have h1 := E6.out k (xs.getD k 0) y _ zs hU.len hE.out
        rw [hyy, vl_take_succ (i := k + 1) (by omega), hyy]
        exact h1
      rw [hyy] at hy yw
      generalize xs.getD k 0 = x at hx xw hE0
      have e3 := E3.out x y xw
      have hs1 := hU.step (E4.out x y xw) (by omega)
      have hs2 := hR.step (bz := bz) (oz := oz) (fun e => by have := hover e; omega) (.int .u64 (((shlW y t + shrW x s : Nat)) : Int))
      clear hyy
      go_wp2
      go_region
      go_wp2
      go_roundw
      case rel => exact ⟨k + 1, _, by omega, by go_num, hs1.drewN 1, hs2, hE0⟩
      case measure => simp [intOf]; omega
    · have hk0 : n - 1 = k := by omega
      have hx := hR k (by omega) (by omega)
      obtain ⟨v0, hz1⟩ := hU.cell (by omega)
      have hz2 := hU.frozen
      have hs1 := hU.step (shrW_lt (s := s) (wX.getD k)) (by omega)
      rw [← hk0] at hx hz1 hz2
      have hfin : ∀ c : Nat, RshPost w bz oz Z xs s (.returned (.int .u64 (c : Int))) (wr.setCell ⟨bz, oz + (n - 1), none⟩ (.int .u64 (shrW (xs.getD (n - 1) 0) s : Int))) := by
        intro c
        rw [hk0]
        refine ⟨c, _, rfl, by rw [show xs.length = k + 1 by omega]; exact hs1, ?_⟩
        rw [vl_snoc, hU.len, hE.out, List.take_of_length_le (by omega)]
      clear hk0 hs1
      go_wp2
      go_ret
      exact hfin _

set_option maxRecDepth 100000 in
set_option maxHeartbeats 400000 in
theorem rshVU (bz oz cz bx ox cx n : Nat) (Z xs : List Nat) (s : Nat) (w : World) (hZ : Blk w bz Z) (hX : Row w bx ox xs) (wX : Wd xs)
    (hl : xs.length ≤ n) (hl' : n ≤ xs.length) (hz : oz + n ≤ Z.length)
    (hn : n ≤ 1000000) (hn0 : 0 < n) (hover : bx = bz → oz ≤ ox ∨ ox + n ≤ oz) (hs : s < 64) (hs0 : 0 < s) :
    Calls Tryz.prog 159 #[.slice (some ⟨bz, oz, none⟩) n cz, .slice (some ⟨bx, ox, none⟩) n cx, .int .u64 s] w (RshPost w bz oz Z xs s) := by
  go_enter Tryz.func159, Tryz.ntmps159
  go_wp2_with (go_at_call 199; refine (rshVU_g bz oz cz bx ox cx n Z xs s _ hZ hX wX hl hl' hz hn hn0 hover hs hs0).mono ?_; rintro e w' ⟨c, zs, rfl, hc⟩)
  have hfin : RshPost w bz oz Z xs s (.returned (.int .u64 ((c : Nat) : Int))) w' := ⟨c, zs, rfl, hc⟩
  go_ret
  exact hfin
end Go.Proofs.YtpmggjplfcjkkaaGreatDoor

/- Whether two words lie at one address; the sum and the difference of a row and a word. -/
set_option linter.unusedVariables false
set_option linter.unusedSimpArgs false
namespace Go.Proofs.YtpmggjplfcjkkaaGreatDoor
open Go.RowKit Nq

theorem wordPtr : Tryz.prog.underlying 350 = some (.pointer 168) := by kernel_rfl
theorem wordInfo : (Tryz.prog.info? 168).map (fun i => (i.zero, i.size, i.bytes)) = some (some (.int .u64 0), 1, 8) := by kernel_rfl
theorem wordSize : (Tryz.prog.info? 168).map (·.size) = some 1 := by kernel_rfl

theorem run_equalIn_word_same (d : Nat) (w : World) (a : Addr) : (Op.equalIn (d + 1) 350 (.pointer (some a)) (.pointer (some a))).run Tryz.prog w = .ok true w := by
  obtain ⟨i0, hi, hz0, hz1, hz2⟩ := info_parts wordInfo
  simp [Op.equalIn, run_underlying wordPtr, sizeOf, typeInfo, hi, run_sameAddr_same]
theorem run_equalIn_word_other (d : Nat) (w : World) {a b : Addr} {ca cb : Array Value} {ta tb : TypeId} (hne : a ≠ b) (ha : w.heap[a.block]? = some (.cells ca ta (0, 0))) (hb : w.heap[b.block]? = some (.cells cb tb (0, 0))) :
    (Op.equalIn (d + 1) 350 (.pointer (some a)) (.pointer (some b))).run Tryz.prog w = .ok false w := by
  obtain ⟨i0, hi, hz0, hz1, hz2⟩ := info_parts wordInfo
  simp [Op.equalIn, run_underlying wordPtr, sizeOf, typeInfo, hi, hz1, run_sameAddr_other w hne ha hb]
theorem run_eql_word_same (w : World) (a : Addr) : (binOp .eql 350 (.pointer (some a)) (.pointer (some a))).run Tryz.prog w = .ok (.bool true) w := by
  simp only [binOp]
  simp [Op.equal, Op.maxDepth, run_equalIn_word_same 9999]
theorem run_neq_word_same (w : World) (a : Addr) : (binOp .neq 350 (.pointer (some a)) (.pointer (some a))).run Tryz.prog w = .ok (.bool false) w := by
  simp only [binOp]
  simp [Op.equal, Op.maxDepth, run_equalIn_word_same 9999]
theorem run_eql_word_other (w : World) {b c o p : Nat} {Z X : List Nat} (hne : b ≠ c ∨ o ≠ p) (ha : Blk w b Z) (hb : Blk w c X) : (binOp .eql 350 (.pointer (some ⟨b, o, none⟩)) (.pointer (some ⟨c, p, none⟩))).run Tryz.prog w = .ok (.bool false) w := by
  have h := run_equalIn_word_other 9999 w (a := ⟨b, o, none⟩) (b := ⟨c, p, none⟩) (by intro e; injection e with e1 e2; rcases hne with h | h <;> contradiction) ha hb
  simp only [binOp]
  simp [Op.equal, Op.maxDepth, h]
theorem run_neq_word_other (w : World) {b c o p : Nat} {Z X : List Nat} (hne : b ≠ c ∨ o ≠ p) (ha : Blk w b Z) (hb : Blk w c X) : (binOp .neq 350 (.pointer (some ⟨b, o, none⟩)) (.pointer (some ⟨c, p, none⟩))).run Tryz.prog w = .ok (.bool true) w := by
  have h := run_equalIn_word_other 9999 w (a := ⟨b, o, none⟩) (b := ⟨c, p, none⟩) (by intro e; injection e with e1 e2; rcases hne with h | h <;> contradiction) ha hb
  simp only [binOp]
  simp [Op.equal, Op.maxDepth, h]

theorem sliceNat : Tryz.prog.underlying 96 = some (.slice 168) := by kernel_rfl
theorem sliceNat' : Tryz.prog.underlying 97 = some (.slice 168) := by kernel_rfl

/-- Where a row that is cut ahead begins, as the model has it. -/
theorem adr_cut {b o c k : Nat} : (if c = k then (some ⟨b, o, none⟩ : Option Addr) else some ⟨b, o + k, none⟩) = some ⟨b, if c = k then o else o + k, none⟩ := by split <;> rfl

/-- copy(z[k:], x[k:]) in two rows that lie apart, whatever is left of them. -/
theorem run_copy_cut (ty : TypeId) (w : World) (bz oz cz bx ox cx n k : Nat) (Z xs : List Nat) (hZ : Blk w bz Z) (hX : Row w bx ox xs) (hl : xs.length ≤ n) (hl' : n ≤ xs.length) (hk : k ≤ n) (hz : oz + n ≤ Z.length) (hcz : n ≤ cz) (hcx : n ≤ cx) :
    (Builtin.copy_ #[96, 96] ty #[.slice (if cz = k then some ⟨bz, oz, none⟩ else some ⟨bz, oz + k, none⟩) (n - k) (cz - k), .slice (if cx = k then some ⟨bx, ox, none⟩ else some ⟨bx, ox + k, none⟩) (n - k) (cx - k)]).run Tryz.prog w =
      .ok (.int .i64 ((n - k : Nat) : Int)) (putW w bz (spl Z (oz + k) (xs.drop k))) := by
  rw [adr_cut, adr_cut]
  by_cases hkn : k = n
  · have hd : xs.drop k = [] := List.drop_eq_nil_of_le (by omega)
    rw [run_copy_words 96 96 ty sliceNat wordSize w bz _ (n - k) _ bx _ (n - k) _ Z [] hZ (Row.nil _ _ _) (by simp; omega) (by simp; split <;> omega)]
    rw [hd, spl_nil, spl_nil, hkn]
    simp
  · rw [if_neg (by omega), if_neg (by omega), run_copy_words 96 96 ty sliceNat wordSize w bz _ (n - k) _ bx _ (n - k) _ Z (xs.drop k) hZ (hX.drop k) (by simp; omega) (by simp; omega)]
    simp
    omega

/-- addVW hands back. -/
def AddWPost (w : World) (bz oz : Nat) (Z xs : List Nat) (y : Nat) (e : Ending) (w' : World) : Prop :=
  ∃ c zs, e = .returned (.int .u64 ((c : Nat) : Int)) ∧ c ≤ 1 ∧ zs.length = xs.length ∧ Wd zs ∧ Blk w' bz (spl Z oz zs) ∧ Fr [bz] w w' ∧ vl zs + Bw ^ xs.length * c = vl xs + y

/-- Behind a sum without a carry the rest is copied. -/
theorem addW_rest {w : World} {bz oz : Nat} {Z zs xs : List Nat} {y k : Nat} {w' w2 : World} (hU : Up w bz oz Z zs k w') (hk : k ≤ xs.length) (wX : Wd xs) (hz : oz + xs.length ≤ Z.length) (hE : vl zs = vl (xs.take k) + y)
    (h2 : Blk w2 bz (spl (spl Z oz zs) (oz + k) (xs.drop k))) (hf : Fr [bz] w' w2) : AddWPost w bz oz Z xs y (.returned (.int .u64 0)) w2 := by
  refine ⟨0, zs ++ xs.drop k, rfl, by omega, by simp [hU.len]; omega, hU.wd.append (wX.drop _), ?_, hU.fr.trans hf, ?_⟩
  · have : spl (spl Z oz zs) (oz + k) (xs.drop k) = spl Z oz (zs ++ xs.drop k) := by
      have hl := hU.len
      simp only [spl]
      rw [← hl]
      have e1 : (List.take oz Z ++ (zs ++ List.drop (oz + zs.length) Z)).take (oz + zs.length) = List.take oz Z ++ zs := by
        rw [← List.append_assoc, List.take_append_of_le_length (by simp; omega), List.take_of_length_le (by simp; omega)]
      have e2 : (List.take oz Z ++ (zs ++ List.drop (oz + zs.length) Z)).drop (oz + zs.length + (List.drop zs.length xs).length) = List.drop (oz + (zs ++ List.drop zs.length xs).length) Z := by
        rw [← List.append_assoc, List.drop_append, List.drop_eq_nil_of_le (by simp; omega), List.nil_append, List.drop_drop]
        congr 1
        simp
        omega
      rw [e1, e2]
      simp
    rw [← this]; exact h2
  · rw [vl_append, hU.len, hE, vl_split xs k hk]; omega

theorem addW_full {k x y V V' : Nat} {zs : List Nat} (hl : zs.length = k) (h : vl zs + Bw ^ k * 1 = V + y) (hx : x = Bw - 1) (hV : V' = V + Bw ^ k * x) : vl (zs ++ [0]) + Bw ^ (k + 1) * 1 = V' + y := by
  have hp := Bw_pos
  rw [hV, vl_snoc, hl, Nat.pow_succ]
  obtain ⟨b, hb⟩ : ∃ b, Bw = b + 1 := ⟨Bw - 1, by omega⟩
  have hx' : x = b := by omega
  subst hx'
  rw [hb] at h ⊢
  generalize (x + 1) ^ k = p at *
  grind
theorem addW_one {k x y V V' : Nat} {zs : List Nat} (hl : zs.length = k) (h : vl zs + Bw ^ k * 1 = V + y) (hV : V' = V + Bw ^ k * x) : vl (zs ++ [x + 1]) = V' + y := by
  rw [hV, vl_snoc, hl]
  generalize Bw ^ k = p at *
  grind

theorem one_carry {x y c : Nat} (hx : x < Bw) (hy : y < Bw) : addHi x y 0 = 0 ∨ addHi x y 0 = 1 := by
  have := addHi_le hx hy (c := 0) (by omega); omega

set_option maxRecDepth 100000 in
set_option maxHeartbeats 800000 in
/-- The rows lie apart. -/
theorem addVW_apart (bz oz cz bx ox cx n : Nat) (Z X xs : List Nat) (y : Nat) (w : World) (hZ : Blk w bz Z) (hX : Row w bx ox xs) (hBX : Blk w bx X) (wX : Wd xs)
    (hl : xs.length ≤ n) (hl' : n ≤ xs.length) (hz : oz + n ≤ Z.length) (hn : n ≤ 1000000) (hn0 : 0 < n) (hcz : n ≤ cz) (hcx : n ≤ cx) (hover : bx ≠ bz) (hy : y < Bw) :
    Calls Tryz.prog 156 #[.slice (some ⟨bz, oz, none⟩) n cz, .slice (some ⟨bx, ox, none⟩) n cx, .int .u64 y] w (AddWPost w bz oz Z xs y) := by
  have hne2 : ((n : Int) == 0) = false := by simp; omega
  have hx := hX 0 (by omega)
  have hz1 := hZ.cell oz (by omega)
  have hz2 := hZ.frozen oz
  simp only [Nat.add_zero] at hx
  have x0w := wX.getD 0
  have hv0 : vl (xs.take 1) = xs.getD 0 0 := by rw [take_succ_eq (by omega)]; simp [vl_cons]
  generalize xs.getD 0 0 = x0 at hx hv0 x0w
  have hU1 : Up w bz oz Z ([] ++ [addLo x0 y 0]) (0 + 1) (w.setCell ⟨bz, oz + 0, none⟩ (.int .u64 (addLo x0 y 0 : Int))) := (Up.zero hZ).step (addLo_lt _ _ _) (by omega)
  simp only [List.nil_append, Nat.zero_add, Nat.add_zero] at hU1
  have hq := add_eq x0 y 0
  rcases one_carry (c := 0) x0w hy with hc0 | hc1
  · obtain ⟨W, hW⟩ : ∃ W, w.setCell ⟨bz, oz, none⟩ (.int .u64 (addLo x0 y 0 : Int)) = W := ⟨_, rfl⟩
    rw [hW] at hU1
    have hWX : Blk W bx X := hW ▸ hBX.set_ne (Ne.symm hover) _ _
    have hWR : Row W bx ox xs := hX.fr hU1.fr (by simp; exact hover)
    have hpn : ∀ nq, (binOp .neq 350 (.pointer (some ⟨bz, oz, none⟩)) (.pointer (some ⟨bx, ox, none⟩))).run Tryz.prog (W.drewN nq) = .ok (.bool true) (W.drewN nq) :=
      fun nq => run_neq_word_other _ (.inl (Ne.symm hover)) (hU1.blk.drewN nq) (hWX.drewN nq)
    have hcp2 := fun nq ty => run_copy_cut ty (W.drewN nq) bz oz cz bx ox cx n 1 _ xs (hU1.blk.drewN nq) (hWR.drewN nq) hl hl' (by omega) (by rw [spl_length _ _ _ (by simp; omega)]; omega) hcz hcx
    have hfin : ∀ nq, AddWPost w bz oz Z xs y (.returned (.int .u64 0)) (putW (W.drewN nq) bz (spl (spl Z oz [addLo x0 y 0]) (oz + 1) (xs.drop 1))) := fun nq =>
      addW_rest hU1 (by omega) wX (by omega) (by rw [hv0]; simp [vl_cons]; rw [hc0] at hq; omega) (putW_spec (hU1.blk.drewN nq)).1 (((Fr.refl [bz] W).drewN nq).trans (putW_spec (hU1.blk.drewN nq)).2)
    obtain ⟨W2, hW2⟩ : ∃ W2 : Nat → World, ∀ nq, putW (W.drewN nq) bz (spl (spl Z oz [addLo x0 y 0]) (oz + 1) (xs.drop 1)) = W2 nq := ⟨_, fun _ => rfl⟩
    simp only [hW2] at hfin hcp2
    clear hW2 hv0 hq hU1 hWX hWR
    go_enter Tryz.func156, Tryz.ntmps156
    go_wp2_with (go_at_call 196; refine (bitsAdd0 _ _ _).mono ?_; rintro e w' ⟨rfl, rfl⟩)
    go_quiet (fail)
    go_wp2
    go_region
    all_goals (go_wp2; all_goals (go_ret; exact hfin _))
  · rw [hc1] at hq
    go_enter Tryz.func156, Tryz.ntmps156
    go_wp2_with (go_at_call 196; refine (bitsAdd0 _ _ _).mono ?_; rintro e w' ⟨rfl, rfl⟩)
    go_loopw [6, 9, 10] (fun _ i9 _ wr => ∃ k : Nat, ∃ zs : List Nat, k ≤ n ∧ 1 ≤ k ∧ i9 = .int .i64 (k : Int) ∧ Up w bz oz Z zs k wr ∧ Hid (vl zs + Bw ^ k * 1 = vl (xs.take k) + y)) (fun _ i9 _ _ => n - (intOf i9).toNat)
    case atStart => exact ⟨1, _, by omega, by omega, rfl, hU1, Lib.hid (by rw [hv0]; simp [vl_cons]; omega)⟩
    case round =>
      obtain ⟨k, zs, hk, hk1, rfl, hU, hE⟩ := hrel
      by_cases hlt : k < n
      · have hXr : Row wr bx ox xs := hX.fr hU.fr (by simp; exact hover)
        have hXb : Blk wr bx X := hBX.fr hU.fr (by simp; exact hover)
        have hx := hXr k (by omega)
        obtain ⟨v0, hz1⟩ := hU.cell (by omega)
        have hz2 := hU.frozen
        have xw := wX.getD k
        have hvk := vl_take_succ (l := xs) (i := k) (by omega)
        generalize xs.getD k 0 = x at hx xw hvk
        by_cases hmax : x = Bw - 1
        · have hb : ((x : Int) != 18446744073709551615) = false := by rw [hmax, Bw_eq]; rfl
          have hU2 := hU.step (x := 0) Bw_pos (by omega)
          have hE2 : Hid (vl (zs ++ [0]) + Bw ^ (k + 1) * 1 = vl (xs.take (k + 1)) + y) := Lib.hid (addW_full hU.len hE.out hmax hvk)
          clear hvk hmax
          go_wp2
          go_roundw
          case rel => exact ⟨k + 1, _, by omega, by omega, by go_num, hU2, hE2⟩
          case measure => simp [intOf]; omega
        · have hb : ((x : Int) != 18446744073709551615) = true := by rw [bne_iff_ne]; rw [Bw_eq] at hmax xw; omega
          have hU2 := hU.step (x := x + 1) (by omega) (by omega)
          have hxw : IntKind.u64.wrap ((x : Int) + 1) = (x : Int) + 1 := wrap_u64 (x + 1) (by omega)
          obtain ⟨W, hW⟩ : ∃ W, wr.setCell ⟨bz, oz + k, none⟩ (.int .u64 ((x : Int) + 1)) = W := ⟨_, rfl⟩
          have hU3 : Up w bz oz Z (zs ++ [x + 1]) (k + 1) W := hW ▸ hU2
          have hWX : Blk W bx X := hBX.fr hU3.fr (by simp; exact hover)
          have hWR : Row W bx ox xs := hX.fr hU3.fr (by simp; exact hover)
          have hpn : ∀ nq, (binOp .neq 350 (.pointer (some ⟨bz, oz, none⟩)) (.pointer (some ⟨bx, ox, none⟩))).run Tryz.prog (W.drewN nq) = .ok (.bool true) (W.drewN nq) :=
            fun nq => run_neq_word_other _ (.inl (Ne.symm hover)) (hU3.blk.drewN nq) (hWX.drewN nq)
          have hcp2 := fun nq ty => run_copy_cut ty (W.drewN nq) bz oz cz bx ox cx n (k + 1) _ xs (hU3.blk.drewN nq) (hWR.drewN nq) hl hl' (by omega) (by rw [spl_length _ _ _ (by simp [hU.len]; omega)]; omega) hcz hcx
          have hfin : ∀ nq, AddWPost w bz oz Z xs y (.returned (.int .u64 0)) (putW (W.drewN nq) bz (spl (spl Z oz (zs ++ [x + 1])) (oz + (k + 1)) (xs.drop (k + 1)))) := fun nq =>
            addW_rest hU3 (by omega) wX (by omega) (addW_one hU.len hE.out hvk) (putW_spec (hU3.blk.drewN nq)).1 (((Fr.refl [bz] W).drewN nq).trans (putW_spec (hU3.blk.drewN nq)).2)
          obtain ⟨W2, hW2⟩ : ∃ W2 : Nat → World, ∀ nq, putW (W.drewN nq) bz (spl (spl Z oz (zs ++ [x + 1])) (oz + (k + 1)) (xs.drop (k + 1))) = W2 nq := ⟨_, fun _ => rfl⟩
          simp only [hW2] at hfin hcp2
          clear hW2 hvk hmax hU2 hU3 hWX hWR hXr hXb
          go_wp2
          go_quiet (fail)
          go_wp2
          go_region
          all_goals (go_wp2; all_goals (go_ret; exact hfin _))
      · have hkn : k = xs.length := by omega
        have hfin : AddWPost w bz oz Z xs y (.returned (.int .u64 1)) wr := by
          have h2 := hE.out
          rw [List.take_of_length_le (by omega), hkn] at h2
          exact ⟨1, zs, rfl, by omega, hU.len.trans hkn, hU.wd, hU.blk, hU.fr, h2⟩
        clear hkn
        go_wp2
        go_ret
        exact hfin

/-- Where the row that is read is the one that is written, nothing need be copied. -/
theorem spl_self {Z zs xs : List Nat} {oz k : Nat} (hxs : (Z.drop oz).take xs.length = xs) (hl : zs.length = k) (hk : k ≤ xs.length) : spl Z oz (zs ++ xs.drop k) = spl Z oz zs := by
  simp only [spl, List.length_append, List.length_drop, hl, List.append_assoc]
  have : Z.drop (oz + k) = xs.drop k ++ Z.drop (oz + (k + (xs.length - k))) := by
    rw [show oz + (k + (xs.length - k)) = oz + xs.length by omega]
    have h1 : Z.drop oz = xs ++ Z.drop (oz + xs.length) := by
      conv => lhs; rw [← List.take_append_drop xs.length (Z.drop oz)]
      rw [hxs, List.drop_drop]
    rw [← List.drop_drop, h1, List.drop_append_of_le_length hk]
  rw [this]

theorem addW_rest_same {w : World} {bz oz : Nat} {Z zs xs : List Nat} {y k : Nat} {w' : World} (hU : Up w bz oz Z zs k w') (hxs : (Z.drop oz).take xs.length = xs) (hk : k ≤ xs.length) (wX : Wd xs) (hE : vl zs = vl (xs.take k) + y) :
    AddWPost w bz oz Z xs y (.returned (.int .u64 0)) w' := by
  refine ⟨0, zs ++ xs.drop k, rfl, by omega, by simp [hU.len]; omega, hU.wd.append (wX.drop _), by rw [spl_self hxs hU.len hk]; exact hU.blk, hU.fr, ?_⟩
  rw [vl_append, hU.len, hE, vl_split xs k hk]; omega

theorem Up.later {w : World} {bz oz : Nat} {Z zs xs : List Nat} {k : Nat} {w' : World} (hU : Up w bz oz Z zs k w') (hxs : (Z.drop oz).take xs.length = xs) (hk : k < xs.length) (hz : oz + xs.length ≤ Z.length) :
    w'.cell? ⟨bz, oz + k, none⟩ = some (.int .u64 ((xs.getD k 0 : Nat) : Int)) := by
  have h := hU.blk.cell (oz + k) (by rw [spl_length _ _ _ (by have := hU.len; omega)]; omega)
  rw [h]
  congr 3
  have : (spl Z oz zs) = spl Z oz (zs ++ xs.drop k) := (spl_self hxs hU.len (by omega)).symm
  rw [this]
  have h2 := spl_mid Z oz (zs ++ xs.drop k) (by omega)
  have h3 : (((spl Z oz (zs ++ xs.drop k)).drop oz).take (zs ++ xs.drop k).length).getD k 0 = (zs ++ xs.drop k).getD k 0 := by rw [h2]
  have hl := hU.len
  simp only [List.getD_eq_getElem?_getD, List.getElem?_take, List.getElem?_drop] at h3 ⊢
  rw [if_pos (by simp; omega)] at h3
  rw [h3, List.getElem?_append_right (by omega), List.getElem?_drop, hl]
  simp

set_option maxRecDepth 100000 in
set_option maxHeartbeats 800000 in
/-- The row is the one that is written. -/
theorem addVW_same (bz oz cz cx n : Nat) (Z xs : List Nat) (y : Nat) (w : World) (hZ : Blk w bz Z) (hxs : (Z.drop oz).take xs.length = xs) (wX : Wd xs)
    (hl : xs.length ≤ n) (hl' : n ≤ xs.length) (hz : oz + n ≤ Z.length) (hn : n ≤ 1000000) (hn0 : 0 < n) (hcz : n ≤ cz) (hcx : n ≤ cx) (hy : y < Bw) :
    Calls Tryz.prog 156 #[.slice (some ⟨bz, oz, none⟩) n cz, .slice (some ⟨bz, oz, none⟩) n cx, .int .u64 y] w (AddWPost w bz oz Z xs y) := by
  have hne2 : ((n : Int) == 0) = false := by simp; omega
  have hx := (Up.zero hZ).later hxs (by omega) (by omega)
  have hz2 := hZ.frozen oz
  simp only [Nat.add_zero] at hx
  have x0w := wX.getD 0
  have hv0 : vl (xs.take 1) = xs.getD 0 0 := by rw [take_succ_eq (by omega)]; simp [vl_cons]
  generalize xs.getD 0 0 = x0 at hx hv0 x0w
  have hU1 : Up w bz oz Z ([] ++ [addLo x0 y 0]) (0 + 1) (w.setCell ⟨bz, oz + 0, none⟩ (.int .u64 (addLo x0 y 0 : Int))) := (Up.zero hZ).step (addLo_lt _ _ _) (by omega)
  simp only [List.nil_append, Nat.zero_add, Nat.add_zero] at hU1
  have hq := add_eq x0 y 0
  have hpn : ∀ W : World, (binOp .neq 350 (.pointer (some ⟨bz, oz, none⟩)) (.pointer (some ⟨bz, oz, none⟩))).run Tryz.prog W = .ok (.bool false) W := fun W => run_neq_word_same W _
  have HX := Lib.hid hxs
  clear hxs
  rcases one_carry (c := 0) x0w hy with hc0 | hc1
  · have hfin : ∀ nq, AddWPost w bz oz Z xs y (.returned (.int .u64 0)) ((w.setCell ⟨bz, oz, none⟩ (.int .u64 (addLo x0 y 0 : Int))).drewN nq) := fun nq =>
      addW_rest_same (hU1.drewN nq) HX.out (by omega) wX (by rw [hv0]; simp [vl_cons]; rw [hc0] at hq; omega)
    clear hv0 hq hU1
    go_enter Tryz.func156, Tryz.ntmps156
    go_wp2_with (go_at_call 196; refine (bitsAdd0 _ _ _).mono ?_; rintro e w' ⟨rfl, rfl⟩)
    go_quiet (fail)
    go_wp2
    go_ret
    exact hfin _
  · rw [hc1] at hq
    go_enter Tryz.func156, Tryz.ntmps156
    go_wp2_with (go_at_call 196; refine (bitsAdd0 _ _ _).mono ?_; rintro e w' ⟨rfl, rfl⟩)
    go_loopw [6, 9, 10] (fun _ i9 _ wr => ∃ k : Nat, ∃ zs : List Nat, k ≤ n ∧ 1 ≤ k ∧ i9 = .int .i64 (k : Int) ∧ Up w bz oz Z zs k wr ∧ Hid (vl zs + Bw ^ k * 1 = vl (xs.take k) + y)) (fun _ i9 _ _ => n - (intOf i9).toNat)
    case atStart => exact ⟨1, _, by omega, by omega, rfl, hU1, Lib.hid (by rw [hv0]; simp [vl_cons]; omega)⟩
    case round =>
      obtain ⟨k, zs, hk, hk1, rfl, hU, hE⟩ := hrel
      by_cases hlt : k < n
      · have hx := hU.later HX.out (by omega) (by omega)
        have hz2 := hU.frozen
        have xw := wX.getD k
        have hvk := vl_take_succ (l := xs) (i := k) (by omega)
        generalize xs.getD k 0 = x at hx xw hvk
        by_cases hmax : x = Bw - 1
        · have hb : ((x : Int) != 18446744073709551615) = false := by rw [hmax, Bw_eq]; rfl
          have hU2 := hU.step (x := 0) Bw_pos (by omega)
          have hE2 : Hid (vl (zs ++ [0]) + Bw ^ (k + 1) * 1 = vl (xs.take (k + 1)) + y) := Lib.hid (addW_full hU.len hE.out hmax hvk)
          clear hvk hmax
          go_wp2
          go_roundw
          case rel => exact ⟨k + 1, _, by omega, by omega, by go_num, hU2, hE2⟩
          case measure => simp [intOf]; omega
        · have hb : ((x : Int) != 18446744073709551615) = true := by rw [bne_iff_ne]; rw [Bw_eq] at hmax xw; omega
          have hU2 := hU.step (x := x + 1) (by omega) (by omega)
          have hxw : IntKind.u64.wrap ((x : Int) + 1) = (x : Int) + 1 := wrap_u64 (x + 1) (by omega)
          have hfin : ∀ nq, AddWPost w bz oz Z xs y (.returned (.int .u64 0)) ((wr.setCell ⟨bz, oz + k, none⟩ (.int .u64 ((x : Int) + 1))).drewN nq) := fun nq =>
            addW_rest_same (hU2.drewN nq) HX.out (by omega) wX (addW_one hU.len hE.out hvk)
          clear hvk hmax hU2
          go_wp2
          go_quiet (fail)
          go_wp2
          go_ret
          exact hfin _
      · have hkn : k = xs.length := by omega
        have hfin : AddWPost w bz oz Z xs y (.returned (.int .u64 1)) wr := by
          have h2 := hE.out
          rw [List.take_of_length_le (by omega), hkn] at h2
          exact ⟨1, zs, rfl, by omega, hU.len.trans hkn, hU.wd, hU.blk, hU.fr, h2⟩
        clear hkn
        go_wp2
        go_ret
        exact hfin
/-! ### The difference -/
/-- subVW hands back. -/
def SubWPost (w : World) (bz oz : Nat) (Z xs : List Nat) (y : Nat) (e : Ending) (w' : World) : Prop :=
  ∃ c zs, e = .returned (.int .u64 ((c : Nat) : Int)) ∧ c ≤ 1 ∧ zs.length = xs.length ∧ Wd zs ∧ Blk w' bz (spl Z oz zs) ∧ Fr [bz] w w' ∧ vl zs + y = vl xs + Bw ^ xs.length * c

/-- Behind a sum without a carry the rest is copied. -/
theorem subW_rest {w : World} {bz oz : Nat} {Z zs xs : List Nat} {y k : Nat} {w' w2 : World} (hU : Up w bz oz Z zs k w') (hk : k ≤ xs.length) (wX : Wd xs) (hz : oz + xs.length ≤ Z.length) (hE : vl zs + y = vl (xs.take k))
    (h2 : Blk w2 bz (spl (spl Z oz zs) (oz + k) (xs.drop k))) (hf : Fr [bz] w' w2) : SubWPost w bz oz Z xs y (.returned (.int .u64 0)) w2 := by
  refine ⟨0, zs ++ xs.drop k, rfl, by omega, by simp [hU.len]; omega, hU.wd.append (wX.drop _), ?_, hU.fr.trans hf, ?_⟩
  · have : spl (spl Z oz zs) (oz + k) (xs.drop k) = spl Z oz (zs ++ xs.drop k) := by
      have hl := hU.len
      simp only [spl]
      rw [← hl]
      have e1 : (List.take oz Z ++ (zs ++ List.drop (oz + zs.length) Z)).take (oz + zs.length) = List.take oz Z ++ zs := by
        rw [← List.append_assoc, List.take_append_of_le_length (by simp; omega), List.take_of_length_le (by simp; omega)]
      have e2 : (List.take oz Z ++ (zs ++ List.drop (oz + zs.length) Z)).drop (oz + zs.length + (List.drop zs.length xs).length) = List.drop (oz + (zs ++ List.drop zs.length xs).length) Z := by
        rw [← List.append_assoc, List.drop_append, List.drop_eq_nil_of_le (by simp; omega), List.nil_append, List.drop_drop]
        congr 1
        simp
        omega
      rw [e1, e2]
      simp
    rw [← this]; exact h2
  · rw [vl_append, hU.len, vl_split xs k hk]; omega

theorem subW_full {k x y V V' : Nat} {zs : List Nat} (hl : zs.length = k) (h : vl zs + y = V + Bw ^ k * 1) (hx : x = 0) (hV : V' = V + Bw ^ k * x) : vl (zs ++ [Bw - 1]) + y = V' + Bw ^ (k + 1) * 1 := by
  have hp := Bw_pos
  rw [hV, vl_snoc, hl, Nat.pow_succ, hx]
  obtain ⟨b, hb⟩ : ∃ b, Bw = b + 1 := ⟨Bw - 1, by omega⟩
  rw [hb] at h ⊢
  generalize (b + 1) ^ k = p at *
  simp only [Nat.add_sub_cancel]
  grind
theorem subW_one {k x y V V' : Nat} {zs : List Nat} (hl : zs.length = k) (hx : x ≠ 0) (h : vl zs + y = V + Bw ^ k * 1) (hV : V' = V + Bw ^ k * x) : vl (zs ++ [x - 1]) + y = V' := by
  obtain ⟨p, rfl⟩ : ∃ p, x = p + 1 := ⟨x - 1, by omega⟩
  rw [hV, vl_snoc, hl, Nat.add_sub_cancel]
  generalize Bw ^ k = p at *
  grind

theorem one_borrow (x y : Nat) : subHi x y 0 = 0 ∨ subHi x y 0 = 1 := by
  have := subHi_le x y 0; omega

set_option maxRecDepth 100000 in
set_option maxHeartbeats 800000 in
/-- The rows lie apart. -/
theorem subVW_apart (bz oz cz bx ox cx n : Nat) (Z X xs : List Nat) (y : Nat) (w : World) (hZ : Blk w bz Z) (hX : Row w bx ox xs) (hBX : Blk w bx X) (wX : Wd xs)
    (hl : xs.length ≤ n) (hl' : n ≤ xs.length) (hz : oz + n ≤ Z.length) (hn : n ≤ 1000000) (hn0 : 0 < n) (hcz : n ≤ cz) (hcx : n ≤ cx) (hover : bx ≠ bz) (hy : y < Bw) :
    Calls Tryz.prog 211 #[.slice (some ⟨bz, oz, none⟩) n cz, .slice (some ⟨bx, ox, none⟩) n cx, .int .u64 y] w (SubWPost w bz oz Z xs y) := by
  have hne2 : ((n : Int) == 0) = false := by simp; omega
  have hx := hX 0 (by omega)
  have hz1 := hZ.cell oz (by omega)
  have hz2 := hZ.frozen oz
  simp only [Nat.add_zero] at hx
  have x0w := wX.getD 0
  have hv0 : vl (xs.take 1) = xs.getD 0 0 := by rw [take_succ_eq (by omega)]; simp [vl_cons]
  generalize xs.getD 0 0 = x0 at hx hv0 x0w
  have hU1 : Up w bz oz Z ([] ++ [subLo x0 y 0]) (0 + 1) (w.setCell ⟨bz, oz + 0, none⟩ (.int .u64 (subLo x0 y 0 : Int))) := (Up.zero hZ).step (subLo_lt _ _ _) (by omega)
  simp only [List.nil_append, Nat.zero_add, Nat.add_zero] at hU1
  have hq := sub_eq x0w hy (c := 0) (by omega)
  rcases one_borrow x0 y with hc0 | hc1
  · obtain ⟨W, hW⟩ : ∃ W, w.setCell ⟨bz, oz, none⟩ (.int .u64 (subLo x0 y 0 : Int)) = W := ⟨_, rfl⟩
    rw [hW] at hU1
    have hWX : Blk W bx X := hW ▸ hBX.set_ne (Ne.symm hover) _ _
    have hWR : Row W bx ox xs := hX.fr hU1.fr (by simp; exact hover)
    have hpn : ∀ nq, (binOp .neq 350 (.pointer (some ⟨bz, oz, none⟩)) (.pointer (some ⟨bx, ox, none⟩))).run Tryz.prog (W.drewN nq) = .ok (.bool true) (W.drewN nq) :=
      fun nq => run_neq_word_other _ (.inl (Ne.symm hover)) (hU1.blk.drewN nq) (hWX.drewN nq)
    have hcp2 := fun nq ty => run_copy_cut ty (W.drewN nq) bz oz cz bx ox cx n 1 _ xs (hU1.blk.drewN nq) (hWR.drewN nq) hl hl' (by omega) (by rw [spl_length _ _ _ (by simp; omega)]; omega) hcz hcx
    have hfin : ∀ nq, SubWPost w bz oz Z xs y (.returned (.int .u64 0)) (putW (W.drewN nq) bz (spl (spl Z oz [subLo x0 y 0]) (oz + 1) (xs.drop 1))) := fun nq =>
      subW_rest hU1 (by omega) wX (by omega) (by rw [hv0]; simp [vl_cons]; rw [hc0] at hq; omega) (putW_spec (hU1.blk.drewN nq)).1 (((Fr.refl [bz] W).drewN nq).trans (putW_spec (hU1.blk.drewN nq)).2)
    obtain ⟨W2, hW2⟩ : ∃ W2 : Nat → World, ∀ nq, putW (W.drewN nq) bz (spl (spl Z oz [subLo x0 y 0]) (oz + 1) (xs.drop 1)) = W2 nq := ⟨_, fun _ => rfl⟩
    simp only [hW2] at hfin hcp2
    clear hW2 hv0 hq hU1 hWX hWR
    go_enter Tryz.func211, Tryz.ntmps211
    go_wp2_with (go_at_call 230; refine (bitsSub0 _ _ _).mono ?_; rintro e w' ⟨rfl, rfl⟩)
    go_quiet (fail)
    go_wp2
    go_region
    all_goals (go_wp2; all_goals (go_ret; exact hfin _))
  · rw [hc1] at hq
    go_enter Tryz.func211, Tryz.ntmps211
    go_wp2_with (go_at_call 230; refine (bitsSub0 _ _ _).mono ?_; rintro e w' ⟨rfl, rfl⟩)
    go_loopw [6, 9, 10] (fun _ i9 _ wr => ∃ k : Nat, ∃ zs : List Nat, k ≤ n ∧ 1 ≤ k ∧ i9 = .int .i64 (k : Int) ∧ Up w bz oz Z zs k wr ∧ Hid (vl zs + y = vl (xs.take k) + Bw ^ k * 1)) (fun _ i9 _ _ => n - (intOf i9).toNat)
    case atStart => exact ⟨1, _, by omega, by omega, rfl, hU1, Lib.hid (by rw [hv0]; simp [vl_cons]; omega)⟩
    case round =>
      obtain ⟨k, zs, hk, hk1, rfl, hU, hE⟩ := hrel
      by_cases hlt : k < n
      · have hXr : Row wr bx ox xs := hX.fr hU.fr (by simp; exact hover)
        have hXb : Blk wr bx X := hBX.fr hU.fr (by simp; exact hover)
        have hx := hXr k (by omega)
        obtain ⟨v0, hz1⟩ := hU.cell (by omega)
        have hz2 := hU.frozen
        have xw := wX.getD k
        have hvk := vl_take_succ (l := xs) (i := k) (by omega)
        generalize xs.getD k 0 = x at hx xw hvk
        by_cases hmax : x = 0
        · have hb : ((x : Int) != 0) = false := by rw [hmax]; rfl
          have hU2 : Up w bz oz Z (zs ++ [Bw - 1]) (k + 1) (wr.setCell ⟨bz, oz + k, none⟩ (.int .u64 18446744073709551615)) := by
            have h := hU.step (x := Bw - 1) (by have := Bw_pos; omega) (by omega)
            rw [max_word] at h
            exact h
          have hE2 : Hid (vl (zs ++ [Bw - 1]) + y = vl (xs.take (k + 1)) + Bw ^ (k + 1) * 1) := Lib.hid (subW_full hU.len hE.out hmax hvk)
          clear hvk hmax
          go_wp2
          go_roundw
          case rel => exact ⟨k + 1, _, by omega, by omega, by go_num, hU2, hE2⟩
          case measure => simp [intOf]; omega
        · have hb : ((x : Int) != 0) = true := by rw [bne_iff_ne]; omega
          have hU2 := hU.step (x := x - 1) (by omega) (by omega)
          have hxw : IntKind.u64.wrap ((x : Int) - 1) = ((x - 1 : Nat) : Int) := by rw [← wrap_u64 (x - 1) (by omega)]; congr 1; omega
          obtain ⟨W, hW⟩ : ∃ W, wr.setCell ⟨bz, oz + k, none⟩ (.int .u64 ((x - 1 : Nat) : Int)) = W := ⟨_, rfl⟩
          have hU3 : Up w bz oz Z (zs ++ [x - 1]) (k + 1) W := hW ▸ hU2
          have hWX : Blk W bx X := hBX.fr hU3.fr (by simp; exact hover)
          have hWR : Row W bx ox xs := hX.fr hU3.fr (by simp; exact hover)
          have hpn : ∀ nq, (binOp .neq 350 (.pointer (some ⟨bz, oz, none⟩)) (.pointer (some ⟨bx, ox, none⟩))).run Tryz.prog (W.drewN nq) = .ok (.bool true) (W.drewN nq) :=
            fun nq => run_neq_word_other _ (.inl (Ne.symm hover)) (hU3.blk.drewN nq) (hWX.drewN nq)
          have hcp2 := fun nq ty => run_copy_cut ty (W.drewN nq) bz oz cz bx ox cx n (k + 1) _ xs (hU3.blk.drewN nq) (hWR.drewN nq) hl hl' (by omega) (by rw [spl_length _ _ _ (by simp [hU.len]; omega)]; omega) hcz hcx
          have hfin : ∀ nq, SubWPost w bz oz Z xs y (.returned (.int .u64 0)) (putW (W.drewN nq) bz (spl (spl Z oz (zs ++ [x - 1])) (oz + (k + 1)) (xs.drop (k + 1)))) := fun nq =>
            subW_rest hU3 (by omega) wX (by omega) (subW_one hU.len hmax hE.out hvk) (putW_spec (hU3.blk.drewN nq)).1 (((Fr.refl [bz] W).drewN nq).trans (putW_spec (hU3.blk.drewN nq)).2)
          obtain ⟨W2, hW2⟩ : ∃ W2 : Nat → World, ∀ nq, putW (W.drewN nq) bz (spl (spl Z oz (zs ++ [x - 1])) (oz + (k + 1)) (xs.drop (k + 1))) = W2 nq := ⟨_, fun _ => rfl⟩
          simp only [hW2] at hfin hcp2
          clear hW2 hvk hmax hU2 hU3 hWX hWR hXr hXb
          go_wp2
          go_quiet (fail)
          go_wp2
          go_region
          all_goals (go_wp2; all_goals (go_ret; exact hfin _))
      · have hkn : k = xs.length := by omega
        have hfin : SubWPost w bz oz Z xs y (.returned (.int .u64 1)) wr := by
          have h2 := hE.out
          rw [List.take_of_length_le (by omega), hkn] at h2
          exact ⟨1, zs, rfl, by omega, hU.len.trans hkn, hU.wd, hU.blk, hU.fr, h2⟩
        clear hkn
        go_wp2
        go_ret
        exact hfin

theorem subW_rest_same {w : World} {bz oz : Nat} {Z zs xs : List Nat} {y k : Nat} {w' : World} (hU : Up w bz oz Z zs k w') (hxs : (Z.drop oz).take xs.length = xs) (hk : k ≤ xs.length) (wX : Wd xs) (hE : vl zs + y = vl (xs.take k)) :
    SubWPost w bz oz Z xs y (.returned (.int .u64 0)) w' := by
  refine ⟨0, zs ++ xs.drop k, rfl, by omega, by simp [hU.len]; omega, hU.wd.append (wX.drop _), by rw [spl_self hxs hU.len hk]; exact hU.blk, hU.fr, ?_⟩
  rw [vl_append, hU.len, vl_split xs k hk]; omega

set_option maxRecDepth 100000 in
set_option maxHeartbeats 800000 in
/-- The row is the one that is written. -/
theorem subVW_same (bz oz cz cx n : Nat) (Z xs : List Nat) (y : Nat) (w : World) (hZ : Blk w bz Z) (hxs : (Z.drop oz).take xs.length = xs) (wX : Wd xs)
    (hl : xs.length ≤ n) (hl' : n ≤ xs.length) (hz : oz + n ≤ Z.length) (hn : n ≤ 1000000) (hn0 : 0 < n) (hcz : n ≤ cz) (hcx : n ≤ cx) (hy : y < Bw) :
    Calls Tryz.prog 211 #[.slice (some ⟨bz, oz, none⟩) n cz, .slice (some ⟨bz, oz, none⟩) n cx, .int .u64 y] w (SubWPost w bz oz Z xs y) := by
  have hne2 : ((n : Int) == 0) = false := by simp; omega
  have hx := (Up.zero hZ).later hxs (by omega) (by omega)
  have hz2 := hZ.frozen oz
  simp only [Nat.add_zero] at hx
  have x0w := wX.getD 0
  have hv0 : vl (xs.take 1) = xs.getD 0 0 := by rw [take_succ_eq (by omega)]; simp [vl_cons]
  generalize xs.getD 0 0 = x0 at hx hv0 x0w
  have hU1 : Up w bz oz Z ([] ++ [subLo x0 y 0]) (0 + 1) (w.setCell ⟨bz, oz + 0, none⟩ (.int .u64 (subLo x0 y 0 : Int))) := (Up.zero hZ).step (subLo_lt _ _ _) (by omega)
  simp only [List.nil_append, Nat.zero_add, Nat.add_zero] at hU1
  have hq := sub_eq x0w hy (c := 0) (by omega)
  have hpn : ∀ W : World, (binOp .neq 350 (.pointer (some ⟨bz, oz, none⟩)) (.pointer (some ⟨bz, oz, none⟩))).run Tryz.prog W = .ok (.bool false) W := fun W => run_neq_word_same W _
  have HX := Lib.hid hxs
  clear hxs
  rcases one_borrow x0 y with hc0 | hc1
  · have hfin : ∀ nq, SubWPost w bz oz Z xs y (.returned (.int .u64 0)) ((w.setCell ⟨bz, oz, none⟩ (.int .u64 (subLo x0 y 0 : Int))).drewN nq) := fun nq =>
      subW_rest_same (hU1.drewN nq) HX.out (by omega) wX (by rw [hv0]; simp [vl_cons]; rw [hc0] at hq; omega)
    clear hv0 hq hU1
    go_enter Tryz.func211, Tryz.ntmps211
    go_wp2_with (go_at_call 230; refine (bitsSub0 _ _ _).mono ?_; rintro e w' ⟨rfl, rfl⟩)
    go_quiet (fail)
    go_wp2
    go_ret
    exact hfin _
  · rw [hc1] at hq
    go_enter Tryz.func211, Tryz.ntmps211
    go_wp2_with (go_at_call 230; refine (bitsSub0 _ _ _).mono ?_; rintro e w' ⟨rfl, rfl⟩)
    go_loopw [6, 9, 10] (fun _ i9 _ wr => ∃ k : Nat, ∃ zs : List Nat, k ≤ n ∧ 1 ≤ k ∧ i9 = .int .i64 (k : Int) ∧ Up w bz oz Z zs k wr ∧ Hid (vl zs + y = vl (xs.take k) + Bw ^ k * 1)) (fun _ i9 _ _ => n - (intOf i9).toNat)
    case atStart => exact ⟨1, _, by omega, by omega, rfl, hU1, Lib.hid (by rw [hv0]; simp [vl_cons]; omega)⟩
    case round =>
      obtain ⟨k, zs, hk, hk1, rfl, hU, hE⟩ := hrel
      by_cases hlt : k < n
      · have hx := hU.later HX.out (by omega) (by omega)
        have hz2 := hU.frozen
        have xw := wX.getD k
        have hvk := vl_take_succ (l := xs) (i := k) (by omega)
        generalize xs.getD k 0 = x at hx xw hvk
        by_cases hmax : x = 0
        · have hb : ((x : Int) != 0) = false := by rw [hmax]; rfl
          have hU2 : Up w bz oz Z (zs ++ [Bw - 1]) (k + 1) (wr.setCell ⟨bz, oz + k, none⟩ (.int .u64 18446744073709551615)) := by
            have h := hU.step (x := Bw - 1) (by have := Bw_pos; omega) (by omega)
            rw [max_word] at h
            exact h
          have hE2 : Hid (vl (zs ++ [Bw - 1]) + y = vl (xs.take (k + 1)) + Bw ^ (k + 1) * 1) := Lib.hid (subW_full hU.len hE.out hmax hvk)
          clear hvk hmax
          go_wp2
          go_roundw
          case rel => exact ⟨k + 1, _, by omega, by omega, by go_num, hU2, hE2⟩
          case measure => simp [intOf]; omega
        · have hb : ((x : Int) != 0) = true := by rw [bne_iff_ne]; omega
          have hU2 := hU.step (x := x - 1) (by omega) (by omega)
          have hxw : IntKind.u64.wrap ((x : Int) - 1) = ((x - 1 : Nat) : Int) := by rw [← wrap_u64 (x - 1) (by omega)]; congr 1; omega
          have hfin : ∀ nq, SubWPost w bz oz Z xs y (.returned (.int .u64 0)) ((wr.setCell ⟨bz, oz + k, none⟩ (.int .u64 ((x - 1 : Nat) : Int))).drewN nq) := fun nq =>
            subW_rest_same (hU2.drewN nq) HX.out (by omega) wX (subW_one hU.len hmax hE.out hvk)
          clear hvk hmax hU2
          go_wp2
          go_quiet (fail)
          go_wp2
          go_ret
          exact hfin _
      · have hkn : k = xs.length := by omega
        have hfin : SubWPost w bz oz Z xs y (.returned (.int .u64 1)) wr := by
          have h2 := hE.out
          rw [List.take_of_length_le (by omega), hkn] at h2
          exact ⟨1, zs, rfl, by omega, hU.len.trans hkn, hU.wd, hU.blk, hU.fr, h2⟩
        clear hkn
        go_wp2
        go_ret
        exact hfin
end Go.Proofs.YtpmggjplfcjkkaaGreatDoor
