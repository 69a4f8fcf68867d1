/- divLarge: what lies in memory. -/
import Derived.Test.YtpmggjplfcjkkaaGreatDoorZ10
import Derived.BigQuiet
import Derived.Handy
import Derived.Test.YtpmggjplfcjkkaaGreatDoorZ00
set_option linter.unusedVariables false
set_option linter.unusedSimpArgs false
namespace Go.Proofs.YtpmggjplfcjkkaaGreatDoor
open Go.RowKit Nq

/-- What a division hands back. -/
def DivPost (w : World) (zo uo : Option Nat) (s L : Nat) (K : List Nat) (a b : Nat) (e : Ending) (w' : World) : Prop :=
  ∃ qv qo rv ro K', e = .returned (.tuple #[qv, rv]) ∧ IsN w' qv qo (a / b) ∧ IsN w' rv ro (a % b) ∧ Fr (zo.toList ++ uo.toList ++ K) w w' ∧ Later w zo qo ∧ Later w uo ro ∧
    (∀ x, qo = some x → ro ≠ some x ∧ x ∉ K') ∧ (∀ x, ro = some x → x ∉ K') ∧ StkK w' s L K' ∧ ∀ x ∈ K', x ∈ K ∨ w.heap.size ≤ x

theorem div_scaled {u v q r a b s : Nat} (hu : u = a * 2 ^ s) (hv : v = b * 2 ^ s) (h : u = q * v + r) (hr : r < v) : a / b = q ∧ a % b = r / 2 ^ s ∧ r % 2 ^ s = 0 := by
  have hp : 0 < 2 ^ s := Nat.two_pow_pos s
  have hb : 0 < b := by
    rcases Nat.eq_zero_or_pos b with e | e
    · subst e; omega
    · exact e
  subst hu hv
  have e1 : a * 2 ^ s / (b * 2 ^ s) = q := (quo_of h hr).1
  have e2 : a * 2 ^ s % (b * 2 ^ s) = r := (quo_of h hr).2
  rw [Nat.mul_div_mul_right _ _ hp] at e1
  rw [Nat.mul_mod_mul_right] at e2
  refine ⟨e1, ?_, ?_⟩
  · rw [← e2, Nat.mul_div_cancel _ hp]
  · rw [← e2, Nat.mul_mod_left]

/-- The divisor and the dividend, scaled, lie in their places. -/
structure Sc (w : World) (s n mx sh a b bu bt ot L' : Nat) (K K' Zu Z us vs : List Nat) (w6 : World) : Prop where
  u : Blk w6 bu (spl Zu 0 us)
  ul : us.length = mx + 1
  wu : Wd us
  ue : vl us = a * 2 ^ sh
  t : Blk w6 bt (spl Z ot vs)
  tl : vs.length = n
  wt : Wd vs
  te : vl vs = b * 2 ^ sh
  top : Bw ≤ 2 * vs.getD (n - 1) 0
  small : us.getD mx 0 < vs.getD (n - 1) 0
  st : StkK w6 s L' K'

theorem top_word {vs : List Nat} {n : Nat} (hn : vs.length = n) (h0 : 0 < n) (wv : Wd vs) {c : Nat} (h : c * Bw ^ (n - 1) ≤ vl vs) : c ≤ vs.getD (n - 1) 0 := by
  obtain ⟨k, rfl⟩ : ∃ k, n = k + 1 := ⟨n - 1, by omega⟩
  simp only [Nat.add_sub_cancel] at h ⊢
  have h1 := vl_take_succ (l := vs) (i := k) (by omega)
  rw [show k + 1 = vs.length by omega, List.take_length] at h1
  have h2 := vl_lt (wv.take k)
  rw [List.length_take, Nat.min_eq_left (by omega)] at h2
  apply Nat.le_of_not_lt
  intro hlt
  have h3 := Nat.mul_le_mul_left (Bw ^ k) (show vs.getD k 0 + 1 ≤ c from hlt)
  rw [Nat.mul_add, Nat.mul_one, Nat.mul_comm (Bw ^ k) c] at h3
  omega

/-- The divisor's top word, scaled, is at least half a word. -/
theorem scaled_top {ys vs : List Nat} {n sh : Nat} (hy : ys.length = n) (h0 : 0 < n) (wy : Wd ys) (ny : Nz ys) (hv : vs.length = n) (wv : Wd vs) (hsh : sh = nlzW (ys.getD (n - 1) 0)) (he : vl vs = vl ys * 2 ^ sh) : Bw ≤ 2 * vs.getD (n - 1) 0 ∧ 2 ^ sh ≤ vs.getD (n - 1) 0 := by
  have hne : ys ≠ [] := by intro e; subst e; simp at hy; omega
  have hyt : 0 < ys.getD (n - 1) 0 := by
    have h := ny hne
    rw [List.getLast_eq_getElem] at h
    rw [List.getD_eq_getElem?_getD, List.getElem?_eq_getElem (by omega)]
    simp only [Option.getD_some]
    have : ys.length - 1 = n - 1 := by omega
    simp only [this] at h
    omega
  obtain ⟨s1, s2, s3⟩ := nlzW_spec (wy.getD (n - 1)) hyt
  rw [← hsh] at s1 s2 s3
  obtain ⟨k, rfl⟩ : ∃ k, n = k + 1 := ⟨n - 1, by omega⟩
  simp only [Nat.add_sub_cancel] at *
  have h1 := vl_take_succ (l := ys) (i := k) (by omega)
  rw [show k + 1 = ys.length by omega, List.take_length] at h1
  have h2 : (ys.getD k 0 * 2 ^ sh) * Bw ^ (k + 1 - 1) ≤ vl vs := by
    rw [he, h1, Nat.add_sub_cancel]
    generalize ys.getD k 0 = y
    generalize Bw ^ k = p
    generalize vl (ys.take k) = t
    have : 0 ≤ t * 2 ^ sh := Nat.zero_le _
    grind
  have h3 := top_word hv h0 wv h2
  rw [Nat.add_sub_cancel] at h3
  have h4 : 1 * 2 ^ sh ≤ ys.getD k 0 * 2 ^ sh := Nat.mul_le_mul_right _ hyt
  omega
theorem scaled_fits {ys : List Nat} {n sh : Nat} (hy : ys.length = n) (h0 : 0 < n) (wy : Wd ys) (ny : Nz ys) (hsh : sh = nlzW (ys.getD (n - 1) 0)) : vl ys * 2 ^ sh < Bw ^ n ∧ sh < 64 := by
  have hne : ys ≠ [] := by intro e; subst e; simp at hy; omega
  have hyt : 0 < ys.getD (n - 1) 0 := by
    have h := ny hne
    rw [List.getLast_eq_getElem] at h
    rw [List.getD_eq_getElem?_getD, List.getElem?_eq_getElem (by omega)]
    simp only [Option.getD_some]
    have : ys.length - 1 = n - 1 := by omega
    simp only [this] at h
    omega
  obtain ⟨s1, s2, s3⟩ := nlzW_spec (wy.getD (n - 1)) hyt
  rw [← hsh] at s1 s2 s3
  refine ⟨?_, s1⟩
  obtain ⟨k, rfl⟩ : ∃ k, n = k + 1 := ⟨n - 1, by omega⟩
  simp only [Nat.add_sub_cancel] at *
  have h1 := vl_take_succ (l := ys) (i := k) (by omega)
  rw [show k + 1 = ys.length by omega, List.take_length] at h1
  have h2 := vl_lt (wy.take k)
  rw [List.length_take, Nat.min_eq_left (by omega)] at h2
  have hsp := Bw_split (s := sh) (by omega)
  have h3 : ys.getD k 0 < 2 ^ (64 - sh) := by
    apply Nat.lt_of_mul_lt_mul_right (a := 2 ^ sh)
    rw [← hsp]; exact s3
  have h4 : (ys.getD k 0 + 1) * 2 ^ sh ≤ 2 ^ (64 - sh) * 2 ^ sh := Nat.mul_le_mul_right _ h3
  rw [← hsp] at h4
  have hp : 0 < 2 ^ sh := Nat.two_pow_pos sh
  rw [h1, Nat.pow_succ]
  generalize ys.getD k 0 = y at *
  generalize Bw ^ k = p at *
  generalize vl (ys.take k) = t at *
  generalize 2 ^ sh = q at *
  have h5 : (t + 1) * q ≤ p * q := Nat.mul_le_mul_right _ h2
  have h6 : p * ((y + 1) * q) ≤ p * Bw := Nat.mul_le_mul_left _ h4
  generalize Bw = B at *
  grind

/-- What the two copies do (no scaling). -/
theorem sc_copy {w w3 : World} {s n mx bu bt ot L' bx cX by_ cY ct cu : Nat} {K K' Zu Z xs ys : List Nat}
    (hX : Row w3 bx 0 xs) (hY : Row w3 by_ 0 ys) (lx : xs.length = mx) (ly : ys.length = n) (h0 : 0 < n) (wx : Wd xs) (wy : Wd ys) (ny : Nz ys) (hsh : nlzW (ys.getD (n - 1) 0) = 0)
    (hT : Blk w3 bt Z) (hlt : ot + n ≤ Z.length) (hU : Blk w3 bu Zu) (hlu : mx + 1 ≤ Zu.length) (hst : StkK w3 s L' K') (nu : bu ∉ K') (hub : bu ≠ bt) (hxt : bx ≠ bt) :
    ∃ w4 w5, (∀ ty, (Builtin.copy_ #[97, 97] ty #[.slice (some ⟨bt, ot, none⟩) n ct, .slice (some ⟨by_, 0, none⟩) n cY]).run Tryz.prog w3 = .ok (.int .i64 (n : Int)) w4) ∧
      (∀ ty, (Builtin.copy_ #[97, 97] ty #[.slice (some ⟨bu, 0, none⟩) mx cu, .slice (some ⟨bx, 0, none⟩) mx cX]).run Tryz.prog w4 = .ok (.int .i64 (mx : Int)) w5) ∧
      (∃ v, w5.cell? ⟨bu, mx, none⟩ = some v) ∧ w5.frozen? ⟨bu, mx, none⟩ = false ∧
      Hid (Fr [bt, bu] w3 (w5.setCell ⟨bu, mx, none⟩ (.int .u64 0)) ∧ ∃ us vs, Sc w s n mx 0 (vl xs) (vl ys) bu bt ot L' K K' Zu Z us vs (w5.setCell ⟨bu, mx, none⟩ (.int .u64 0))) := by
  obtain ⟨hB4, hF4⟩ := putW_spec (vs := spl Z ot ys) hT
  have hU4 := hU.fr hF4 (by simpa using hub)
  have hX4 := hX.fr hF4 (by simpa using hxt)
  obtain ⟨hB5, hF5⟩ := putW_spec (vs := spl Zu 0 xs) hU4
  have c1 := fun ty => run_copy_words (P := Tryz.prog) 97 97 ty sliceNat' wordSize w3 bt ot n ct by_ 0 n cY Z ys hT hY (by rw [ly]; exact (Nat.min_self _).symm) (by omega)
  have c2 := fun ty => run_copy_words (P := Tryz.prog) 97 97 ty sliceNat' wordSize (putW w3 bt (spl Z ot ys)) bu 0 mx cu bx 0 mx cX Zu xs hU4 hX4 (by rw [lx]; exact (Nat.min_self _).symm) (by omega)
  rw [ly] at c1
  rw [lx] at c2
  have hlen : (spl Zu 0 xs).length = Zu.length := spl_length _ _ _ (by omega)
  have htl : (spl Z ot ys).length = Z.length := spl_length _ _ _ (by omega)
  refine ⟨_, _, c1, c2, ⟨_, hB5.cell mx (by omega)⟩, hB5.frozen _, Lib.hid ?_⟩
  have hs := hB5.set mx 0
  have e1 := spl_snoc Zu 0 xs 0 (by omega)
  rw [show 0 + xs.length = mx by omega] at e1
  rw [e1] at hs
  have hF6 : Fr [bu] (putW w3 bt (spl Z ot ys)) ((putW (putW w3 bt (spl Z ot ys)) bu (spl Zu 0 xs)).setCell ⟨bu, mx, none⟩ (.int .u64 ((0 : Nat) : Int))) := hF5.set (.inl (by simp)) _ _
  have ht := scaled_top ly h0 wy ny ly wy hsh.symm (by simp)
  refine ⟨(hF4.mono (by simp)).trans (hF6.mono (by simp)), xs ++ [0], ys, ⟨hs, by simp; omega, wx.append (Wd.one Bw_pos), by rw [vl_snoc]; simp, hB4.fr hF6 (by simpa using hub.symm), ly, wy, by simp, ht.1, ?_, ?_⟩⟩
  · rw [List.getD_eq_getElem?_getD, List.getElem?_append_right (by omega), show mx - xs.length = 0 by omega]
    have := ht.2
    rw [Nat.pow_zero] at this
    exact this
  · exact (hst.upd hF4 hT hB4 htl).fr hF6 (by intro b hb e; simp at e; subst e; exact nu hb)

/-- What the two shifts do. -/
theorem sc_shift {w w3 : World} {s n mx sh bu bt ot L' bx cX by_ cY ct cu : Nat} {K K' Zu Z xs ys : List Nat}
    (hX : Row w3 bx 0 xs) (hY : Row w3 by_ 0 ys) (lx : xs.length = mx) (ly : ys.length = n) (h0 : 0 < n) (hx0 : 0 < mx) (hn : n ≤ 100000) (hm : mx ≤ 100000) (wx : Wd xs) (wy : Wd ys) (ny : Nz ys) (hsh : sh = nlzW (ys.getD (n - 1) 0)) (hs0 : 0 < sh)
    (hT : Blk w3 bt Z) (hlt : ot + n ≤ Z.length) (hU : Blk w3 bu Zu) (hlu : mx + 1 ≤ Zu.length) (hst : StkK w3 s L' K') (nu : bu ∉ K') (hub : bu ≠ bt) (hxt : bx ≠ bt) (hyt : by_ ≠ bt) (hxu : bx ≠ bu) :
    ∃ Q : Ending → World → Prop, Calls Tryz.prog 124 #[.slice (some ⟨bt, ot, none⟩) n ct, .slice (some ⟨by_, 0, none⟩) n cY, .int .u64 (sh : Int)] w3 Q ∧ ∀ e w4, Q e w4 → (∃ c : Nat, e = .returned (.int .u64 (c : Int))) ∧
      ∃ Q2 : Ending → World → Prop, Calls Tryz.prog 124 #[.slice (some ⟨bu, 0, none⟩) mx cu, .slice (some ⟨bx, 0, none⟩) mx cX, .int .u64 (sh : Int)] w4 Q2 ∧ ∀ e w5, Q2 e w5 → ∃ c : Nat, e = .returned (.int .u64 (c : Int)) ∧
      (∃ v, w5.cell? ⟨bu, mx, none⟩ = some v) ∧ w5.frozen? ⟨bu, mx, none⟩ = false ∧
      Hid (Fr [bt, bu] w3 (w5.setCell ⟨bu, mx, none⟩ (.int .u64 (c : Int))) ∧ ∃ us vs, Sc w s n mx sh (vl xs) (vl ys) bu bt ot L' K K' Zu Z us vs (w5.setCell ⟨bu, mx, none⟩ (.int .u64 (c : Int)))) := by
  obtain ⟨hfit, hs64⟩ := scaled_fits ly h0 wy ny hsh
  refine ⟨_, lshVU bt ot ct by_ 0 cY n Z ys sh w3 hT hY wy (by omega) (by omega) hlt (by omega) h0 (fun e => absurd e hyt) hs64 hs0, ?_⟩
  rintro e w4 ⟨c, vs, rfl, hc, hvl, hwv, hB4, hF4, hE⟩
  refine ⟨⟨c, rfl⟩, _, lshVU bu 0 cu bx 0 cX mx Zu xs sh w4 (hU.fr hF4 (by simpa using hub)) (hX.fr hF4 (by simpa using hxt)) wx (by omega) (by omega) (by omega) (by omega) hx0 (fun e => absurd e hxu) hs64 hs0, ?_⟩
  rintro e w5 ⟨d, us, rfl, hd, hul, hwu, hB5, hF5, hE2⟩
  have hlen : (spl Zu 0 us).length = Zu.length := spl_length _ _ _ (by omega)
  have htl : (spl Z ot vs).length = Z.length := spl_length _ _ _ (by omega)
  have hdB : d < Bw := Nat.lt_of_lt_of_le hd (by rw [Bw_eq, show 18446744073709551616 = 2 ^ 64 from rfl]; exact Nat.pow_le_pow_right (by omega) (by omega))
  rw [ly] at hE
  rw [lx] at hE2
  obtain ⟨e0, e1⟩ := vl_top (hvl.trans ly) hwv hE hfit
  refine ⟨d, rfl, ⟨_, hB5.cell mx (by omega)⟩, hB5.frozen _, Lib.hid ?_⟩
  have hs := hB5.set mx d
  have e2 := spl_snoc Zu 0 us d (by omega)
  rw [show 0 + us.length = mx by omega] at e2
  rw [e2] at hs
  have hF6 : Fr [bu] w4 (w5.setCell ⟨bu, mx, none⟩ (.int .u64 (d : Int))) := hF5.set (.inl (by simp)) _ _
  have ht := scaled_top ly h0 wy ny (hvl.trans ly) hwv hsh e1
  refine ⟨(hF4.mono (by simp)).trans (hF6.mono (by simp)), us ++ [d], vs, ⟨hs, by simp; omega, hwu.append (Wd.one hdB), by rw [vl_snoc, hul, lx, hE2], hB4.fr hF6 (by simpa using hub.symm), by omega, hwv, e1, ht.1, ?_, ?_⟩⟩
  · rw [List.getD_eq_getElem?_getD, List.getElem?_append_right (by omega), show mx - us.length = 0 by omega]
    exact Nat.lt_of_lt_of_le hd ht.2
  · exact (hst.upd hF4 hT hB4 htl).fr hF6 (by intro b hb e; simp at e; subst e; exact nu hb)
theorem own_nrm {w : World} {b : Nat} {Z ws : List Nat} (hB : Blk w b (spl Z 0 ws)) (hl : ws.length ≤ Z.length) (h0 : 0 < Z.length) (hc : Z.length ≤ 100000) (hw : Wd ws) :
    IsN w (.slice (some ⟨b, 0, none⟩) (nrm ws).length Z.length) (some b) (vl ws) := by
  obtain ⟨h1, h2, h3, h4⟩ := nrm_spec ws
  have hlen : (spl Z 0 ws).length = Z.length := spl_length _ _ _ (by omega)
  refine ⟨nrm ws, ?_, nrm_Wd hw, h1, h2⟩
  rw [← hlen]
  refine Own.of_blk hB rfl ?_ (by omega) (by omega) (by omega)
  have := spl_zero_take Z ws
  rw [show (spl Z 0 ws).take (nrm ws).length = ((spl Z 0 ws).take ws.length).take (nrm ws).length by rw [List.take_take, Nat.min_eq_left h4], this]
  exact h3.symm

/-- The end: the rest is trimmed, the stack restored. -/
theorem sc_fin {w w9 : World} {zo uo : Option Nat} {s L a b bq bu mx : Nat} {K K2 Zq Zu qd zs : List Nat}
    (hBq : Blk w9 bq (spl Zq 0 qd)) (lqd : qd.length ≤ Zq.length) (q0 : 0 < Zq.length) (cq : Zq.length ≤ 100000) (wq : Wd qd) (eq : vl qd = a / b)
    (hBu : Blk w9 bu (spl Zu 0 zs)) (lz : zs.length = mx) (lzu : mx ≤ Zu.length) (u0 : 0 < Zu.length) (cu : Zu.length ≤ 100000) (wz : Wd zs) (ez : vl zs = a % b)
    (hK2 : ∀ x ∈ K2, x ∈ K ∨ w.heap.size ≤ x) (hF : Fr (zo.toList ++ uo.toList ++ K) w w9) (lq : Later w zo (some bq)) (lu : Later w uo (some bu)) (hqu : bq ≠ bu) (nq : bq ∉ K2) (nu : bu ∉ K2) :
    ∃ rl : Nat, Calls Tryz.prog 98 #[.slice (some ⟨bu, 0, none⟩) mx Zu.length] w9 (fun e w' => e = .returned (.slice (some ⟨bu, 0, none⟩) rl Zu.length) ∧ w' = w9) ∧
      Hid (∀ w10, StkK w10 s L K2 → Fr K2 w9 w10 → (∀ b Z, Blk w9 b Z → Blk w10 b Z) → DivPost w zo uo s L K a b (.returned (.tuple #[.slice (some ⟨bq, 0, none⟩) (nrm qd).length Zq.length, .slice (some ⟨bu, 0, none⟩) rl Zu.length])) w10) := by
  have hr := (hBu.row 0 mx)
  have er : ((spl Zu 0 zs).drop 0).take mx = zs := by rw [List.drop_zero, ← lz]; exact spl_zero_take _ _
  rw [er] at hr
  refine ⟨(nrm zs).length, norm_block bu Zu.length mx zs w9 hr (by omega) (by omega) (by omega) lzu cu, Lib.hid ?_⟩
  intro w10 k1 k2 k3
  refine ⟨_, some bq, _, some bu, K2, rfl, ?_, ?_, ?_, lq, lu, ?_, ?_, k1, hK2⟩
  · rw [← eq]; exact own_nrm (k3 _ _ hBq) lqd q0 cq wq
  · rw [← ez]; exact own_nrm (k3 _ _ hBu) (by omega) u0 cu wz
  · refine hF.trans_new k2 ?_
    intro x hx
    rcases hK2 x hx with h | h
    · left; simp [h]
    · exact .inr h
  · intro x hx
    injection hx with hx
    subst hx
    exact ⟨fun e => hqu (by injection e with e; exact e.symm), nq⟩
  · intro x hx
    injection hx with hx
    subst hx
    exact nu

/-- Behind the scaling: the quotient's place, the long division, and the end. -/
theorem sc_div {w w6 : World} {zv : Value} {zo uo : Option Nat} {zs0 : List Nat} {s n mx m sh a b bu bt ot L L' ct : Nat} {K K' Zu Z us vs : List Nat} (hsc : Sc w s n mx sh a b bu bt ot L' K K' Zu Z us vs w6)
    (hz : Own w6 zv zo zs0) (hm : m + n = mx + 1) (hn2 : 2 ≤ n) (hn40 : n < 40) (hm0 : 0 < m) (hm1 : m ≤ 1000) (hL : L ≤ L') (hL' : L' ≤ 56) (lzu : mx + 1 ≤ Zu.length) (cu : Zu.length ≤ 100000) (hct : n ≤ ct) (hsh : sh < 64)
    (hF : Fr (zo.toList ++ uo.toList ++ K) w w6) (lu : Later w uo (some bu)) (hzu : zo ≠ some bu) (hK : ∀ x ∈ K', x ∈ K ∨ w.heap.size ≤ x) (hbt : w.heap.size ≤ bt ∨ bt ∈ K) (hbtin : bt ∈ K' → ot + n ≤ L') (hbu : bu ∉ K') (hub : bu ≠ bt) (hlt : ot + n ≤ Z.length)
    (hzK : ∀ x, zo = some x → x < w.heap.size ∧ x ∉ K) :
    (∀ p, Calls Tryz.prog 96 #[zv, .int .i64 (m : Int)] (w6.drewN p) (MakePost (w6.drewN p) zo m)) ∧
    ∀ p bq Zq cq w7, Zq.length = cq → Blk w7 bq Zq → m ≤ Zq.length → 0 < Zq.length → Zq.length ≤ 100000 → Fr [] (w6.drewN p) w7 → Later (w6.drewN p) zo (some bq) →
      ∃ Q : Ending → World → Prop, Calls Tryz.prog 203 #[.slice (some ⟨bq, 0, none⟩) m cq, .pointer (some ⟨s, 0, none⟩), .slice (some ⟨bu, 0, none⟩) (mx + 1) Zu.length, .slice (some ⟨bt, ot, none⟩) n ct] w7 Q ∧ ∀ e w8, Q e w8 → e = .returned (.tuple #[]) ∧
        ∃ ql : Nat, Calls Tryz.prog 98 #[.slice (some ⟨bq, 0, none⟩) m cq] w8 (fun e w' => e = .returned (.slice (some ⟨bq, 0, none⟩) ql cq) ∧ w' = w8) ∧
        (sh = 0 → ∃ rl : Nat, Calls Tryz.prog 98 #[.slice (some ⟨bu, 0, none⟩) (mx + 1) Zu.length] w8 (fun e w' => e = .returned (.slice (some ⟨bu, 0, none⟩) rl Zu.length) ∧ w' = w8) ∧ ∃ K2, StkK w8 s L' K2 ∧
          Hid (∀ w10, StkK w10 s L K2 → Fr K2 w8 w10 → (∀ b Z, Blk w8 b Z → Blk w10 b Z) → DivPost w zo uo s L K a b (.returned (.tuple #[.slice (some ⟨bq, 0, none⟩) ql cq, .slice (some ⟨bu, 0, none⟩) rl Zu.length])) w10)) ∧
        (0 < sh → ∃ Q2 : Ending → World → Prop, Calls Tryz.prog 159 #[.slice (some ⟨bu, 0, none⟩) (mx + 1) Zu.length, .slice (some ⟨bu, 0, none⟩) (mx + 1) Zu.length, .int .u64 (sh : Int)] w8 Q2 ∧ ∀ e w9, Q2 e w9 → (∃ c : Nat, e = .returned (.int .u64 (c : Int))) ∧
          ∃ rl : Nat, Calls Tryz.prog 98 #[.slice (some ⟨bu, 0, none⟩) (mx + 1) Zu.length] w9 (fun e w' => e = .returned (.slice (some ⟨bu, 0, none⟩) rl Zu.length) ∧ w' = w9) ∧ ∃ K2, StkK w9 s L' K2 ∧
          Hid (∀ w10, StkK w10 s L K2 → Fr K2 w9 w10 → (∀ b Z, Blk w9 b Z → Blk w10 b Z) → DivPost w zo uo s L K a b (.returned (.tuple #[.slice (some ⟨bq, 0, none⟩) ql cq, .slice (some ⟨bu, 0, none⟩) rl Zu.length])) w10)) := by
  refine ⟨fun p => make_own (hz.drewN p) (by omega) hm0, ?_⟩
  intro p bq Zq cq w7 hcq hBq lq q0 cqb hF7 hlq
  subst hcq
  have hlq6 := hlq.drewN
  have hF67 : Fr [] w6 w7 := ((Fr.refl [] w6).drewN p).trans hF7
  have hus : us.length = m + n := by rw [hsc.ul, hm]
  -- the quotient's block is not one of the others
  have hbq : (zo = some bq ∧ bq < w.heap.size ∧ bq ∉ K) ∨ w6.heap.size ≤ bq := by
    rcases hlq6 with h | ⟨x, h, hx⟩
    · exact .inl ⟨h.symm, hzK _ h.symm⟩
    · right; injection h with h; subst h; exact hx
  have hw6 := hF.size
  have hqu : bq ≠ bu := by
    rintro rfl
    rcases hbq with h | h
    · exact hzu h.1
    · have := hsc.u.lt; omega
  have hqt : bq ≠ bt := by
    rintro rfl
    rcases hbq with ⟨_, h1, h2⟩ | h
    · rcases hbt with h3 | h3
      · omega
      · exact h2 h3
    · have := hsc.t.lt; omega
  have hqK : bq ∉ K' := by
    intro hin
    rcases hbq with ⟨_, h1, h2⟩ | h
    · rcases hK _ hin with h3 | h3
      · exact h2 h3
      · omega
    · have := hsc.st.lt _ hin; omega
  have hlw : Later w zo (some bq) := by
    rcases hlq6 with h | ⟨x, h, hx⟩
    · exact .inl h
    · exact .inr ⟨x, h, by omega⟩
  obtain ⟨k, rfl⟩ : ∃ k, n = k + 2 := ⟨n - 2, by omega⟩
  have hmx : mx = m + (k + 1) := by omega
  have htop := hsc.top
  have hsmall := hsc.small
  rw [show k + 2 - 1 = k + 1 by omega] at htop hsmall
  rw [hmx] at hsmall
  have hrow : Row w7 bt ot vs := (spl_row hsc.t (by have := hsc.tl; omega)).fr hF67 (by simp)
  refine ⟨_, divBasic (bq := bq) (bu := bu) (bv := bt) (ov := ot) (m := m) (k := k) (s := s) (L := L') (K := K') (Zq := Zq) (Zu := Zu) (us := us) (vs := vs) (n := k + 2) (mn := mx + 1) hsc.tl hus hsc.wu hsc.wt htop hsmall hqu hqt.symm hub.symm lq (by omega) hm1 (by omega) hm0 hBq (hsc.u.fr hF67 (by simp)) hrow (hsc.st.fr hF67 (by simp)) hL' hqK hbu ?_ rfl (by omega) lq lzu hct, ?_⟩
  · by_cases h : bt ∈ K'
    · exact .inr (hbtin h)
    · exact .inl h
  rintro e w8 ⟨rfl, rs, qd, K2, lr, wr, hrv, lqd, wqd, hBu8, hBq8, hval, hst8, hK2, hF8, _⟩
  obtain ⟨d1, d2, d3⟩ := div_scaled hsc.ue hsc.te hval hrv
  refine ⟨rfl, (nrm qd).length, ?_, ?_⟩
  · have hr := hBq8.row 0 m
    have er : ((spl Zq 0 qd).drop 0).take m = qd := by rw [List.drop_zero, ← lqd]; exact spl_zero_take _ _
    rw [er] at hr
    exact norm_block bq Zq.length m qd w8 hr (by omega) (by omega) (by omega) lq cqb
  have hFw : Fr (zo.toList ++ uo.toList ++ K) w w8 := by
    refine Fr.trans_new (hF.trans (hF67.mono (by simp))) hF8 ?_
    intro x hx
    simp at hx
    rcases hx with rfl | rfl | hx
    · rcases hlw with h | ⟨y, h, hy⟩
      · left; rw [← h]; simp
      · right; injection h with h; subst h; exact hy
    · rcases lu with h | ⟨y, h, hy⟩
      · left; rw [← h]; simp
      · right; injection h with h; subst h; exact hy
    · rcases hK x hx with h | h
      · left; simp [h]
      · exact .inr h
  have hw7 := hF67.size
  have hK2w : ∀ x ∈ K2, x ∈ K ∨ w.heap.size ≤ x := by
    intro x hx
    rcases hK2 x hx with h | h
    · exact hK x h
    · right; omega
  have nq2 : bq ∉ K2 := by
    intro hin
    rcases hK2 _ hin with h | h
    · exact hqK h
    · have := hBq.lt; omega
  have nu2 : bu ∉ K2 := by
    intro hin
    rcases hK2 _ hin with h | h
    · exact hbu h
    · have := hsc.u.lt; omega
  have lrs : (rs ++ List.replicate m 0).length = mx + 1 := by simp; omega
  have wrs : Wd (rs ++ List.replicate m 0) := wr.append (Wd.replicate m)
  have ers : vl (rs ++ List.replicate m 0) = vl rs := by rw [vl_append, vl_replicate]; simp
  refine ⟨?_, ?_⟩
  · intro h0
    subst h0
    obtain ⟨rl, h1, h2⟩ := sc_fin (L := L) (K := K) (w := w) (zo := zo) (uo := uo) (a := a) (b := b) (mx := mx + 1) hBq8 (by omega) q0 cqb wqd (by rw [d1]) hBu8 lrs lzu (by omega) cu wrs (by rw [ers, d2]; simp) hK2w hFw hlw lu hqu nq2 nu2
    exact ⟨rl, h1, K2, hst8, h2⟩
  · intro h0
    have hru : Row w8 bu 0 (rs ++ List.replicate m 0) := spl_row hBu8 (by omega)
    have hl8 : (spl Zu 0 (rs ++ List.replicate m 0)).length = Zu.length := spl_length _ _ _ (by omega)
    refine ⟨_, rshVU bu 0 Zu.length bu 0 Zu.length (mx + 1) _ (rs ++ List.replicate m 0) sh w8 hBu8 hru wrs (by omega) (by omega) (by omega) (by omega) (by omega) (fun _ => .inl (Nat.le_refl _)) hsh h0, ?_⟩
    rintro e w9 ⟨c, zs, rfl, hU, hE⟩
    refine ⟨⟨c, rfl⟩, ?_⟩
    have hlz := hU.len
    rw [lrs] at hlz
    have hB9 := hU.blk
    have e9 : spl (spl Zu 0 (rs ++ List.replicate m 0)) 0 zs = spl Zu 0 zs := by
      simp only [spl, List.take_zero, List.nil_append, Nat.zero_add]
      rw [hlz, lrs, List.drop_append_of_le_length (by omega), List.drop_of_length_le (by omega), List.nil_append]
    rw [e9] at hB9
    have hl9 : (spl Zu 0 zs).length = Zu.length := spl_length _ _ _ (by omega)
    have hFw9 : Fr (zo.toList ++ uo.toList ++ K) w w9 := by
      refine Fr.trans_new hFw hU.fr ?_
      intro x hx
      simp at hx
      subst hx
      rcases lu with h | ⟨y, h, hy⟩
      · left; rw [← h]; simp
      · right; injection h with h; subst h; exact hy
    obtain ⟨rl, h1, h2⟩ := sc_fin (L := L) (K := K) (w := w) (zo := zo) (uo := uo) (a := a) (b := b) (mx := mx + 1) (hBq8.fr hU.fr (by simpa using hqu)) (by omega) q0 cqb wqd (by rw [d1]) hB9 hlz lzu (by omega) cu hU.wd (by rw [hE, ers, d2]) hK2w hFw9 hlw lu hqu nq2 nu2
    exact ⟨rl, h1, K2, hst8.upd hU.fr hBu8 hB9 (by omega), h2⟩
end Go.Proofs.YtpmggjplfcjkkaaGreatDoor

/- divLarge: the walk. -/
set_option linter.unusedVariables false
set_option linter.unusedSimpArgs false
namespace Go.Proofs.YtpmggjplfcjkkaaGreatDoor
open Go.RowKit Nq

theorem len_of_vl {xs : List Nat} {c : Nat} (h : c < xs.length) : xs ≠ [] := by intro e; subst e; simp at h

set_option maxRecDepth 100000 in
set_option maxHeartbeats 4000000 in
theorem divLarge {zv uv xv yv : Value} {zo uo xo yo : Option Nat} {zs us0 xs ys : List Nat} {s L : Nat} {K : List Nat} {w : World} (hz : Own w zv zo zs) (hu : Own w uv uo us0) (hx : Own w xv xo xs) (hy : Own w yv yo ys)
    (wX : Wd xs) (wY : Wd ys) (nY : Nz ys) (hyn : 2 ≤ ys.length) (hy40 : ys.length < 40) (hxy : ys.length ≤ xs.length) (hxl : xs.length ≤ 900) (hst : StkK w s L K) (hL : L ≤ 10) (hT : Th w)
    (zK : ∀ x, zo = some x → x ∉ K) (uK : ∀ x, uo = some x → x ∉ K) (xK : ∀ x, xo = some x → x ∉ K) (yK : ∀ x, yo = some x → x ∉ K) (huz : ∀ x, uo = some x → zo ≠ some x ∧ xo ≠ some x ∧ yo ≠ some x)
    (K14 : ∀ x ∈ K, 14 ≤ x) (z14 : ∀ x, zo = some x → 14 ≤ x) (u14 : ∀ x, uo = some x → 14 ≤ x) :
    Calls Tryz.prog 170 #[zv, .pointer (some ⟨s, 0, none⟩), uv, xv, yv] w (DivPost w zo uo s L K (vl xs) (vl ys)) := by
  obtain ⟨bx, X, hxo, rfl, hX, htX, hlX, hcX⟩ := hx.block (len_of_vl (c := 1) (by omega))
  obtain ⟨by_, Y, hyo, rfl, hY, htY, hlY, hcY⟩ := hy.block (len_of_vl (c := 1) (by omega))
  have hRX := hX.row_take htX
  have hRY := hY.row_take htY
  have hlX2 := hX.lt
  have hlY2 := hY.lt
  have bxK := xK bx hxo
  have byK := yK by_ hyo
  obtain ⟨n, hn⟩ : ∃ n, n = ys.length := ⟨_, rfl⟩
  obtain ⟨mx, hmx⟩ : ∃ mx, mx = xs.length := ⟨_, rfl⟩
  obtain ⟨m0, hm0⟩ : ∃ m0, m0 = mx - n := ⟨_, rfl⟩
  obtain ⟨n1, hn1⟩ : ∃ n1, n1 = n - 1 := ⟨_, rfl⟩
  obtain ⟨sh, hsh⟩ : ∃ sh, sh = nlzW (ys.getD n1 0) := ⟨_, rfl⟩
  have hyw := wY.getD n1
  have hcell := hRY n1 (by omega)
  rw [Nat.zero_add] at hcell
  have hnlz := nlz (ys.getD n1 0) hyw
  rw [← hsh] at hnlz
  obtain ⟨hfit, hs64⟩ := scaled_fits (ys := ys) (n := n) (sh := sh) hn.symm (by omega) wY nY (by rw [hsh, hn1])
  have hsave := stkSave hst
  have hnat := stkNat (n := n) hst (by omega) (by omega) (by omega)
  obtain ⟨mp, hmp⟩ : ∃ mp : Nat, mp = mx + 1 := ⟨_, rfl⟩
  have hmp' : (mx : Int) + 1 = (mp : Int) := by omega
  obtain ⟨mq, hmq⟩ : ∃ mq : Nat, mq = m0 + 1 := ⟨_, rfl⟩
  have hmq' : (m0 : Int) + 1 = (mq : Int) := by omega
  -- behind stk.nat and make
  have hmk : ∀ w2, Fr K w w2 → Calls Tryz.prog 96 #[uv, .int .i64 (mp : Int)] w2 (MakePost w2 uo mp) := fun w2 hF => make_own (hu.fr hF uK) (by omega) (by omega)
  -- the rest, from where u was made
  have hrest : ∀ (bt ot ct : Nat) (Z : List Nat) (L' : Nat) (K' : List Nat) (w2 : World), Blk w2 bt Z → ot + n ≤ Z.length → n ≤ ct → StkK w2 s L' K' → L ≤ L' → L' ≤ L + n + 3 → (∀ b ∈ K', b ∈ K ∨ w.heap.size ≤ b) → Fr K w w2 → (w.heap.size ≤ bt ∨ (bt ∈ K ∧ L ≤ ot)) → (bt ∈ K' → ot + n ≤ L') →
      ∀ (bu : Nat) (Zu : List Nat) (c : Nat) (w3 : World), Zu.length = c → Blk w3 bu Zu → mp ≤ Zu.length → Zu.length ≤ 100000 → Fr [] w2 w3 → Later w2 uo (some bu) →
      Row w3 bx 0 xs ∧ Row w3 by_ 0 ys ∧ Blk w3 bt Z ∧ StkK w3 s L' K' ∧ bu ∉ K' ∧ bu ≠ bt ∧ bx ≠ bt ∧ by_ ≠ bt ∧ bx ≠ bu ∧
      ∀ w6, Fr [bt, bu] w3 w6 → ∀ us vs, Sc w s n mx sh (vl xs) (vl ys) bu bt ot L' K K' Zu Z us vs w6 →
        w6.cell? ⟨8, 0, none⟩ = some (.int .i64 40) ∧ Calls Tryz.prog 95 #[zv, .slice (some ⟨bu, 0, none⟩) mp c] w6 (Drew w6 (.bool false)) ∧
        (∀ p, Calls Tryz.prog 96 #[zv, .int .i64 (mq : Int)] (w6.drewN p) (MakePost (w6.drewN p) zo mq)) ∧ ∀ p bq Zq cq w7, Zq.length = cq → Blk w7 bq Zq → mq ≤ Zq.length → 0 < Zq.length → Zq.length ≤ 100000 → Fr [] (w6.drewN p) w7 → Later (w6.drewN p) zo (some bq) →
          w7.cell? ⟨8, 0, none⟩ = some (.int .i64 40) ∧ ∃ Q : Ending → World → Prop, Calls Tryz.prog 203 #[.slice (some ⟨bq, 0, none⟩) mq cq, .pointer (some ⟨s, 0, none⟩), .slice (some ⟨bu, 0, none⟩) mp c, .slice (some ⟨bt, ot, none⟩) n ct] w7 Q ∧ ∀ e w8, Q e w8 → e = .returned (.tuple #[]) ∧
        ∃ ql : Nat, Calls Tryz.prog 98 #[.slice (some ⟨bq, 0, none⟩) mq cq] w8 (fun e w' => e = .returned (.slice (some ⟨bq, 0, none⟩) ql cq) ∧ w' = w8) ∧
        Hid (sh = 0 → ∃ rl : Nat, Calls Tryz.prog 98 #[.slice (some ⟨bu, 0, none⟩) mp c] w8 (fun e w' => e = .returned (.slice (some ⟨bu, 0, none⟩) rl c) ∧ w' = w8) ∧ ∃ K2, StkK w8 s L' K2 ∧
          Hid (∀ w10, StkK w10 s L K2 → Fr K2 w8 w10 → (∀ b Z, Blk w8 b Z → Blk w10 b Z) → DivPost w zo uo s L K (vl xs) (vl ys) (.returned (.tuple #[.slice (some ⟨bq, 0, none⟩) ql cq, .slice (some ⟨bu, 0, none⟩) rl c])) w10)) ∧
        Hid (0 < sh → ∃ Q2 : Ending → World → Prop, Calls Tryz.prog 159 #[.slice (some ⟨bu, 0, none⟩) mp c, .slice (some ⟨bu, 0, none⟩) mp c, .int .u64 (sh : Int)] w8 Q2 ∧ ∀ e w9, Q2 e w9 → (∃ c : Nat, e = .returned (.int .u64 (c : Int))) ∧
          ∃ rl : Nat, Calls Tryz.prog 98 #[.slice (some ⟨bu, 0, none⟩) mp c] w9 (fun e w' => e = .returned (.slice (some ⟨bu, 0, none⟩) rl c) ∧ w' = w9) ∧ ∃ K2, StkK w9 s L' K2 ∧
          Hid (∀ w10, StkK w10 s L K2 → Fr K2 w9 w10 → (∀ b Z, Blk w9 b Z → Blk w10 b Z) → DivPost w zo uo s L K (vl xs) (vl ys) (.returned (.tuple #[.slice (some ⟨bq, 0, none⟩) ql cq, .slice (some ⟨bu, 0, none⟩) rl c])) w10)) := by
    intro bt ot ct Z L' K' w2 hB hlz hct hst2 hL1 hL2 hK hF2 hbt hbtin bu Zu c w3 hc hU hlu hcu hF3 hlu2
    subst hc
    have hF23 : Fr K w w3 := hF2.trans (hF3.mono (by simp))
    have hsz2 := hF2.size
    have hsz3 := hF3.size
    have hbu : (uo = some bu ∧ bu ∉ K ∧ bu < w.heap.size) ∨ w2.heap.size ≤ bu := by
      rcases hlu2 with h | ⟨x, h, hx⟩
      · exact .inl ⟨h.symm, uK _ h.symm, hu.lt h.symm⟩
      · right; injection h with h; subst h; exact hx
    have hbtlt := hB.lt
    have n1 : bu ∉ K' := by
      intro hin
      rcases hbu with ⟨_, h1, h2⟩ | h
      · rcases hK _ hin with h3 | h3
        · exact h1 h3
        · omega
      · have := hst2.lt _ hin; omega
    have n2 : bu ≠ bt := by
      rintro rfl
      rcases hbu with ⟨_, h1, h2⟩ | h
      · rcases hbt with h3 | ⟨h3, _⟩
        · omega
        · exact h1 h3
      · omega
    have n3 : bx ≠ bt := by
      rintro rfl
      rcases hbt with h3 | ⟨h3, _⟩
      · omega
      · exact bxK h3
    have n4 : by_ ≠ bt := by
      rintro rfl
      rcases hbt with h3 | ⟨h3, _⟩
      · omega
      · exact byK h3
    have n5 : bx ≠ bu := by
      rintro rfl
      rcases hbu with ⟨h1, _, _⟩ | h
      · exact (huz _ h1).2.1 hxo
      · omega
    refine ⟨hRX.fr hF23 bxK, hRY.fr hF23 byK, hB.fr hF3 (by simp), hst2.fr hF3 (by simp), n1, n2, n3, n4, n5, ?_⟩
    intro w6 hF6 us vs hsc
    have hFw : Fr (zo.toList ++ uo.toList ++ K) w w6 := by
      refine Fr.trans_new (hF23.mono (by intro x hx; simp [hx])) hF6 ?_
      intro x hx
      simp at hx
      rcases hx with rfl | rfl
      · rcases hbt with h | ⟨h, _⟩
        · exact .inr h
        · left; simp [h]
      · rcases hbu with ⟨h, _⟩ | h
        · left; simp [h]
        · right; omega
    have hS14 : ∀ b ∈ zo.toList ++ uo.toList ++ K, 14 ≤ b := by
      intro b hb
      simp at hb
      rcases hb with hb | hb | hb
      · exact z14 b hb
      · exact u14 b hb
      · exact K14 b hb
    have hT6 := hT.fr hFw hS14
    have hzu : zo ≠ some bu := by
      intro h
      rcases hbu with ⟨h1, _, _⟩ | h1
      · exact (huz _ h1).1 h
      · have := hz.lt h; omega
    have hz6 : Own w6 zv zo zs := by
      refine (hz.fr hF23 zK).fr hF6 ?_
      intro b hb hin
      simp at hin
      rcases hin with rfl | rfl
      · rcases hbt with h3 | ⟨h3, _⟩
        · have := hz.lt hb; omega
        · exact zK _ hb h3
      · exact hzu hb
    have hlater : Later w uo (some bu) := by
      rcases hlu2 with h | ⟨x, h, hx⟩
      · exact .inl h
      · exact .inr ⟨x, h, by omega⟩
    have hO6 : Own w6 (.slice (some ⟨bu, 0, none⟩) mp Zu.length) (some bu) us := by
      have hlen : (spl Zu 0 us).length = Zu.length := spl_length _ _ _ (by have := hsc.ul; omega)
      rw [← hlen]
      exact Own.of_blk hsc.u (by have := hsc.ul; omega) (spl_zero_take _ _) (by have := hsc.ul; omega) (by omega) (by omega)
    have hal := alias_own hz6 hO6
    rw [show shared zo (some bu) = false by
      unfold shared
      cases zo with
      | none => rfl
      | some b => simp; intro e; exact hzu (by rw [e])] at hal
    obtain ⟨d1, d2⟩ := sc_div (L := L) hsc hz6 (m := mq) (ct := ct) (by omega) (by omega) (by omega) (by omega) (by omega) hL1 (by omega) (by omega) hcu hct hs64 hFw hlater hzu hK (hbt.imp id And.left) hbtin n1 n2 hlz (fun x hx => ⟨hz.lt hx, zK x hx⟩)
    refine ⟨hT6.dr, hal, d1, ?_⟩
    intro p bq Zq cq w7 e1 e2 e3 e4 e5 e6 e7
    obtain ⟨Q, q1, q2⟩ := d2 p bq Zq cq w7 e1 e2 e3 e4 e5 e6 e7
    rw [hmp]
    refine ⟨((hT6.drewN p).fr e6 (by simp)).dr, Q, q1, ?_⟩
    intro e w8 hq
    obtain ⟨r1, ql, r2, r3, r4⟩ := q2 e w8 hq
    exact ⟨r1, ql, r2, Lib.hid r3, Lib.hid r4⟩
  obtain ⟨cX, hcXe⟩ : ∃ c, c = X.length := ⟨_, rfl⟩
  obtain ⟨cY, hcYe⟩ : ∃ c, c = Y.length := ⟨_, rfl⟩
  rw [← hmx, ← hcXe, ← hn, ← hcYe]
  obtain ⟨za, zl, zc, hzv⟩ : ∃ a l c, zv = .slice a l c := by obtain ⟨a, c, h⟩ := hz.slice; exact ⟨a, _, c, h⟩
  obtain ⟨ua, ul, uc, huv⟩ : ∃ a l c, uv = .slice a l c := by obtain ⟨a, c, h⟩ := hu.slice; exact ⟨a, _, c, h⟩
  have r1 : (mx : Int) - (n : Int) = (m0 : Int) := by omega
  have r2 : (n : Int) - 1 = (n1 : Int) := by omega
  have r3 : n1 < n := by omega
  have r4 : mx < mp := by omega
  have r5 : n ≤ cY := by omega
  have r6 : mx ≤ cX := by omega
  have r7 : n < 40 := by omega
  have r8 : n ≤ 1000 := by omega
  have r9 : mp ≤ 2000 := by omega
  have r10 : mq ≤ 2000 := by omega
  have r11 : mx ≤ mp := by omega
  obtain ⟨yt, hyt⟩ : ∃ yt, yt = ys.getD n1 0 := ⟨_, rfl⟩
  rw [← hyt] at hcell hnlz hyw
  have lx := hmx.symm
  have ly := hn.symm
  have h0n : 0 < n := by omega
  have h0m : 0 < mx := by omega
  have hn1' : n - 1 = n1 := by omega
  have hmp2 : mx + 1 = mp := by omega
  subst hzv huv
  have hss : ∀ a, Value.slice a 0 0 = Value.slice a 0 0 := fun _ => rfl
  by_cases h0 : sh = 0
  · have hstep : ∀ bt ot ct Z L' K' w2, Blk w2 bt Z → ot + n ≤ Z.length → n ≤ ct → StkK w2 s L' K' → L ≤ L' → L' ≤ L + n + 3 → (∀ b ∈ K', b ∈ K ∨ w.heap.size ≤ b) → Fr K w w2 → (w.heap.size ≤ bt ∨ (bt ∈ K ∧ L ≤ ot)) → (bt ∈ K' → ot + n ≤ L') →
        ∀ (bu : Nat) (Zu : List Nat) (c : Nat) (w3 : World), Zu.length = c → Blk w3 bu Zu → mp ≤ Zu.length → Zu.length ≤ 100000 → Fr [] w2 w3 → Later w2 uo (some bu) →
        ∃ w4 w5, (∀ ty, (Builtin.copy_ #[97, 97] ty #[.slice (some ⟨bt, ot, none⟩) n ct, .slice (some ⟨by_, 0, none⟩) n cY]).run Tryz.prog w3 = .ok (.int .i64 (n : Int)) w4) ∧
          (∀ ty, (Builtin.copy_ #[97, 97] ty #[.slice (some ⟨bu, 0, none⟩) mx c, .slice (some ⟨bx, 0, none⟩) mx cX]).run Tryz.prog w4 = .ok (.int .i64 (mx : Int)) w5) ∧
          (∃ v, w5.cell? ⟨bu, mx, none⟩ = some v) ∧ w5.frozen? ⟨bu, mx, none⟩ = false ∧ mx ≤ c ∧ Hid (Fr [bt, bu] w3 (w5.setCell ⟨bu, mx, none⟩ (.int .u64 0)) ∧ ∃ us vs, Sc w s n mx sh (vl xs) (vl ys) bu bt ot L' K K' Zu Z us vs (w5.setCell ⟨bu, mx, none⟩ (.int .u64 0))) := by
      intro bt ot ct Z L' K' w2 a1 a2 a3 a4 a5 a6 a7 a8 a9 a10 bu Zu c w3 b1 b2 b3 b4 b5 b6
      obtain ⟨c1, c2, c3, c4, c5, c6, c7, c8, c9, _⟩ := hrest bt ot ct Z L' K' w2 a1 a2 a3 a4 a5 a6 a7 a8 a9 a10 bu Zu c w3 b1 b2 b3 b4 b5 b6
      obtain ⟨w4, w5, d1, d2, d3, d4, d5⟩ := sc_copy (w := w) (s := s) (K := K) (L' := L') (cX := cX) (cY := cY) (ct := ct) (cu := c) c1 c2 lx ly h0n wX wY nY (by rw [hn1', ← hsh, h0]) c3 a2 b2 (by omega) c4 c5 c6 c7
      rw [h0]
      exact ⟨w4, w5, d1, d2, d3, d4, by omega, d5⟩
    have HST := Lib.hid hstep
    have HR := Lib.hid hrest
    rw [h0] at hnlz
    have H0 := Lib.hid h0
    clear hstep hrest hX hY htX htY hRX hRY hz hu hx hy wX wY nY hst hT zK uK xK yK huz K14 z14 u14 hfit hs64 h0 hcXe hcYe lx ly hn hmx hm0 hn1 hsh hmp hmq hxo hyo hyt hcX hcY hlX hlY hyn hy40 hxy hxl hL hlX2 hlY2 bxK byK hn1' hmp2
    go_enter_defers Tryz.func170, Tryz.ntmps170
    go_wp2_with (first | (go_at_call 101; (with_reducible refine hsave.mono ?_); rintro e w1 ⟨rfl, rfl⟩) | (go_at_call 121; (with_reducible refine (hnlz _).mono ?_); rintro e w1 ⟨rfl, rfl⟩) | (go_at_call 102; (with_reducible refine hnat.mono ?_); rintro e w2 ⟨bt, ot, ct, Z, L', K', rfl, a1, a2, a3, a4, a5, a6, a7, a8, a9, a10, a11⟩; have hmk2 := hmk w2 a8; clear hmk hnat) | (go_at_call 96; (with_reducible refine hmk2.mono ?_); rintro e w3 ⟨bu, Zu, c, rfl, b1, b2, b3, b4, b5, b6, b7⟩; obtain ⟨w4, w5, k1, k2, ⟨v0, k3⟩, k4, k5, HSc⟩ := HST.out bt ot ct Z L' K' w2 a1 a2 a3 a4 a5 a6 a7 a8 a9 a11 bu Zu c w3 b1 b2 b3 b5 b6 b7; obtain ⟨hF6, us, vs, hsc⟩ := HSc.out; obtain ⟨-, -, -, -, -, -, -, -, -, hR2⟩ := HR.out bt ot ct Z L' K' w2 a1 a2 a3 a4 a5 a6 a7 a8 a9 a11 bu Zu c w3 b1 b2 b3 b5 b6 b7; obtain ⟨m1, m2, m3, m4⟩ := hR2 _ hF6 us vs hsc; have hLL := a5; clear hR2 hsc hF6 HSc HST HR hmk2 a1 a2 a4 a5 a6 a7 a8 a9 a10 a11 b1 b2 b3 b4 b5 b6 b7 m1) | (go_at_call 95; (with_reducible refine m2.mono ?_); rintro e w7 ⟨rfl, p1, rfl⟩; clear m2) | (go_at_call 96; (with_reducible refine (m3 _).mono ?_); rintro e w8 ⟨bq, Zq, cq, rfl, b1, b2, b3, b4, b5, b6, b7⟩; obtain ⟨g1, Q, hQ, hQ2⟩ := m4 _ bq Zq cq w8 b1 b2 b3 b4 b5 b6 b7; clear m3 m4 b1 b2 b3 b4 b5 b6 b7) | (go_at_call 203; (with_reducible refine hQ.mono ?_); rintro e w9 hp; obtain ⟨rfl, ql, hN, HZ, HS⟩ := hQ2 e w9 hp; clear hQ hQ2) | (go_at_call 98; (with_reducible refine hN.mono ?_); rintro e w10 ⟨rfl, rfl⟩; obtain ⟨rl, hN2, K2, st2, HF⟩ := HZ.out H0.out; clear hN HZ HS) | (go_at_call 98; (with_reducible refine hN2.mono ?_); rintro e w10 ⟨rfl, rfl⟩))
    refine leaves_cons (f := 100) (args := #[.pointer (some ⟨s, 0, none⟩), .int .i64 (L : Int)]) (by simp) (by simp [go_sem]) ?_
    refine (stkRestore_d .returning st2 (k := L) hLL).mono ?_
    rintro e u' w8 ⟨rfl, rfl, k1, k2, k3, k4⟩
    exact ⟨.tuple #[.slice (some ⟨bq, 0, none⟩) ql cq, .slice (some ⟨bu, 0, none⟩) rl c], by simp [results, Tryz.results170, go_sem], HF.out w8 k1 k2 k4⟩
  · have hsp : 0 < sh := by omega
    have hne0 : ((sh : Int) == 0) = false := by simp; omega
    have hstep : ∀ bt ot ct Z L' K' w2, Blk w2 bt Z → ot + n ≤ Z.length → n ≤ ct → StkK w2 s L' K' → L ≤ L' → L' ≤ L + n + 3 → (∀ b ∈ K', b ∈ K ∨ w.heap.size ≤ b) → Fr K w w2 → (w.heap.size ≤ bt ∨ (bt ∈ K ∧ L ≤ ot)) → (bt ∈ K' → ot + n ≤ L') →
        ∀ (bu : Nat) (Zu : List Nat) (c : Nat) (w3 : World), Zu.length = c → Blk w3 bu Zu → mp ≤ Zu.length → Zu.length ≤ 100000 → Fr [] w2 w3 → Later w2 uo (some bu) →
        mx ≤ c ∧ ∃ Q : Ending → World → Prop, Calls Tryz.prog 124 #[.slice (some ⟨bt, ot, none⟩) n ct, .slice (some ⟨by_, 0, none⟩) n cY, .int .u64 (sh : Int)] w3 Q ∧ ∀ e w4, Q e w4 → (∃ c : Nat, e = .returned (.int .u64 (c : Int))) ∧
          ∃ Q2 : Ending → World → Prop, Calls Tryz.prog 124 #[.slice (some ⟨bu, 0, none⟩) mx c, .slice (some ⟨bx, 0, none⟩) mx cX, .int .u64 (sh : Int)] w4 Q2 ∧ ∀ e w5, Q2 e w5 → ∃ d : Nat, e = .returned (.int .u64 (d : Int)) ∧
          (∃ v, w5.cell? ⟨bu, mx, none⟩ = some v) ∧ w5.frozen? ⟨bu, mx, none⟩ = false ∧
          Hid (Fr [bt, bu] w3 (w5.setCell ⟨bu, mx, none⟩ (.int .u64 (d : Int))) ∧ ∃ us vs, Sc w s n mx sh (vl xs) (vl ys) bu bt ot L' K K' Zu Z us vs (w5.setCell ⟨bu, mx, none⟩ (.int .u64 (d : Int)))) := by
      intro bt ot ct Z L' K' w2 a1 a2 a3 a4 a5 a6 a7 a8 a9 a10 bu Zu c w3 b1 b2 b3 b4 b5 b6
      obtain ⟨c1, c2, c3, c4, c5, c6, c7, c8, c9, _⟩ := hrest bt ot ct Z L' K' w2 a1 a2 a3 a4 a5 a6 a7 a8 a9 a10 bu Zu c w3 b1 b2 b3 b4 b5 b6
      exact ⟨by omega, sc_shift (w := w) (s := s) (K := K) (L' := L') (cX := cX) (cY := cY) (ct := ct) (cu := c) c1 c2 lx ly h0n h0m (by omega) (by omega) wX wY nY (by rw [hn1']; exact hsh) hsp c3 a2 b2 (by omega) c4 c5 c6 c7 c8 c9⟩
    have HST := Lib.hid hstep
    have HR := Lib.hid hrest
    have H0 := Lib.hid hsp
    clear hstep hrest hX hY htX htY hRX hRY hz hu hx hy wX wY nY hst hT zK uK xK yK huz K14 z14 u14 hfit hs64 h0 hsp hcXe hcYe lx ly hn hmx hm0 hn1 hsh hmp hmq hxo hyo hyt hcX hcY hlX hlY hyn hy40 hxy hxl hL hlX2 hlY2 bxK byK hn1' hmp2
    go_enter_defers Tryz.func170, Tryz.ntmps170
    go_wp2_with (first | (go_at_call 101; (with_reducible refine hsave.mono ?_); rintro e w1 ⟨rfl, rfl⟩) | (go_at_call 121; (with_reducible refine (hnlz _).mono ?_); rintro e w1 ⟨rfl, rfl⟩) | (go_at_call 102; (with_reducible refine hnat.mono ?_); rintro e w2 ⟨bt, ot, ct, Z, L', K', rfl, a1, a2, a3, a4, a5, a6, a7, a8, a9, a10, a11⟩; have hmk2 := hmk w2 a8; clear hmk hnat) | (go_at_call 96; (with_reducible refine hmk2.mono ?_); rintro e w3 ⟨bu, Zu, c, rfl, b1, b2, b3, b4, b5, b6, b7⟩; obtain ⟨k5, Qa, ka, kb⟩ := HST.out bt ot ct Z L' K' w2 a1 a2 a3 a4 a5 a6 a7 a8 a9 a11 bu Zu c w3 b1 b2 b3 b5 b6 b7; have hR2 := Lib.hid (HR.out bt ot ct Z L' K' w2 a1 a2 a3 a4 a5 a6 a7 a8 a9 a11 bu Zu c w3 b1 b2 b3 b5 b6 b7); have hLL := a5; clear HST HR hmk2 a1 a2 a4 a5 a6 a7 a8 a9 a10 a11 b1 b2 b3 b4 b5 b6 b7) | (go_at_call 124; (with_reducible refine ka.mono ?_); rintro e w4 hp; obtain ⟨⟨c4, rfl⟩, Qb, kc, kd⟩ := kb e w4 hp; clear ka kb hp) | (go_at_call 124; (with_reducible refine kc.mono ?_); rintro e w5 hp; obtain ⟨d, rfl, ⟨v0, k3⟩, k4, HSc⟩ := kd e w5 hp; obtain ⟨hF6, us, vs, hsc⟩ := HSc.out; obtain ⟨-, -, -, -, -, -, -, -, -, hR3⟩ := hR2.out; obtain ⟨m1, m2, m3, m4⟩ := hR3 _ hF6 us vs hsc; clear hR2 hR3 hsc hF6 HSc kc kd hp m1) | (go_at_call 95; (with_reducible refine m2.mono ?_); rintro e w7 ⟨rfl, p1, rfl⟩; clear m2) | (go_at_call 96; (with_reducible refine (m3 _).mono ?_); rintro e w8 ⟨bq, Zq, cq, rfl, b1, b2, b3, b4, b5, b6, b7⟩; obtain ⟨g1, Q, hQ, hQ2⟩ := m4 _ bq Zq cq w8 b1 b2 b3 b4 b5 b6 b7; clear m3 m4 b1 b2 b3 b4 b5 b6 b7) | (go_at_call 203; (with_reducible refine hQ.mono ?_); rintro e w9 hp; obtain ⟨rfl, ql, hN, HZ, HS⟩ := hQ2 e w9 hp; clear hQ hQ2) | (go_at_call 98; (with_reducible refine hN.mono ?_); rintro e w10 ⟨rfl, rfl⟩; obtain ⟨Qc, ke, kf⟩ := HS.out H0.out; clear hN HZ HS) | (go_at_call 159; (with_reducible refine ke.mono ?_); rintro e w11 hp; obtain ⟨⟨c5, rfl⟩, rl, hN2, K2, st2, HF⟩ := kf e w11 hp; clear ke kf hp) | (go_at_call 98; (with_reducible refine hN2.mono ?_); rintro e w10 ⟨rfl, rfl⟩))
    refine leaves_cons (f := 100) (args := #[.pointer (some ⟨s, 0, none⟩), .int .i64 (L : Int)]) (by simp) (by simp [go_sem]) ?_
    refine (stkRestore_d .returning st2 (k := L) hLL).mono ?_
    rintro e u' w8 ⟨rfl, rfl, k1, k2, k3, k4⟩
    exact ⟨.tuple #[.slice (some ⟨bq, 0, none⟩) ql cq, .slice (some ⟨bu, 0, none⟩) rl c], by simp [results, Tryz.results170, go_sem], HF.out w8 k1 k2 k4⟩
end Go.Proofs.YtpmggjplfcjkkaaGreatDoor

/- div. -/
set_option linter.unusedVariables false
set_option linter.unusedSimpArgs false
namespace Go.Proofs.YtpmggjplfcjkkaaGreatDoor
open Go.RowKit Nq

theorem later_ne {w w1 : World} {zo uo qo ro : Option Nat} (hq : Later w zo qo) (hr : Later w1 uo ro) (huz : ∀ x, uo = some x → zo ≠ some x) (hu : ∀ x, uo = some x → x < w.heap.size) (hq1 : ∀ x, qo = some x → x < w1.heap.size) : ∀ x, qo = some x → ro ≠ some x := by
  intro x hx hrx
  have h1 := hq1 x hx
  rcases hr with h | ⟨y, h, hy⟩
  · rw [h] at hrx
    rcases hq with h2 | ⟨z, h2, hz⟩
    · rw [h2] at hx; exact huz x hrx hx
    · have := hu x hrx; rw [h2] at hx; injection hx with hx; omega
  · rw [h] at hrx; injection hrx with hrx; omega
theorem Later.up {w w1 : World} {zo qo : Option Nat} (h : Later w1 zo qo) (hs : w.heap.size ≤ w1.heap.size) : Later w zo qo := by
  rcases h with h | ⟨x, h, hx⟩
  · exact .inl h
  · exact .inr ⟨x, h, by omega⟩
theorem Later.notin {w : World} {zo qo : Option Nat} {K : List Nat} (h : Later w zo qo) (hz : ∀ x, zo = some x → x ∉ K) (hK : ∀ x ∈ K, x < w.heap.size) : ∀ x, qo = some x → x ∉ K := by
  intro x hx hin
  rcases h with h | ⟨y, h, hy⟩
  · rw [h] at hx; exact hz x hx hin
  · rw [h] at hx; injection hx with hx; subst hx; have := hK _ hin; omega

/-- div hands back (without a stack of its own that stays). -/
def DivQ (w : World) (zo uo : Option Nat) (S : List Nat) (a b : Nat) (e : Ending) (w' : World) : Prop :=
  ∃ qv qo rv ro, e = .returned (.tuple #[qv, rv]) ∧ IsN w' qv qo (a / b) ∧ IsN w' rv ro (a % b) ∧ Fr (zo.toList ++ uo.toList ++ S) w w' ∧ Later w zo qo ∧ Later w uo ro ∧ (∀ x, qo = some x → ro ≠ some x)

set_option maxRecDepth 100000 in
set_option maxHeartbeats 1000000 in
theorem div_word {zv uv xv yv : Value} {zo uo xo yo : Option Nat} {zs us0 : List Nat} {a y : Nat} (stk : Value) {w : World} (hz : Own w zv zo zs) (hu : Own w uv uo us0) (hx : IsN w xv xo a) (hy : Own w yv yo [y])
    (wY : Wd [y]) (hy0 : 0 < y) (ha : a < Bw ^ 1000) (ha0 : 0 < a) (huz : ∀ x, uo = some x → zo ≠ some x) :
    Calls Tryz.prog 114 #[zv, stk, uv, xv, yv] w (DivQ w zo uo [] a y) := by
  obtain ⟨r0, hr0⟩ : ∃ r0, r0 = a % y := ⟨_, rfl⟩
  have hcall : Calls Tryz.prog 169 #[zv, xv, .int .u64 (y : Int)] w fun e w' => ∃ v o, e = .returned (.tuple #[v, .int .u64 (r0 : Int)]) ∧ IsN w' v o (a / y) ∧ Fr zo.toList w w' ∧ Later w zo o := by
    rw [hr0]; exact divW_N hz hx ha wY.head hy0 (.inl ha0)
  have hset : ∀ v w1 (o : Option Nat), IsN w1 v o (a / y) → Fr zo.toList w w1 → Later w zo o →
      ∃ Q : Ending → World → Prop, Calls Tryz.prog 70 #[uv, .int .u64 (r0 : Int)] w1 Q ∧ ∀ e w2, Q e w2 → ∃ rv, e = .returned rv ∧ Hid (DivQ w zo uo [] a y (.returned (.tuple #[v, rv])) w2) := by
    intro v w1 o h1 h2 h3
    have hu1 : Own w1 uv uo us0 := hu.fr h2 (by intro b hb hin; simp at hin; exact huz b hb hin)
    refine ⟨_, setWord hu1 (x := r0) (by rw [hr0]; exact Nat.lt_trans (Nat.mod_lt a hy0) wY.head), ?_⟩
    intro e w2 hp
    obtain ⟨rv, ro, rfl, k1, k2, k3⟩ := hp.isN
    have hne := later_ne h3 k3 huz (fun x hx => hu.lt hx) (fun x hx => h1.lt hx)
    refine ⟨rv, rfl, Lib.hid ⟨v, o, rv, ro, rfl, h1.fr k2 ?_, by rw [← hr0]; exact k1, ?_, h3, k3.up h2.size, hne⟩⟩
    · intro b hb hin
      simp at hin
      rcases h3 with h | ⟨z, h, hz'⟩
      · rw [h] at hb; exact huz b hin hb
      · have := hu.lt hin; rw [h] at hb; injection hb with hb; omega
    · exact (h2.mono (by intro x hx; simp; simp at hx; exact .inl hx)).trans (k2.mono (by intro x hx; simp; simp at hx; exact .inr hx))
  obtain ⟨xa, xl, xc, rfl⟩ := hx.slice
  obtain ⟨by_, Y, hyo, rfl, hY, htY, hlY, hcY⟩ := hy.block (by simp)
  have hyc := (hY.row_take htY) 0 (by simp)
  rw [show [y].getD 0 0 = y from rfl, Nat.zero_add] at hyc
  rw [show [y].length = 1 from rfl] at *
  obtain ⟨za, zc, rfl⟩ := hz.slice
  obtain ⟨ua, uc, rfl⟩ := hu.slice
  generalize Y.length = cY at *
  generalize zs.length = zl at *
  generalize us0.length = ul at *
  clear hz hu hx hy wY hY htY huz hy0 ha ha0 hr0
  go_enter Tryz.func114, Tryz.ntmps114
  go_wp2_with (first | (go_at_call 169; (with_reducible refine hcall.mono ?_); rintro e w1 ⟨v, o, rfl, h1, h2, h3⟩; obtain ⟨Q, hQ, hQ2⟩ := hset v w1 o h1 h2 h3; clear hset hcall) | (go_at_call 70; (with_reducible refine hQ.mono ?_); rintro e w2 hp; obtain ⟨rv, rfl, HP⟩ := hQ2 e w2 hp))
  go_ret2
  exact HP.out

theorem cmpW_ge {a b : Nat} (h : b ≤ a) : cmpW a b = 0 ∨ cmpW a b = 1 := by
  rcases Nat.lt_or_eq_of_le h with h | h
  · exact .inr (cmpW_gt h)
  · subst h; exact .inl (cmpW_eq _)

set_option maxRecDepth 100000 in
set_option maxHeartbeats 2000000 in
theorem div_stk {zv uv xv yv : Value} {zo uo xo yo : Option Nat} {zs us0 : List Nat} {a b s L : Nat} {K : List Nat} {w : World} (hz : Own w zv zo zs) (hu : Own w uv uo us0) (hx : IsN w xv xo a) (hy : IsN w yv yo b)
    (hb0 : 0 < b) (hba : b ≤ a) (ha : a < Bw ^ 200) (hb : b < Bw ^ 39) (hst : StkK w s L K) (hL : L ≤ 10) (hT : Th w)
    (zK : ∀ x, zo = some x → x ∉ K) (uK : ∀ x, uo = some x → x ∉ K) (xK : ∀ x, xo = some x → x ∉ K) (yK : ∀ x, yo = some x → x ∉ K) (huz : ∀ x, uo = some x → zo ≠ some x ∧ xo ≠ some x ∧ yo ≠ some x)
    (K14 : ∀ x ∈ K, 14 ≤ x) (z14 : ∀ x, zo = some x → 14 ≤ x) (u14 : ∀ x, uo = some x → 14 ≤ x) :
    Calls Tryz.prog 114 #[zv, .pointer (some ⟨s, 0, none⟩), uv, xv, yv] w (DivPost w zo uo s L K a b) := by
  obtain ⟨ys, hyo, wY, nY, rfl⟩ := hy
  have hly := len_of_lt nY rfl hb
  match ys, hyo, wY, nY, hly, hb0 with
  | [], _, _, _, _, hb0 => simp at hb0
  | [y], hyo, wY, nY, hly, hb0 =>
    rw [show vl [y] = y by simp [vl]] at *
    refine (div_word (.pointer (some ⟨s, 0, none⟩)) hz hu hx hyo wY hb0 (Nat.lt_of_lt_of_le ha (pow_mono (m := 200) (n := 1000) (by decide))) (by omega) (fun x h => (huz x h).1)).mono ?_
    rintro e w' ⟨qv, qo, rv, ro, rfl, h1, h2, h3, h4, h5, h6⟩
    refine ⟨qv, qo, rv, ro, K, rfl, h1, h2, h3.mono (by intro x hx; simp at hx ⊢; rcases hx with h | h <;> simp [h]), h4, h5, fun x hx => ⟨h6 x hx, h4.notin zK hst.lt x hx⟩, h5.notin uK hst.lt, hst.fr h3 ?_, fun x hx => .inl hx⟩
    intro b hb hin
    simp at hin
    rcases hin with h | h
    · exact zK b h hb
    · exact uK b h hb
  | y1 :: y2 :: t, hyo, wY, nY, hly, hb0 =>
    have hcmp := cmp_N hx (yv := yv) (yo := yo) ⟨y1 :: y2 :: t, hyo, wY, nY, rfl⟩
    obtain ⟨xs, hxo, wX, nX, rfl⟩ := hx
    have hlx := len_of_lt nX rfl ha
    have hxy := length_le_of_vl nY wX hba
    have hlen : 2 ≤ (y1 :: y2 :: t).length := by simp
    generalize y1 :: y2 :: t = ys at *
    have hdl : ∀ k, Calls Tryz.prog 170 #[zv, .pointer (some ⟨s, 0, none⟩), uv, xv, yv] (w.drewN k) (DivPost (w.drewN k) zo uo s L K (vl xs) (vl ys)) := fun k =>
      divLarge (hz.drewN k) (hu.drewN k) (hxo.drewN k) (hyo.drewN k) wX wY nY hlen (by omega) hxy (Nat.le_trans hlx (by decide)) (hst.fr ((Fr.refl [] w).drewN k) (by simp)) hL (hT.drewN k) zK uK xK yK huz K14 z14 u14
    have hfin : ∀ k e w', DivPost (w.drewN k) zo uo s L K (vl xs) (vl ys) e w' → ∃ qv rv, e = .returned (.tuple #[qv, rv]) ∧ Hid (DivPost w zo uo s L K (vl xs) (vl ys) (.returned (.tuple #[qv, rv])) w') := by
      rintro k e w' ⟨qv, qo, rv, ro, K', rfl, h1, h2, h3, h4, h5, h6, h7, h8, h9⟩
      exact ⟨qv, rv, rfl, Lib.hid ⟨qv, qo, rv, ro, K', rfl, h1, h2, ((Fr.refl _ w).drewN k).trans h3, h4.drewN, h5.drewN, h6, h7, h8, by intro x hx; rcases h9 x hx with h | h; exact .inl h; right; rwa [heap_drewN] at h⟩⟩
    obtain ⟨cw, hcw, hcw2⟩ : ∃ c : Int, c = cmpW (vl xs) (vl ys) ∧ 0 ≤ c := ⟨_, rfl, by rcases cmpW_ge hba with h | h <;> rw [h] <;> decide⟩
    rw [← hcw] at hcmp
    have hd1 : ((ys.length : Int) == 0) = false := by rw [beq_eq_false_iff_ne]; omega
    have hd2 : ((ys.length : Int) == 1) = false := by rw [beq_eq_false_iff_ne]; omega
    obtain ⟨xa, xc, rfl⟩ := hxo.slice
    obtain ⟨ya, yc, rfl⟩ := hyo.slice
    obtain ⟨za, zc, rfl⟩ := hz.slice
    obtain ⟨ua, uc, rfl⟩ := hu.slice
    generalize ys.length = yl at *
    generalize xs.length = xl at *
    generalize zs.length = zl at *
    generalize us0.length = ul at *
    generalize vl xs = A at *
    generalize vl ys = B at *
    clear hz hu hxo hyo wX wY nX nY hst hT zK uK xK yK huz K14 z14 u14 hcw
    go_enter Tryz.func114, Tryz.ntmps114
    go_wp2_with (first | (go_at_call 57; (with_reducible refine hcmp.mono ?_); rintro e w1 ⟨rfl, k1, rfl⟩; clear hcmp) | (go_at_call 170; (with_reducible refine (hdl _).mono ?_); rintro e w2 hp; obtain ⟨qv, rv, rfl, HP⟩ := hfin _ e w2 hp; clear hdl hfin))
    go_ret2
    exact HP.out
end Go.Proofs.YtpmggjplfcjkkaaGreatDoor

/- div, with a stack of its own. -/
set_option linter.unusedVariables false
set_option linter.unusedSimpArgs false
namespace Go.Proofs.YtpmggjplfcjkkaaGreatDoor
open Go.RowKit Nq

set_option maxRecDepth 100000 in
set_option maxHeartbeats 2000000 in
theorem div_nil {zv uv xv yv : Value} {zo uo xo yo : Option Nat} {zs us0 : List Nat} {a b : Nat} {w : World} (hz : Own w zv zo zs) (hu : Own w uv uo us0) (hx : IsN w xv xo a) (hy : IsN w yv yo b)
    (hb0 : 0 < b) (hba : b ≤ a) (ha : a < Bw ^ 200) (hb : b < Bw ^ 39) (hT : Th w)
    (huz : ∀ x, uo = some x → zo ≠ some x ∧ xo ≠ some x ∧ yo ≠ some x) (z14 : ∀ x, zo = some x → 14 ≤ x) (u14 : ∀ x, uo = some x → 14 ≤ x) :
    Calls Tryz.prog 114 #[zv, .pointer none, uv, xv, yv] w (DivQ w zo uo [] a b) := by
  obtain ⟨ys, hyo, wY, nY, rfl⟩ := hy
  have hly := len_of_lt nY rfl hb
  match ys, hyo, wY, nY, hly, hb0 with
  | [], _, _, _, _, hb0 => simp at hb0
  | [y], hyo, wY, nY, hly, hb0 =>
    rw [show vl [y] = y by simp [vl]] at *
    exact div_word (.pointer none) hz hu hx hyo wY hb0 (Nat.lt_of_lt_of_le ha (pow_mono (m := 200) (n := 1000) (by decide))) (by omega) (fun x h => (huz x h).1)
  | y1 :: y2 :: t, hyo, wY, nY, hly, hb0 =>
    have hcmp := cmp_N hx (yv := yv) (yo := yo) ⟨y1 :: y2 :: t, hyo, wY, nY, rfl⟩
    obtain ⟨xs, hxo, wX, nX, rfl⟩ := hx
    have hlx := len_of_lt nX rfl ha
    have hxy := length_le_of_vl nY wX hba
    have hlen : 2 ≤ (y1 :: y2 :: t).length := by simp
    generalize y1 :: y2 :: t = ys at *
    have hsz := hT.size
    have hdl : ∀ w1, w1.heap[w.heap.size]? = some (.cells #[.pointer none] 139 (0, 0)) → Fr [] w w1 → ∃ Q : Ending → World → Prop, Calls Tryz.prog 170 #[zv, .pointer (some ⟨w.heap.size, 0, none⟩), uv, xv, yv] w1 Q ∧ ∀ e w2, Q e w2 →
        ∃ qv rv K', e = .returned (.tuple #[qv, rv]) ∧ StkK w2 w.heap.size 0 K' ∧ Hid (∀ w3, Fr K' w2 w3 → DivQ w zo uo [] (vl xs) (vl ys) (.returned (.tuple #[qv, rv])) w3) := by
      intro w1 h1 hF
      have hnil : StkNil w1 w.heap.size := h1
      have hlt : w.heap.size < w1.heap.size := hnil.lt
      have hno : ∀ (o : Option Nat) (v : Value) (l : List Nat), Own w v o l → ∀ x, o = some x → x ∉ [w.heap.size] := by
        intro o v l h x hx hin
        simp at hin
        have := h.lt hx
        omega
      refine ⟨_, divLarge (s := w.heap.size) (L := 0) (K := [w.heap.size]) (hz.fr hF (by simp)) (hu.fr hF (by simp)) (hxo.fr hF (by simp)) (hyo.fr hF (by simp)) wX wY nY hlen (by omega) hxy (Nat.le_trans hlx (by decide)) (.inl ⟨hnil, rfl, rfl⟩) (by omega) (hT.fr hF (by simp)) (hno _ _ _ hz) (hno _ _ _ hu) (hno _ _ _ hxo) (hno _ _ _ hyo) huz (by simpa using hsz) z14 u14, ?_⟩
      rintro e w2 ⟨qv, qo, rv, ro, K', rfl, h1, h2, h3, h4, h5, h6, h7, h8, h9⟩
      refine ⟨qv, rv, K', rfl, h8, Lib.hid ?_⟩
      intro w3 hF3
      have hK' : ∀ x ∈ K', w.heap.size ≤ x := by
        intro x hx
        rcases h9 x hx with h | h
        · simp at h; omega
        · omega
      refine ⟨qv, qo, rv, ro, rfl, h1.fr hF3 (fun x hx => (h6 x hx).2), h2.fr hF3 h7, ?_, h4.up hF.size, h5.up hF.size, fun x hx => (h6 x hx).1⟩
      have hA : Fr (zo.toList ++ uo.toList ++ []) w w2 := by
        refine ((hF.mono (by simp)).trans_new h3 ?_)
        intro x hx
        simp at hx ⊢
        rcases hx with h | h | h
        · exact .inl (.inl h)
        · exact .inl (.inr h)
        · exact .inr (by omega)
      exact hA.trans_new hF3 (fun x hx => .inr (hK' x hx))
    obtain ⟨cw, hcw, hcw2⟩ : ∃ c : Int, c = cmpW (vl xs) (vl ys) ∧ 0 ≤ c := ⟨_, rfl, by rcases cmpW_ge hba with h | h <;> rw [h] <;> decide⟩
    rw [← hcw] at hcmp
    have hd1 : ((ys.length : Int) == 0) = false := by rw [beq_eq_false_iff_ne]; omega
    have hd2 : ((ys.length : Int) == 1) = false := by rw [beq_eq_false_iff_ne]; omega
    have hgs : ∀ k, Calls Tryz.prog 40 #[] (w.drewN k) fun e w' => e = .returned (.pointer (some ⟨w.heap.size, 0, none⟩)) ∧ w'.heap[w.heap.size]? = some (.cells #[.pointer none] 139 (0, 0)) ∧ Fr [] w w' := by
      intro k
      refine (getStack (w.drewN k)).mono ?_
      rintro e w' ⟨rfl, rfl⟩
      rw [heap_drewN]
      refine ⟨rfl, ?_, ((Fr.refl [] w).drewN k).alloc _⟩
      have := alloc_at (w.drewN k) (.cells #[.pointer none] 139)
      rwa [heap_drewN] at this
    obtain ⟨xa, xc, rfl⟩ := hxo.slice
    obtain ⟨ya, yc, rfl⟩ := hyo.slice
    obtain ⟨za, zc, rfl⟩ := hz.slice
    obtain ⟨ua, uc, rfl⟩ := hu.slice
    generalize ys.length = yl at *
    generalize xs.length = xl at *
    generalize zs.length = zl at *
    generalize us0.length = ul at *
    generalize vl xs = A at *
    generalize vl ys = B at *
    obtain ⟨s, hs⟩ : ∃ s, w.heap.size = s := ⟨_, rfl⟩
    rw [hs] at hdl hgs
    clear hz hu hxo hyo wX wY nX nY hT huz z14 u14 hcw hs
    go_enter_defers Tryz.func114, Tryz.ntmps114
    go_wp2_with (first | (go_at_call 57; (with_reducible refine hcmp.mono ?_); rintro e w1 ⟨rfl, k1, rfl⟩; clear hcmp) | (go_at_call 40; (with_reducible refine (hgs _).mono ?_); rintro e w2 ⟨rfl, h1, h2⟩; obtain ⟨Q, hQ, hQ2⟩ := hdl w2 h1 h2; clear hgs hdl h1 h2) | (go_at_call 170; (with_reducible refine hQ.mono ?_); rintro e w3 hp; obtain ⟨qv, rv, K', rfl, hst, HP⟩ := hQ2 e w3 hp; clear hQ hQ2 hp))
    refine leaves_cons (f := 41) (args := #[.pointer (some ⟨s, 0, none⟩)]) (by simp) (by simp [go_sem]) ?_
    refine (stkFree_d .returning hst).mono ?_
    rintro e u' w8 ⟨rfl, rfl, k2⟩
    exact ⟨.tuple #[qv, rv], by simp [results, Tryz.results114, go_sem], HP.out w8 k2⟩
end Go.Proofs.YtpmggjplfcjkkaaGreatDoor

/- Structs in memory; whole numbers (big.Int) in them, and what keeps them apart. -/
set_option linter.unusedVariables false
set_option linter.unusedSimpArgs false
namespace Go.Proofs.YtpmggjplfcjkkaaGreatDoor
open Go.RowKit Nq

theorem Cells.ne_blk {w : World} {b c : Nat} {vs : Array Value} {T : TypeId} {Z : List Nat} (h : Cells w b vs T) (hT : T ≠ 168) (hZ : Blk w c Z) : b ≠ c := by
  rintro rfl
  have := (show w.heap[b]? = _ from h).symm.trans hZ
  injection this with this
  injection this with _ this
  exact hT this
theorem Own.ne_cells {w : World} {v : Value} {o : Option Nat} {ws : List Nat} {b : Nat} {vs : Array Value} {T : TypeId} (h : Own w v o ws) (hc : Cells w b vs T) (hT : T ≠ 168) {x : Nat} (hx : o = some x) : x ≠ b := by
  rcases h with ⟨_, h, _⟩ | ⟨c, Z, h, _, hZ, _⟩
  · rw [h] at hx; cases hx
  · rw [h] at hx; injection hx with hx; subst hx; exact fun e => hc.ne_blk hT hZ e.symm
theorem IsN.ne_cells {w : World} {v : Value} {o : Option Nat} {n : Nat} {b : Nat} {vs : Array Value} {T : TypeId} (h : IsN w v o n) (hc : Cells w b vs T) (hT : T ≠ 168) {x : Nat} (hx : o = some x) : x ≠ b :=
  let ⟨_, h, _⟩ := h; h.ne_cells hc hT hx

/-- A number in its struct: the struct's block, the words' block, the sign, the value. -/
structure Ent where
  b : Nat
  o : Option Nat
  neg : Bool
  n : Nat
def Ent.foot (e : Ent) : List Nat := e.b :: e.o.toList
theorem Ent.foot_b (e : Ent) : e.b ∈ e.foot := by simp [Ent.foot]
theorem Ent.foot_o (e : Ent) {x : Nat} (h : e.o = some x) : x ∈ e.foot := by simp [Ent.foot, h]
theorem Ent.mem_foot {e : Ent} {x : Nat} : x ∈ e.foot ↔ x = e.b ∨ e.o = some x := by
  unfold Ent.foot
  cases e.o <;> simp [eq_comm]
def Ent.isAt (w : World) (e : Ent) : Prop := ∃ v, Cells w e.b #[.bool e.neg, v] 99 ∧ IsN w v e.o e.n
theorem Ent.isAt.lt {w : World} {e : Ent} (h : e.isAt w) : ∀ x ∈ e.foot, x < w.heap.size := by
  obtain ⟨v, h1, h2⟩ := h
  intro x hx
  rcases Ent.mem_foot.1 hx with rfl | hx
  · exact h1.lt
  · exact h2.lt hx
theorem Ent.isAt.fr {S : List Nat} {w w' : World} {e : Ent} (h : e.isAt w) (hf : Fr S w w') (hS : ∀ x ∈ e.foot, x ∉ S) : e.isAt w' := by
  obtain ⟨v, h1, h2⟩ := h
  exact ⟨v, h1.fr hf (hS _ e.foot_b), h2.fr hf (fun b hb => hS b (e.foot_o hb))⟩
theorem Ent.isAt.drewN {w : World} {e : Ent} (h : e.isAt w) (n : Nat) : e.isAt (w.drewN n) := h
def Apart (a b : Ent) : Prop := ∀ x, x ∈ a.foot → x ∉ b.foot
theorem Apart.symm {a b : Ent} (h : Apart a b) : Apart b a := fun x hx hy => h x hy hx
/-- What an operation did to one number. -/
structure Upd (w : World) (a a' : Ent) (w' : World) : Prop where
  b : a'.b = a.b
  at_ : a'.isAt w'
  fr : Fr a.foot w w'
  new : ∀ x ∈ a'.foot, x ∈ a.foot ∨ w.heap.size ≤ x
theorem Upd.apart {w w' : World} {a a' c : Ent} (h : Upd w a a' w') (hc : c.isAt w) (hac : Apart a c) : Apart a' c := by
  intro x hx hy
  rcases h.new x hx with h1 | h1
  · exact hac x h1 hy
  · have := hc.lt x hy; omega
theorem Upd.keep {w w' : World} {a a' c : Ent} (h : Upd w a a' w') (hc : c.isAt w) (hac : Apart a c) : c.isAt w' := hc.fr h.fr (fun x hx hy => hac x hy hx)
/-- Four numbers that share nothing. -/
structure S4 (w : World) (a b c d : Ent) : Prop where
  ia : a.isAt w
  ib : b.isAt w
  ic : c.isAt w
  id : d.isAt w
  ab : Apart a b
  ac : Apart a c
  ad : Apart a d
  bc : Apart b c
  bd : Apart b d
  cd : Apart c d
theorem S4.upd {w w' : World} {a b c d a' : Ent} (h : S4 w a b c d) (u : Upd w a a' w') : S4 w' a' b c d :=
  ⟨u.at_, u.keep h.ib h.ab, u.keep h.ic h.ac, u.keep h.id h.ad, u.apart h.ib h.ab, u.apart h.ic h.ac, u.apart h.id h.ad, h.bc, h.bd, h.cd⟩
theorem S4.swap {w : World} {a b c d : Ent} (h : S4 w a b c d) : S4 w b a c d := ⟨h.ib, h.ia, h.ic, h.id, h.ab.symm, h.bc, h.bd, h.ac, h.ad, h.cd⟩
theorem S4.rot {w : World} {a b c d : Ent} (h : S4 w a b c d) : S4 w b c d a := ⟨h.ib, h.ic, h.id, h.ia, h.bc, h.bd, h.ab.symm, h.cd, h.ac.symm, h.ad.symm⟩
theorem S4.drewN {w : World} {a b c d : Ent} (h : S4 w a b c d) (n : Nat) : S4 (w.drewN n) a b c d := ⟨h.ia, h.ib, h.ic, h.id, h.ab, h.ac, h.ad, h.bc, h.bd, h.cd⟩
theorem S4.lt {w : World} {a b c d : Ent} (h : S4 w a b c d) : ∀ x ∈ a.foot ++ b.foot ++ c.foot ++ d.foot, x < w.heap.size := by
  intro x hx
  simp only [List.mem_append] at hx
  rcases hx with ((hx | hx) | hx) | hx
  · exact h.ia.lt x hx
  · exact h.ib.lt x hx
  · exact h.ic.lt x hx
  · exact h.id.lt x hx
/-- A number that can be read, wherever it stands. -/
def IntRd (w : World) (b o : Nat) (no : Option Nat) (neg : Bool) (n : Nat) : Prop := ∃ v T vs, Cells w b vs T ∧ T ≠ 168 ∧ vs[o]? = some (.bool neg) ∧ vs[o + 1]? = some v ∧ IsN w v no n
theorem Ent.isAt.rd {w : World} {e : Ent} (h : e.isAt w) : IntRd w e.b 0 e.o e.neg e.n := by
  obtain ⟨v, h1, h2⟩ := h
  exact ⟨v, _, _, h1, by decide, rfl, rfl, h2⟩
theorem IntRd.lt {w : World} {b o : Nat} {no : Option Nat} {neg : Bool} {n : Nat} (h : IntRd w b o no neg n) : b < w.heap.size := let ⟨_, _, _, h, _⟩ := h; h.lt
theorem IntRd.fr {S : List Nat} {w w' : World} {b o : Nat} {no : Option Nat} {neg : Bool} {n : Nat} (h : IntRd w b o no neg n) (hf : Fr S w w') (hb : b ∉ S) (hS : ∀ x, no = some x → x ∉ S) : IntRd w' b o no neg n := by
  obtain ⟨v, T, vs, h1, h2, h3, h4, h5⟩ := h
  exact ⟨v, T, vs, h1.fr hf hb, h2, h3, h4, h5.fr hf hS⟩
theorem IntRd.drewN {w : World} {b o : Nat} {no : Option Nat} {neg : Bool} {n : Nat} (h : IntRd w b o no neg n) (k : Nat) : IntRd (w.drewN k) b o no neg n := h
/-- An operation that wrote both fields. -/
theorem Upd.mk2 {w w1 : World} {a : Ent} (ha : a.isAt w) {v : Value} {o : Option Nat} {n : Nat} (hv : IsN w1 v o n) (hF : Fr a.o.toList w w1) (hl : Later w a.o o) (neg : Bool) :
    (∃ x, w1.cell? ⟨a.b, 1, none⟩ = some x) ∧ w1.frozen? ⟨a.b, 1, none⟩ = false ∧ (∃ x, (w1.setCell ⟨a.b, 1, none⟩ v).cell? ⟨a.b, 0, none⟩ = some x) ∧ (w1.setCell ⟨a.b, 1, none⟩ v).frozen? ⟨a.b, 0, none⟩ = false ∧ Upd w a ⟨a.b, o, neg, n⟩ ((w1.setCell ⟨a.b, 1, none⟩ v).setCell ⟨a.b, 0, none⟩ (.bool neg)) ∧ Upd w a ⟨a.b, o, a.neg, n⟩ (w1.setCell ⟨a.b, 1, none⟩ v) := by
  obtain ⟨va, h1, h2⟩ := ha
  have hab : a.b ∉ a.o.toList := by
    intro h
    simp at h
    exact h2.ne_cells h1 (by decide) h rfl
  have c1 := h1.fr hF hab
  have c2 := c1.set 1 v
  have c3 := c2.set 0 (.bool neg)
  have hob : ∀ x, o = some x → x ≠ a.b := fun x hx => hv.ne_cells c1 (by decide) hx
  have f2 : Fr [a.b] w1 (w1.setCell ⟨a.b, 1, none⟩ v) := (Fr.refl _ _).set (.inl (by simp)) _ _
  have f3 : Fr [a.b] w1 ((w1.setCell ⟨a.b, 1, none⟩ v).setCell ⟨a.b, 0, none⟩ (.bool neg)) := f2.set (.inl (by simp)) _ _
  have hnew : ∀ (neg' : Bool) (x : Nat), x ∈ (Ent.mk a.b o neg' n).foot → x ∈ a.foot ∨ w.heap.size ≤ x := by
    intro neg' x hx
    rcases Ent.mem_foot.1 hx with h | h
    · left; rw [h]; exact a.foot_b
    · rcases hl with h' | ⟨y, h', hy⟩
      · left; exact a.foot_o (by rw [← h']; exact h)
      · right; simp only at h; rw [h'] at h; injection h with h; omega
  have hfr : ∀ w', Fr [a.b] w1 w' → Fr a.foot w w' := fun w' hf => (hF.mono (by intro x hx; simp at hx; exact a.foot_o hx)).trans (hf.mono (by intro x hx; simp at hx; rw [hx]; exact a.foot_b))
  refine ⟨⟨_, c1.cell 1 rfl⟩, c1.frozen 1, ⟨_, c2.cell 0 rfl⟩, c2.frozen 0, ⟨rfl, ⟨v, c3, hv.fr f3 ?_⟩, hfr _ f3, hnew _⟩, ⟨rfl, ⟨v, c2, hv.fr f2 ?_⟩, hfr _ f2, hnew _⟩⟩
  · intro x hx hin; simp at hin; exact hob x hx hin
  · intro x hx hin; simp at hin; exact hob x hx hin
end Go.Proofs.YtpmggjplfcjkkaaGreatDoor

/- strings.Reader: new, read, unread; the sign. -/
set_option linter.unusedVariables false
set_option linter.unusedSimpArgs false
namespace Go.Proofs.YtpmggjplfcjkkaaGreatDoor
open Go.RowKit Nq

/-- A reader of text S, about to read byte i. -/
def Rdr (w : World) (b : Nat) (S : ByteArray) (i : Nat) : Prop := ∃ p : Int, Cells w b #[.string S, .int .i64 i, .int .i64 p] 237

set_option maxRecDepth 100000 in
theorem newReader (S : ByteArray) (w : World) : Calls Tryz.prog 62 #[.string S] w fun e w' => e = .returned (.pointer (some ⟨w.heap.size, 0, none⟩)) ∧ w' = w.alloc (.cells #[.string S, .int .i64 0, .int .i64 (-1)] 237) := by
  go_enter Tryz.func62, Tryz.ntmps62
  go_wp2
  go_ret
  exact ⟨rfl, rfl⟩
set_option maxRecDepth 100000 in
set_option maxHeartbeats 1000000 in
theorem readByte {b i : Nat} {S : ByteArray} {w : World} (h : Rdr w b S i) (hi : i < S.size) (hS : S.size ≤ 2147483647) : Calls Tryz.prog 64 #[.pointer (some ⟨b, 0, none⟩)] w fun e w' => e = .returned (.tuple #[.int .u8 (S[i]'hi).toNat, .nilIface]) ∧ Rdr w' b S (i + 1) ∧ Fr [b] w w' := by
  obtain ⟨p, h⟩ := h
  have c0 := h.cell 0 rfl
  have c1 := h.cell 1 rfl
  have c2 := h.cell 2 rfl
  have z1 := h.frozen 1
  have z2 := h.frozen 2
  have h1 : Cells (w.setCell ⟨b, 2, none⟩ (.int .i64 (-1))) b #[.string S, .int .i64 i, .int .i64 (-1)] 237 := h.set 2 _
  have f1 : Fr [b] w (w.setCell ⟨b, 2, none⟩ (.int .i64 (-1))) := (Fr.refl _ _).set (.inl (by simp)) _ _
  have hge : decide ((S.size : Int) ≤ i) = false := by simp; omega
  clear c0 c1 z1
  go_enter Tryz.func64, Tryz.ntmps64
  go_wp2_with fail
  generalize w.setCell ⟨b, 2, none⟩ (.int .i64 (-1)) = w1 at *
  have c0 := h1.cell 0 rfl
  have c1 := h1.cell 1 rfl
  have z1 := h1.frozen 1
  have h2 := Lib.hid (And.intro h1 f1)
  clear h1 f1 h c2 z2
  go_quiet (fail)
  go_wp2_with fail
  go_quiet (fail)
  go_wp2_with fail
  go_ret2
  obtain ⟨k1, k2⟩ := h2.out
  refine ⟨rfl, ⟨_, (k1.drewN _).set 1 (.int .i64 (i + 1 : Nat))⟩, (k2.drewN _).set (.inl (by simp)) _ _⟩

set_option maxRecDepth 100000 in
set_option maxHeartbeats 1000000 in
/-- At the text's end. -/
theorem readEnd {b : Nat} {S : ByteArray} {ev : Value} {w : World} (h : Rdr w b S S.size) (hE : w.cell? ⟨0, 0, none⟩ = some ev) (h0 : b ≠ 0) : Calls Tryz.prog 64 #[.pointer (some ⟨b, 0, none⟩)] w fun e w' => e = .returned (.tuple #[.int .u8 0, ev]) ∧ Rdr w' b S S.size ∧ Fr [b] w w' := by
  obtain ⟨p, h⟩ := h
  have c2 := h.cell 2 rfl
  have z2 := h.frozen 2
  have h1 : Cells (w.setCell ⟨b, 2, none⟩ (.int .i64 (-1))) b #[.string S, .int .i64 S.size, .int .i64 (-1)] 237 := h.set 2 _
  have f1 : Fr [b] w (w.setCell ⟨b, 2, none⟩ (.int .i64 (-1))) := (Fr.refl _ _).set (.inl (by simp)) _ _
  have e1 : (w.setCell ⟨b, 2, none⟩ (.int .i64 (-1))).cell? ⟨0, 0, none⟩ = some ev := by rw [cell_set_ne (by intro e; injection e with e _; exact h0 e)]; exact hE
  clear hE
  go_enter Tryz.func64, Tryz.ntmps64
  go_wp2_with fail
  generalize w.setCell ⟨b, 2, none⟩ (.int .i64 (-1)) = w1 at *
  have c0 := h1.cell 0 rfl
  have c1 := h1.cell 1 rfl
  have h2 := Lib.hid (And.intro h1 f1)
  clear h1 f1 h c2 z2
  go_quiet (fail)
  go_wp2_with fail
  go_quiet (fail)
  go_wp2_with fail
  go_ret2
  obtain ⟨k1, k2⟩ := h2.out
  exact ⟨rfl, ⟨_, (k1.drewN _).drewN _⟩, (k2.drewN _).drewN _⟩

set_option maxRecDepth 100000 in
set_option maxHeartbeats 1000000 in
theorem unreadByte {b i : Nat} {S : ByteArray} {w : World} (h : Rdr w b S (i + 1)) (hi : i < 2147483647) : Calls Tryz.prog 292 #[.pointer (some ⟨b, 0, none⟩)] w fun e w' => e = .returned .nilIface ∧ Rdr w' b S i ∧ Fr [b] w w' := by
  obtain ⟨p, h⟩ := h
  have c1 := h.cell 1 rfl
  have c2 := h.cell 2 rfl
  have z2 := h.frozen 2
  have h1 : Cells (w.setCell ⟨b, 2, none⟩ (.int .i64 (-1))) b #[.string S, .int .i64 (i + 1 : Nat), .int .i64 (-1)] 237 := h.set 2 _
  have f1 : Fr [b] w (w.setCell ⟨b, 2, none⟩ (.int .i64 (-1))) := (Fr.refl _ _).set (.inl (by simp)) _ _
  have g1 : Fr [b] w ((w.setCell ⟨b, 2, none⟩ (.int .i64 (-1))).setCell ⟨b, 1, none⟩ (.int .i64 i)) := f1.set (.inl (by simp)) _ _
  have h2 := Lib.hid (And.intro (h1.set 1 (.int .i64 i)) g1)
  have c1' := h1.cell 1 rfl
  have z1 := h1.frozen 1
  clear h1 f1 g1 h
  have hge : decide (((i : Int) + 1) ≤ 0) = false := by simp
  rw [show ((i + 1 : Nat) : Int) = (i : Int) + 1 from by omega] at c1 c1'
  go_enter Tryz.func292, Tryz.ntmps292
  go_wp2_with fail
  go_ret
  obtain ⟨k1, k2⟩ := h2.out
  exact ⟨rfl, ⟨_, k1⟩, k2⟩
end Go.Proofs.YtpmggjplfcjkkaaGreatDoor

/- scanSign. -/
set_option linter.unusedVariables false
set_option linter.unusedSimpArgs false
namespace Go.Proofs.YtpmggjplfcjkkaaGreatDoor
open Go.RowKit Nq

/-- The reader as a ByteScanner. -/
abbrev rdv (b : Nat) : Value := .iface 153 (.pointer (some ⟨b, 0, none⟩))

set_option maxRecDepth 100000 in
set_option maxHeartbeats 1000000 in
theorem scanSign {b i : Nat} {S : ByteArray} {w : World} (h : Rdr w b S i) (hi : i < S.size) (hS : S.size ≤ 2147483647) : Calls Tryz.prog 66 #[rdv b] w fun e w' => e = .returned (.tuple #[.bool ((S[i]'hi).toNat == 45), .nilIface]) ∧ Rdr w' b S (if (S[i]'hi).toNat = 45 ∨ (S[i]'hi).toNat = 43 then i + 1 else i) ∧ Fr [b] w w' := by
  have h1 := readByte h hi hS
  have h2 : ∀ w1, Rdr w1 b S (i + 1) → Calls Tryz.prog 292 #[.pointer (some ⟨b, 0, none⟩)] w1 _ := fun w1 h => unreadByte h (by omega)
  generalize (S[i]'hi).toNat = c at *
  by_cases c1 : c = 45
  · subst c1
    rw [if_pos (.inl rfl)]
    go_enter Tryz.func66, Tryz.ntmps66
    go_wp2_with (go_at_call 64; (with_reducible refine h1.mono ?_); rintro e w1 ⟨rfl, HP⟩)
    go_ret2
    exact ⟨rfl, HP⟩
  · by_cases c2 : c = 43
    · subst c2
      rw [if_pos (.inr rfl)]
      go_enter Tryz.func66, Tryz.ntmps66
      go_wp2_with (go_at_call 64; (with_reducible refine h1.mono ?_); rintro e w1 ⟨rfl, HP⟩)
      go_ret2
      exact ⟨rfl, HP⟩
    · rw [if_neg (by rintro (h | h); exact c1 h; exact c2 h)]
      have d1 : (c == 45) = false := by simpa using c1
      have d2 : ((c : Int) == 45) = false := by simp; omega
      have d3 : ((c : Int) == 43) = false := by simp; omega
      rw [d1]
      clear h
      go_enter Tryz.func66, Tryz.ntmps66
      go_wp2_with (first | (go_at_call 64; (with_reducible refine h1.mono ?_); rintro e w1 ⟨rfl, r1, f1⟩) | (go_at_call 292; (with_reducible refine (h2 _ r1).mono ?_); rintro e w2 ⟨rfl, r2, f2⟩))
      go_ret2
      exact ⟨rfl, r2, f1.trans f2⟩
end Go.Proofs.YtpmggjplfcjkkaaGreatDoor

/- The digits of a text; the reader's next byte. -/
set_option linter.unusedVariables false
set_option linter.unusedSimpArgs false
namespace Go.Proofs.YtpmggjplfcjkkaaGreatDoor
open Go.RowKit Nq

/-- What the program holds of the reader: byte and error, behind reading at p. -/
def Cur (w : World) (b : Nat) (S : ByteArray) (p : Nat) (ev : Value) (c er : Value) : Prop :=
  (p < S.size ∧ er = .nilIface ∧ c = .int .u8 (byteAt S p) ∧ Rdr w b S (p + 1)) ∨ (p = S.size ∧ er = ev ∧ c = .int .u8 0 ∧ Rdr w b S S.size)
theorem Rdr.fr {R : List Nat} {w w' : World} {b i : Nat} {S : ByteArray} (h : Rdr w b S i) (hf : Fr R w w') (hb : b ∉ R) : Rdr w' b S i := let ⟨p, h⟩ := h; ⟨p, h.fr hf hb⟩
theorem Rdr.lt {w : World} {b i : Nat} {S : ByteArray} (h : Rdr w b S i) : b < w.heap.size := let ⟨_, h⟩ := h; h.lt
theorem Cur.fr {R : List Nat} {w w' : World} {b p : Nat} {S : ByteArray} {ev c er : Value} (h : Cur w b S p ev c er) (hf : Fr R w w') (hb : b ∉ R) : Cur w' b S p ev c er := by
  rcases h with ⟨h1, h2, h3, h4⟩ | ⟨h1, h2, h3, h4⟩
  · exact .inl ⟨h1, h2, h3, h4.fr hf hb⟩
  · exact .inr ⟨h1, h2, h3, h4.fr hf hb⟩
theorem readNext {b p : Nat} {S : ByteArray} {ev : Value} {w : World} (h : Rdr w b S p) (hp : p ≤ S.size) (hS : S.size ≤ 2147483647) (hE : w.cell? ⟨0, 0, none⟩ = some ev) (h0 : b ≠ 0) :
    Calls Tryz.prog 64 #[.pointer (some ⟨b, 0, none⟩)] w fun e w' => ∃ c er, e = .returned (.tuple #[c, er]) ∧ Cur w' b S p ev c er ∧ Fr [b] w w' := by
  by_cases hlt : p < S.size
  · refine (readByte h hlt hS).mono ?_
    rintro e w' ⟨rfl, h1, h2⟩
    exact ⟨_, _, rfl, .inl ⟨hlt, rfl, by rw [byteAt_eq hlt], h1⟩, h2⟩
  · obtain rfl : p = S.size := by omega
    refine (readEnd h hE h0).mono ?_
    rintro e w' ⟨rfl, h1, h2⟩
    exact ⟨_, _, rfl, .inr ⟨rfl, rfl, rfl, h1⟩, h2⟩

/-- From byte a on: digits I, a point with digits F or none, then the end or a letter e. -/
structure Txt (S : ByteArray) (a : Nat) (I F : List Nat) (dot : Bool) : Prop where
  hi : ∀ (j : Nat) (h : j < I.length), byteAt S (a + j) = 48 + I[j]
  hp : dot = true → byteAt S (a + I.length) = 46
  hf : ∀ (j : Nat) (h : j < F.length), byteAt S (a + I.length + 1 + j) = 48 + F[j]
  nf : dot = false → F = []
  di : ∀ d ∈ I, d < 10
  df : ∀ d ∈ F, d < 10
  ni : I ≠ []
  he : a + I.length + (if dot then 1 + F.length else 0) ≤ S.size
  hx : a + I.length + (if dot then 1 + F.length else 0) < S.size → byteAt S (a + I.length + (if dot then 1 + F.length else 0)) = 69 ∨ byteAt S (a + I.length + (if dot then 1 + F.length else 0)) = 101
/-- Where the scan stands with m digits read; the point read or not. -/
def Txt.pos (a : Nat) (I : List Nat) (past : Bool) (m : Nat) : Nat := a + m + (if past then 1 else 0)
end Go.Proofs.YtpmggjplfcjkkaaGreatDoor

/- zzIndex of a slash in a text without one. -/
set_option linter.unusedVariables false
set_option linter.unusedSimpArgs false
namespace Go.Proofs.YtpmggjplfcjkkaaGreatDoor
open Go.RowKit Nq

set_option maxRecDepth 100000 in
set_option maxHeartbeats 1000000 in
theorem noSlash (S : ByteArray) (hS : S.size ≤ 2147483647) (h : ∀ i, i < S.size → byteAt S i ≠ 47) (w : World) : Calls Tryz.prog 60 #[.string S, .string ⟨#[47]⟩] w fun e w' => e = .returned (.int .i64 (-1)) ∧ w' = w := by
  have H := Lib.hid h
  clear h
  go_enter Tryz.func60, Tryz.ntmps60
  go_wp2
  go_loop [5] (fun v5 => ∃ i : Nat, i ≤ S.size ∧ v5 = .int .i64 i) (fun v5 => S.size - (intOf v5).toNat)
  case atStart => exact ⟨0, Nat.zero_le _, rfl⟩
  case round =>
    obtain ⟨i, hi, rfl⟩ := hrel
    by_cases hlt : i < S.size
    · have hne : ((S.extract i (i + 1)).toList == [47]) = false := by
        rw [one_byte hlt, beq_eq_false_iff_ne]
        intro e
        have h1 := H.out i hlt
        have h2 := byteAt_lt hlt
        have e1 : UInt8.ofNat (byteAt S i) = 47 := by simpa using e
        have := congrArg UInt8.toNat e1
        simp at this
        omega
      go_wp2_with fail
      go_round
      case rel => exact ⟨i + 1, hlt, by go_num⟩
      case measure => simp [intOf]; omega
    · go_wp2_with fail
      go_ret
      exact ⟨rfl, rfl⟩
end Go.Proofs.YtpmggjplfcjkkaaGreatDoor
