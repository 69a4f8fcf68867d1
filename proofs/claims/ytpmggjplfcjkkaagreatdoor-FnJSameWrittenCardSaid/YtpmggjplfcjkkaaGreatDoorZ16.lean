/- lehmerGCD: the walk. -/
import Derived.Test.YtpmggjplfcjkkaaGreatDoorZ15
set_option linter.unusedVariables false
set_option linter.unusedSimpArgs false
namespace Go.Proofs.YtpmggjplfcjkkaaGreatDoor
open Go.RowKit Nq

/-- The simulation, and what is done with it. -/
def SimNext (w0 : World) (an bn : Nat) (A B q r : Ent) (e : Ending) (w' : World) : Prop :=
  ∃ (u0 u1 v0 v1 : Nat) (even : Bool), e = .returned (.tuple #[.int .u64 (u0 : Int), .int .u64 (u1 : Int), .int .u64 (v0 : Int), .int .u64 (v1 : Int), .bool even]) ∧
    ((v0 = 0 ∧ Calls Tryz.prog 164 #[.pointer (some ⟨A.b, 0, none⟩), .pointer (some ⟨B.b, 0, none⟩), .pointer none, .pointer none, .pointer (some ⟨q.b, 0, none⟩), .pointer (some ⟨r.b, 0, none⟩), .bool false] w' fun e w2 => ∃ A' B' q' r' : Ent, e = .returned (.tuple #[.pointer (some ⟨A'.b, 0, none⟩), .pointer (some ⟨B'.b, 0, none⟩), .pointer (some ⟨r'.b, 0, none⟩), .pointer none, .pointer none]) ∧ Hid (q'.b = q.b ∧ A'.n + B'.n < A.n + B.n ∧ GI w0 w2 an bn A' B' q' r')) ∨
     (((v0 : Int) == 0) = false ∧ Calls Tryz.prog 163 #[.pointer (some ⟨A.b, 0, none⟩), .pointer (some ⟨B.b, 0, none⟩), .pointer (some ⟨q.b, 0, none⟩), .pointer (some ⟨r.b, 0, none⟩), .int .u64 (u0 : Int), .int .u64 (u1 : Int), .int .u64 (v0 : Int), .int .u64 (v1 : Int), .bool even] w' fun e w2 => e = .returned (.tuple #[]) ∧ Hid (∃ A' B' q' r' : Ent, A'.b = A.b ∧ B'.b = B.b ∧ q'.b = q.b ∧ r'.b = r.b ∧ A'.n + B'.n < A.n + B.n ∧ GI w0 w2 an bn A' B' q' r')))
theorem GI.euclid' {w0 w : World} {an bn : Nat} {A B q r : Ent} (h : GI w0 w an bn A B q r) (hT : Th w0) (hb : 0 < B.n) :
    Calls Tryz.prog 164 #[.pointer (some ⟨A.b, 0, none⟩), .pointer (some ⟨B.b, 0, none⟩), .pointer none, .pointer none, .pointer (some ⟨q.b, 0, none⟩), .pointer (some ⟨r.b, 0, none⟩), .bool false] w fun e w2 => ∃ A' B' q' r' : Ent, e = .returned (.tuple #[.pointer (some ⟨A'.b, 0, none⟩), .pointer (some ⟨B'.b, 0, none⟩), .pointer (some ⟨r'.b, 0, none⟩), .pointer none, .pointer none]) ∧ Hid (q'.b = q.b ∧ A'.n + B'.n < A.n + B.n ∧ GI w0 w2 an bn A' B' q' r' ∧ A'.n = B.n) := by
  refine (h.euclid hT hb).mono ?_
  rintro e w2 ⟨rfl, q', r', e1, e2, e3, hg⟩
  refine ⟨B, r', q', A, by rw [e2], Lib.hid ⟨e1, ?_, hg, rfl⟩⟩
  have := Nat.mod_lt A.n hb
  have := h.le
  omega
theorem GI.sim {w0 w : World} {an bn : Nat} {A B q r : Ent} (h : GI w0 w an bn A B q r) (hT : Th w0) (hb : Bw ≤ B.n) :
    Calls Tryz.prog 162 #[.pointer (some ⟨A.b, 0, none⟩), .pointer (some ⟨B.b, 0, none⟩)] w (SimNext w0 an bn A B q r) := by
  have hB := Bw_pos
  refine (lehmerSimulate h.s.s.ia h.s.s.ib hb h.le).mono ?_
  rintro e w' ⟨u0, u1, v0, v1, even, rfl, b1, b2, b3, b4, ho, k, rfl⟩
  refine ⟨u0, u1, v0, v1, even, rfl, ?_⟩
  rcases ho with h0 | ⟨hf, h1⟩
  · left
    refine ⟨h0, ((h.drewN k).euclid' hT (by omega)).mono ?_⟩
    rintro e w2 ⟨A', B', q', r', rfl, hh⟩
    exact ⟨A', B', q', r', rfl, Lib.hid ⟨hh.out.1, hh.out.2.1, hh.out.2.2.1⟩⟩
  · by_cases h0 : v0 = 0
    · left
      refine ⟨h0, ((h.drewN k).euclid' hT (by omega)).mono ?_⟩
      rintro e w2 ⟨A', B', q', r', rfl, hh⟩
      exact ⟨A', B', q', r', rfl, Lib.hid ⟨hh.out.1, hh.out.2.1, hh.out.2.2.1⟩⟩
    · right
      refine ⟨by rw [beq_eq_false_iff_ne]; omega, ((h.drewN k).update hf (by omega) h1 (by omega) b1 b2 b3 b4).mono ?_⟩
      rintro e w2 ⟨rfl, hh⟩
      exact ⟨rfl, Lib.hid hh⟩

set_option maxRecDepth 100000 in
set_option maxHeartbeats 8000000 in
theorem lehmerGCD {z : Ent} {rb : Nat} {ao bo : Option Nat} {an bn : Nat} {w : World} (hz : z.isAt w) (ha : IntRd w rb 0 ao false an) (hb : IntRd w rb 2 bo false bn) (hzr : z.b ≠ rb) (a0 : 0 < an) (b0 : 0 < bn) (la : an < Bw ^ 39) (lb : bn < Bw ^ 39) (hT : Th w) (hzo : ∀ x, z.o = some x → x ≠ rb) :
    Calls Tryz.prog 112 #[.pointer (some ⟨z.b, 0, none⟩), .pointer none, .pointer none, .pointer (some ⟨rb, 0, none⟩), .pointer (some ⟨rb, 2, none⟩)] w fun e w' => e = .returned (.pointer (some ⟨z.b, 0, none⟩)) ∧ ∃ o', Upd w z ⟨z.b, o', false, Nat.gcd an bn⟩ w' := by
  obtain ⟨cw, hcw⟩ : ∃ c : Int, c = cmpW an bn := ⟨_, rfl⟩
  have HC := Lib.hid hcw
  have k1 := abs_new ha a0 la
  have hstep : ∀ (A : Ent) w1, A.b = w.heap.size → A.neg = false → A.n = an → A.isAt w1 → Fr [] w w1 → (∀ x ∈ A.foot, w.heap.size ≤ x) →
      Calls Tryz.prog 160 #[.pointer (some ⟨w1.heap.size, 0, none⟩), .pointer (some ⟨rb, 2, none⟩)] (w1.alloc intNew) fun e w' => ∃ av bv, e = .returned (.pointer (some ⟨w1.heap.size, 0, none⟩)) ∧ ((w'.alloc intNew).alloc intNew).cell? ⟨w.heap.size, 1, none⟩ = some av ∧ ((w'.alloc intNew).alloc intNew).cell? ⟨w1.heap.size, 1, none⟩ = some bv ∧ (∃ a l c, av = .slice a l c) ∧ (∃ a l c, bv = .slice a l c) ∧
        (∀ k, Calls Tryz.prog 57 #[av, bv] (((w'.alloc intNew).alloc intNew).drewN k) fun e w2 => e = .returned (.int .i64 cw) ∧ ∃ m, w2 = (((w'.alloc intNew).alloc intNew).drewN k).drewN m) ∧
        ∃ A B q r : Ent, A.b = w.heap.size ∧ B.b = w1.heap.size ∧ q.b = w'.heap.size ∧ r.b = w'.heap.size + 1 ∧ Hid ((bn ≤ an → GI w ((w'.alloc intNew).alloc intNew) an bn A B q r) ∧ (an ≤ bn → GI w ((w'.alloc intNew).alloc intNew) an bn B A q r)) := by
    intro A w1 e1 e2 e3 e4 e5 e6
    have := abs_new (hb.fr e5 (by simp) (by simp)) b0 lb
    refine this.mono ?_
    rintro e w' ⟨rfl, B, f1, f2, f3, f4, f5, f6⟩
    have hA2 := e4.fr f5 (by simp)
    have hst := gcd_start e4 f4 e5 f5 e6 f6 e3 f3 e2 f2 a0 b0 la lb
    obtain ⟨av, c1, c2⟩ := hA2
    obtain ⟨bv, d1, d2⟩ := f4
    have f2' : Fr [] w' ((w'.alloc intNew).alloc intNew) := (Fr.new w').trans (Fr.new _)
    refine ⟨av, bv, rfl, by rw [← e1]; exact (c1.fr f2' (by simp)).cell 1 rfl, by rw [← f1]; exact (d1.fr f2' (by simp)).cell 1 rfl, c2.slice, d2.slice, ?_, A, B, _, _, e1, f1, rfl, by rw [size_alloc], Lib.hid hst⟩
    intro k
    have g1 := c2.fr ((Fr.new w').trans (Fr.new _)) (by simp)
    have g2 := d2.fr ((Fr.new w').trans (Fr.new _)) (by simp)
    rw [e3] at g1
    rw [f3] at g2
    rw [hcw]
    exact cmp_N (g1.drewN k) (g2.drewN k)
  have HT := Lib.hid hT
  have Hz := Lib.hid hz
  have hset : ∀ wc A, GF w wc (Nat.gcd an bn) A → Calls Tryz.prog 55 #[.pointer (some ⟨z.b, 0, none⟩), .pointer (some ⟨A.b, 0, none⟩)] wc fun e w' => e = .returned (.pointer (some ⟨z.b, 0, none⟩)) ∧ Hid (∃ o', Upd w z ⟨z.b, o', false, Nat.gcd an bn⟩ w') := by
    intro wc A h
    have hzc := hz.fr h.f (by simp)
    have hg0 : 0 < Nat.gcd an bn := Nat.gcd_pos_of_pos_left _ a0
    have hgl : Nat.gcd an bn < Bw ^ 1000 := Nat.lt_of_le_of_lt (Nat.gcd_le_left _ a0) (Nat.lt_of_lt_of_le la (pow_mono (m := 39) (n := 1000) (by decide)))
    have hr := h.a.rd
    rw [h.n, h.e] at hr
    have hlz := hz.lt
    refine (intSet hzc hr ?_ hg0 hgl ?_).mono ?_
    · intro e
      have := h.new _ A.foot_b
      have := hlz _ z.foot_b
      omega
    · intro x hx
      have h1 := hlz x (z.foot_o hx)
      refine ⟨fun h2 => ?_, fun h2 => ?_⟩
      · have := h.new x (A.foot_o h2); omega
      · have := h.new _ A.foot_b; omega
    · rintro e w' ⟨rfl, o', hu⟩
      refine ⟨rfl, Lib.hid ⟨o', rfl, hu.at_, (h.f.mono (by simp)).trans hu.fr, ?_⟩⟩
      intro x hx
      rcases hu.new x hx with h1 | h1
      · exact .inl h1
      · have := h.f.size; right; omega
  have hneg : ∀ wc, Fr [] w wc → wc.cell? ⟨rb, 0, none⟩ = some (.bool false) := by
    intro wc hf
    obtain ⟨v, T, vs, h1, h2, h3, _⟩ := ha
    exact (h1.fr hf (by simp)).cell 0 h3
  clear hcw hT hz ha hb hzr a0 b0 la lb hzo
  go_enter Tryz.func112, Tryz.ntmps112
  go_wp2_with (first | (go_at_call 160; (with_reducible refine k1.mono ?_); rintro e w1 ⟨rfl, A, e1, e2, e3, e4, e5, e6⟩; have k2 := hstep A w1 e1 e2 e3 e4 e5 e6; clear k1 hstep e1 e2 e3 e4 e5 e6) | (go_at_call 160; (with_reducible refine k2.mono ?_); rintro e w2 ⟨av, bv, rfl, c1, c2, ⟨x1, x2, x3, rfl⟩, ⟨x4, x5, x6, rfl⟩, hcmp, HG⟩; have HG := Lib.hid HG; unfold intNew at hcmp c1 c2 HG))
  generalize (World.alloc (World.alloc w2 _) _) = w3 at *
  generalize w2.heap.size = s2 at *
  generalize w1.heap.size = s1 at *
  generalize w.heap.size = s0 at *
  go_quiet ((go_at_call 57; exact Calls.quiet_of (hcmp _)))
  clear hcmp c1 c2 k2
  have HG2 := HG.out
  go_upto_if 60 with (fail)
  go_cut [11, 12, 13, 14] (fun c11 c12 c13 c14 wc => ∃ A B q r : Ent, c11 = .pointer (some ⟨A.b, 0, none⟩) ∧ c12 = .pointer (some ⟨B.b, 0, none⟩) ∧ c13 = .pointer none ∧ c14 = .pointer none ∧ q.b = s2 ∧ r.b = s2 + 1 ∧ Hid (GI w wc an bn A B q r))
  case first =>
    by_cases hlt : an < bn
    · as_aux_lemma =>
      have hd : cw < 0 := by rw [HC.out, cmpW_lt hlt]; decide
      have hle : an ≤ bn := by omega
      clear hlt
      go_wp2_with fail
      go_meet
      obtain ⟨A, B, q, r, eA, eB, eq, er, hg⟩ := HG2
      exact ⟨B, A, q, r, by rw [eB], by rw [eA], rfl, rfl, eq, er, Lib.hid ((hg.out.2 hle).drewN _)⟩
    · as_aux_lemma =>
      have hd : 0 ≤ cw := by rw [HC.out]; rcases cmpW_ge (show bn ≤ an by omega) with h | h <;> rw [h] <;> decide
      have hle : bn ≤ an := by omega
      clear hlt
      go_wp2_with fail
      go_meet
      obtain ⟨A, B, q, r, eA, eB, eq, er, hg⟩ := HG2
      exact ⟨A, B, q, r, by rw [eA], by rw [eB], rfl, rfl, eq, er, Lib.hid ((hg.out.1 hle).drewN _)⟩
  case rest =>
    obtain ⟨A, B, q, r, rfl, rfl, rfl, rfl, eq, er, hGI⟩ := hcut
    clear HG HG2
    have Eq := Lib.hid eq
    rw [← er]
    rw [← eq]
    clear eq er
    go_wp2_with fail
    go_loopg [11, 12, 13, 14, 17] (A.n + B.n) (fun g c11 c12 c13 c14 c17 wr => ∃ A B q' r : Ent, c11 = .pointer (some ⟨A.b, 0, none⟩) ∧ c12 = .pointer (some ⟨B.b, 0, none⟩) ∧ c13 = .pointer none ∧ c14 = .pointer none ∧ c17 = .pointer (some ⟨r.b, 0, none⟩) ∧ Hid (q'.b = q.b ∧ g = A.n + B.n ∧ GI w wr an bn A B q' r))
    case atStart => exact ⟨A, B, q, r, rfl, rfl, rfl, rfl, rfl, Lib.hid ⟨rfl, rfl, hGI.out⟩⟩
    case round =>
      clear hGI
      obtain ⟨A1, B1, q1, r1, rfl, rfl, rfl, rfl, rfl, hh⟩ := hrel
      obtain ⟨xa, la1, ca, xb, lb1, cb, f1, f2, f3, f4, f5, f6, f7, f8⟩ := hh.out.2.2.lens
      by_cases hB : B1.n < Bw
      · have hl := f4.2 hB
        have hQ := hh.out.1
        clear f4
        go_upto_if 122 with (fail)
        go_cut [11, 12, 13, 14, 17, 23, 24] (fun c11 _ _ _ _ _ _ wc => ∃ A : Ent, c11 = .pointer (some ⟨A.b, 0, none⟩) ∧ Hid (GF w wc (Nat.gcd an bn) A))
        case first =>
          by_cases hb0 : B1.n = 0
          · as_aux_lemma =>
            have hl0 := f5.2 hb0
            have HF := Lib.hid (hh.out.2.2.done hb0)
            subst hl0
            clear f1 f3 f5 f6 f8 hB hl hb0 hQ
            go_wp2_with fail
            go_meet
            exact ⟨A1, rfl, HF⟩
          · have hl0 : 0 < lb1 := by
              rcases Nat.eq_zero_or_pos lb1 with e | e
              · exact absurd (f5.1 e) hb0
              · exact e
            clear f5
            go_upto_if 128 with (fail)
            go_cut [11, 12, 13, 14, 17] (fun c11 c12 _ _ _ wc => ∃ A B q r : Ent, c11 = .pointer (some ⟨A.b, 0, none⟩) ∧ c12 = .pointer (some ⟨B.b, 0, none⟩) ∧ Hid (GI w wc an bn A B q r ∧ A.n < Bw))
            case first =>
              by_cases hA : A1.n < Bw
              · as_aux_lemma =>
                have hl1 := f3.2 hA
                have HP : Hid (GI w wr an bn A1 B1 q1 r1 ∧ A1.n < Bw) := Lib.hid ⟨hh.out.2.2, hA⟩
                clear f3 hA hB hb0 hQ
                go_wp2_with fail
                go_meet
                exact ⟨A1, B1, q1, r1, rfl, rfl, HP⟩
              · as_aux_lemma =>
                have hl1 : 1 < la1 := by
                  rcases Nat.lt_or_ge 1 la1 with h | h
                  · exact h
                  · exact absurd (f3.1 h) hA
                have k3 := hh.out.2.2.euclid' HT.out (by omega)
                have HB := Lib.hid hB
                rw [hQ] at k3
                clear f3 hA hB hb0 hQ
                go_wp2_with (go_at_call 164; (with_reducible refine k3.mono ?_); rintro e w5 ⟨A2, B2, q2, r2, rfl, h2⟩; clear k3)
                go_meet
                exact ⟨A2, B2, q2, r2, rfl, rfl, Lib.hid ⟨h2.out.2.2.1, by rw [h2.out.2.2.2]; exact HB.out⟩⟩
            case rest =>
              obtain ⟨A2, B2, q2, r2, rfl, rfl, h2⟩ := hcut
              clear f1 f2 f3 f6 f7 f8 hB hl hl0 hb0 hQ hh
              obtain ⟨xa2, la2, ca2, xb2, lb2, cb2, g1, g2, g3, g4, g5, g6, g7, g8⟩ := h2.out.1.lens
              by_cases hb2 : B2.n = 0
              · as_aux_lemma =>
                have hl0 := g5.2 hb2
                have HF := Lib.hid (h2.out.1.done hb2)
                subst hl0
                clear g1 g3 g4 g5 g6 g8 hb2
                go_wp2_with fail
                go_meet
                exact ⟨A2, rfl, HF⟩
              · as_aux_lemma =>
                clear g1 g2 g3 g4 g5 g6 g7 g8
                obtain ⟨ya, cya, yb, cyb, k1, k2, k3, k4, k5, k6, k7, k8, k9, -⟩ := h2.out.1.words h2.out.2 (by omega)
                have HB2 := Lib.hid hb2
                clear hb2
                go_wp2_with fail
                go_quiet (fail)
                go_wp2_with fail
                go_loopw [23, 24] (fun c23 c24 wr2 => ∃ a b : Nat, c23 = .int .u64 (a : Int) ∧ c24 = .int .u64 (b : Int) ∧ Hid (Nat.gcd a b = Nat.gcd an bn ∧ a < Bw ∧ b < Bw) ∧ DrewOf wc wr2) (fun _ c24 _ => (intOf c24).toNat)
                case atStart => exact ⟨A2.n, B2.n, rfl, rfl, Lib.hid ⟨h2.out.1.g, h2.out.2, Nat.lt_of_le_of_lt h2.out.1.le h2.out.2⟩, DrewOf.mk _ _⟩
                case round =>
                  obtain ⟨a, b, rfl, rfl, hg, k, rfl⟩ := hrel
                  clear k1 k2 k3 k4 k5 k6 k7 k8 k9
                  by_cases hb3 : b = 0
                  · as_aux_lemma =>
                    subst hb3
                    obtain ⟨ya, cya, yb, cyb, k1, k2, k3, k4, k5, k6, k7, k8, k9, k10⟩ := (h2.out.1.drewN k).words h2.out.2 (by have := HB2.out; omega)
                    have HF := k10 a (by have := hg.out.1; rwa [Nat.gcd_zero_right] at this) hg.out.2.1
                    have eg : Hid (a = Nat.gcd an bn) := Lib.hid (by have := hg.out.1; rwa [Nat.gcd_zero_right] at this)
                    clear k10
                    go_wp2_with fail
                    go_meet
                    exact ⟨⟨A2.b, some ya, false, a⟩, rfl, Lib.hid (by have := HF.out; rw [← eg.out]; exact this)⟩
                  · as_aux_lemma =>
                    have hgn : Hid (Nat.gcd b (a % b) = Nat.gcd an bn ∧ b < Bw ∧ a % b < Bw) := Lib.hid ⟨by rw [← hg.out.1, Nat.gcd_comm a b, Nat.gcd_rec b a, Nat.gcd_comm], hg.out.2.2, Nat.lt_trans (Nat.mod_lt a (by omega)) hg.out.2.2⟩
                    have hd1 : ((b : Int) == 0) = false := by rw [beq_eq_false_iff_ne]; omega
                    have M : Hid (((a % b : Nat) : Int).toNat < (b : Int).toNat) := Lib.hid (by have := Nat.mod_lt a (show 0 < b by omega); omega)
                    have E : Hid ((a : Int) % (b : Int) = ((a % b : Nat) : Int)) := Lib.hid (by simp)
                    go_wp2_with fail
                    go_quiet (fail)
                    go_wp2_with fail
                    go_roundw
                    case rel => exact ⟨b, a % b, rfl, by rw [E.out], hgn, by first | exact DrewOf.mk _ _ | exact (DrewOf.mk _ _).drewN _⟩
                    case measure => simp only [intOf]; rw [E.out]; exact M.out
        case rest =>
          as_aux_lemma =>
          obtain ⟨A3, rfl, h3⟩ := hcut
          have k1 := hset wc A3 h3.out
          have k2 := hneg wc h3.out.f
          clear f1 f2 f3 f5 f6 f7 f8 hB hl hQ hset hneg
          go_wp2_with (go_at_call 55; (with_reducible refine k1.mono ?_); rintro e w6 ⟨rfl, HP⟩; clear k1)
          go_ret
          exact ⟨rfl, HP.out⟩
      · as_aux_lemma =>
        have hl : 1 < lb1 := by
          rcases Nat.lt_or_ge 1 lb1 with h | h
          · exact h
          · exact absurd (f4.1 h) hB
        have ks := hh.out.2.2.sim HT.out (by omega)
        unfold SimNext at ks
        simp only [hh.out.1] at ks
        clear f1 f3 f4 f5 f6 f8 hB
        go_wp2_with (first | (go_at_call 162; (with_reducible refine ks.mono ?_); rintro e w4 ⟨u0, u1, v0, v1, even, rfl, ⟨rfl, k2⟩ | ⟨hv, k2⟩⟩; clear ks) | (go_at_call 164; (with_reducible refine k2.mono ?_); rintro e w5 ⟨A2, B2, q2, r2, rfl, h2⟩; clear k2) | (go_at_call 163; (with_reducible refine k2.mono ?_); rintro e w5 ⟨rfl, h2⟩; clear k2))
        · obtain ⟨e1, e2, e3⟩ := h2.out
          go_roundg (A2.n + B2.n)
          case measure => rw [hh.out.2.1]; exact e2
          case rel => exact ⟨A2, B2, q2, r2, rfl, rfl, rfl, rfl, rfl, Lib.hid ⟨e1, rfl, e3⟩⟩
        · obtain ⟨A2, B2, q2, r2, e1, e2, e3, e4, e5, e6⟩ := h2.out
          go_roundg (A2.n + B2.n)
          case measure => rw [hh.out.2.1]; exact e5
          case rel => exact ⟨A2, B2, q2, r2, by rw [e1], by rw [e2], rfl, rfl, by rw [e4], Lib.hid ⟨e3, rfl, e6⟩⟩
end Go.Proofs.YtpmggjplfcjkkaaGreatDoor
