/- The exponent of a text: its bytes, what stands between two rounds. -/
import Derived.Laws.BytesArg
import Derived.Test.YtpmggjplfcjkkaaGreatDoorZ22
import Derived.Test.YtpmggjplfcjkkaaGreatDoorZ04
set_option linter.unusedVariables false
set_option linter.unusedSimpArgs false
namespace Go.Proofs.YtpmggjplfcjkkaaGreatDoor
open Go.RowKit Nq

/-- From byte p on to the end: e, a sign or none, one or two digits from q on. -/
structure ExpT (S : ByteArray) (p q : Nat) (sg : Option Bool) (D : List Nat) : Prop where
  e : byteAt S p = 101 ∨ byteAt S p = 69
  s : (sg = none ∧ q = p + 1) ∨ (sg = some true ∧ q = p + 2 ∧ byteAt S (p + 1) = 45) ∨ (sg = some false ∧ q = p + 2 ∧ byteAt S (p + 1) = 43)
  d : ∀ (j : Nat) (h : j < D.length), byteAt S (q + j) = 48 + D[j]
  d10 : ∀ d ∈ D, d < 10
  nd : D ≠ []
  l : D.length ≤ 2
  fin : q + D.length = S.size
/-- The number of an exponent. -/
def expV (sg : Option Bool) (D : List Nat) : Int := if sg = some true then -(dval D : Int) else dval D
/-- The bytes of which the program makes the number. -/
def expB (sg : Option Bool) (D : List Nat) : List Int := (if sg = some true then [45] else []) ++ D.map fun d => ((48 + d : Nat) : Int)

theorem expB_snoc (sg : Option Bool) (D : List Nat) (k : Nat) (h : k < D.length) : expB sg (D.take (k + 1)) = expB sg (D.take k) ++ [((48 + D[k] : Nat) : Int)] := by
  unfold expB
  rw [List.take_succ_eq_append_getElem h, List.map_append, ← List.append_assoc]
  rfl
theorem expB_len (sg : Option Bool) (D : List Nat) : (expB sg D).length ≤ 1 + D.length := by
  unfold expB
  split <;> simp <;> omega

theorem parse_two : ∀ (s : Fin 3) (a b : Fin 10), Lib.parseIntB 64 ((expB (if s.1 = 0 then none else if s.1 = 1 then some true else some false) [a.1, b.1]).map fun n => UInt8.ofNat n.toNat) = .ok (expV (if s.1 = 0 then none else if s.1 = 1 then some true else some false) [a.1, b.1]) := by decide +kernel
theorem parse_one : ∀ (s : Fin 3) (a : Fin 10), Lib.parseIntB 64 ((expB (if s.1 = 0 then none else if s.1 = 1 then some true else some false) [a.1]).map fun n => UInt8.ofNat n.toNat) = .ok (expV (if s.1 = 0 then none else if s.1 = 1 then some true else some false) [a.1]) := by decide +kernel
theorem parse_exp {sg : Option Bool} {D : List Nat} (h10 : ∀ d ∈ D, d < 10) (nd : D ≠ []) (hl : D.length ≤ 2) : Lib.parseIntB 64 (strOfNums (expB sg D)).data.toList = .ok (expV sg D) := by
  rw [strOfNums_data]
  obtain ⟨s, hs⟩ : ∃ s : Fin 3, sg = if s.1 = 0 then none else if s.1 = 1 then some true else some false := by
    match sg with
    | none => exact ⟨0, rfl⟩
    | some true => exact ⟨1, rfl⟩
    | some false => exact ⟨2, rfl⟩
  match D, h10, nd, hl with
  | [a], h10, _, _ =>
    have := parse_one s ⟨a, h10 a (by simp)⟩
    rw [← hs] at this
    exact this
  | [a, b], h10, _, _ =>
    have := parse_two s ⟨a, h10 a (by simp)⟩ ⟨b, h10 b (by simp)⟩
    rw [← hs] at this
    exact this

abbrev byteVals (xs : List Int) : List Value := xs.map fun n => Value.int .u8 n
theorem owned_string {w : World} {base n : Nat} {e' : TypeId} {v : Value} {xs : List Int} (h : w.ownsRow base e' 1 v n (byteVals xs)) : (convert 135 9 v).run Tryz.prog w = .ok (.string (strOfNums xs)) w := by
  have hl : xs.length = n := by have := h.1; simp at this; exact this
  rcases h.2 with ⟨rfl, rfl⟩ | ⟨g, cap, cur, rfl, _⟩
  · obtain rfl : xs = [] := List.eq_nil_of_length_eq_zero hl
    exact run_convert_bytes_nil w 135 5 (by kernel_rfl) (by kernel_rfl) 0 0 9 (by kernel_rfl)
  · refine run_convert_bytes_arg w 135 5 (by kernel_rfl) (by kernel_rfl) g 0 n cap xs hl (fun i hi => ?_) 9 (by kernel_rfl)
    have hc := h.cells (g := g) rfl i (.int .u8 (xs.getD i 0)) (by simp [List.getElem?_eq_getElem (show i < xs.length by omega), List.getD_eq_getElem?_getD])
    have ha : (⟨g, 0, none⟩ : Addr).add i = ⟨g, 0 + i, none⟩ := by unfold Addr.add; split <;> simp_all
    rwa [ha] at hc
theorem Fr.of_grown {S : List Nat} {w0 w w' : World} {row : Option Nat} (h : Fr S w0 w) (hg : w.grownBy w' row) (hr : ∀ k, row = some k → w0.heap.size ≤ k) : Fr S w0 w' :=
  ⟨hg.os.trans h.os, hg.tape.trans h.tape, hg.output.trans h.output, Nat.le_trans h.size hg.size, fun k hk hn => (hg.block k (Nat.lt_of_lt_of_le hk h.size) (fun e => by have := hr k e.symm; omega)).trans (h.block k hk hn)⟩
theorem Fr.bytes (w : World) (t : ByteArray) : Fr [] w (Lib.bytesWorld w 5 t) := ⟨rfl, rfl, rfl, by rw [Lib.bytesWorld_size]; omega, fun k hk _ => Lib.bytesWorld_at_old w 5 t k hk⟩
theorem own_fr {S : List Nat} {w w' : World} {base n : Nat} {e : TypeId} {size : Nat} {v : Value} {xs : List Value} (h : w.ownsRow base e size v n xs) (hf : Fr S w w') (hS : ∀ x ∈ S, x < base) : w'.ownsRow base e size v n xs := by
  refine ⟨h.1, ?_⟩
  rcases h.2 with hn | ⟨g, cap, cur, rfl, hb, hgg, rest⟩
  · exact .inl hn
  · exact .inr ⟨g, cap, cur, rfl, hb, (hf.block g (Array.getElem?_eq_some_iff.1 hgg).1 (fun hin => by have := hS g hin; omega)).trans hgg, rest⟩

/-- Between two rounds: k digits read. -/
structure Se (w0 w : World) (b q : Nat) (S : ByteArray) (sg : Option Bool) (D : List Nat) (ev : Value) (k n : Nat) (dv c er : Value) : Prop where
  own : w.ownsRow w0.heap.size 5 1 dv n (byteVals (expB sg (D.take k)))
  len : n ≤ 3
  fr : Fr [b] w0 w
  cur : Cur w b S (q + k) ev c er

theorem own_form {w : World} {base n : Nat} {e : TypeId} {size : Nat} {v : Value} {xs : List Value} (h : w.ownsRow base e size v n xs) : ∃ a cp, v = .slice a n cp := by
  rcases h.2 with ⟨rfl, rfl⟩ | ⟨g, cap, cur, rfl, _⟩
  · exact ⟨_, _, rfl⟩
  · exact ⟨_, _, rfl⟩
def lenOf : Value → Nat
  | .slice _ l _ => l
  | _ => 0
/-- Behind the append of a digit, and a read. -/
theorem Se.push {w0 w w1 : World} {b q : Nat} {S : ByteArray} {sg : Option Bool} {D : List Nat} {ev : Value} {k n : Nat} {dv dv' c er : Value} {x : Int} (h : Se w0 w b q S sg D ev k n dv c er) (hk : k < D.length) (hx : x = ((48 + D[k] : Nat) : Int)) (hl : D.length ≤ 2) (hb : b < w0.heap.size)
    (ho : w1.ownsRow w0.heap.size 5 1 dv' (n + 1) (byteVals (expB sg (D.take k)) ++ [.int .u8 x])) (hg : (w.alloc (.cells #[.int .u8 x] 5)).grownBy w1 dv.ownBlock) :
    Fr [b] w0 w1 ∧ (∀ R i, Rdr w b R i → Rdr w1 b R i) ∧ ∀ w2 c' er', Fr [b] w1 w2 → Cur w2 b S (q + (k + 1)) ev c' er' → Se w0 w2 b q S sg D ev (k + 1) (n + 1) dv' c' er' := by
  have hrow := h.own.lt
  have f1 : Fr [b] w0 w1 := (h.fr.alloc _).of_grown hg (fun k hk => (hrow k hk).1)
  have hbw : b < w.heap.size := Nat.lt_of_lt_of_le hb h.fr.size
  have hbr : some b ≠ dv.ownBlock := fun e => by have := (hrow b e.symm).1; omega
  refine ⟨f1, ?_, ?_⟩
  · intro R i ⟨p, hp⟩
    refine ⟨p, ?_⟩
    unfold Cells
    rw [hg.block b (by rw [World.size_alloc]; omega) hbr, Below.heap_alloc _ _ _ hbw]
    exact hp
  · intro w2 c' er' hf hc
    have hlen := expB_len sg (D.take (k + 1))
    have hn : n + 1 = (expB sg (D.take (k + 1))).length := by
      have := ho.1
      rw [expB_snoc sg D k hk]
      simp at this ⊢
      omega
    refine ⟨?_, by rw [hn]; simp at hlen ⊢; omega, f1.trans hf, hc⟩
    have := own_fr ho hf (by intro x hx; simp at hx; omega)
    rw [expB_snoc sg D k hk, ← hx]
    simpa using this

/-- What scanExponent hands back. -/
def ExpPost (w : World) (b : Nat) (S : ByteArray) (v : Int) (e : Ending) (w' : World) : Prop :=
  e = .returned (.tuple #[.int .i64 v, .int .i64 10, .nilIface]) ∧ Rdr w' b S S.size ∧ Fr [b] w w'
theorem byteInfo : (Tryz.prog.info? 5).map (fun i => (i.zero, i.size, i.bytes)) = some (some (.int .u8 0), 1, 1) := by kernel_rfl
/-- append(v, y) of one byte, to a slice of the call's own. -/
theorem wpList_push_byte {ops : Array Oper} {rest : List Oper} {o : Oper} {a : Act} {Q : Exit → Act → World → Prop} (hgd : o.guard = none) (s x : Operand)
    (ho : o.op = .call { callee := .builtin .append, args := #[s, x], argTypes := #[135, 135] }) (base : Nat) (v : Value) (n : Nat) (xs : List Value) (hs : a.eval s = v) (w : World) (hown : w.ownsRow base 5 1 v n xs) (y : Int) (c : Nat)
    (hx : a.eval x = .slice (some ⟨w.heap.size, 0, none⟩) 1 c) (hn : n ≤ 100000) (hbase : base ≤ w.heap.size)
    (h : ∀ v' w', w'.ownsRow base 5 1 v' (n + 1) (xs ++ [.int .u8 y]) → (w.alloc (.cells #[.int .u8 y] 5)).grownBy w' v.ownBlock → wpList Tryz.prog ops Q rest (a.put o.dst v') w') :
    wpList Tryz.prog ops Q (o :: rest) a (w.alloc (.cells #[.int .u8 y] 5)) := by
  obtain ⟨i0, hi, hz0, hz1, hz2⟩ := info_parts byteInfo
  refine wpList_append_own _ hgd s x 135 ho base 5 i0 (.int .u8 0) 1 1 (by kernel_rfl) hi hz0 hz1 hz2 rfl (by decide) v n xs hs (hown.alloc _) ⟨w.heap.size, 0, none⟩ 1 c [.int .u8 y] hx rfl ?_ ?_ ?_ ?_ ?_ fun v' w' h1 h2 _ => h v' w' h1 h2
  · intro j u hj
    match j, hj with
    | 0, hj => simp at hj; subst hj; simp [Addr.add]
  · intro u hu; simp at hu; subst hu; rfl
  · unfold maxLen; omega
  · omega
  · rw [World.size_alloc]; omega
end Go.Proofs.YtpmggjplfcjkkaaGreatDoor
