/- The listed variables: what the rows' list gives of the world, and a world that holds them. -/
import Derived.WalkKit
import Derived.ProofKit
import Derived.OpenShut
import Derived.Deep.DeepHandedRow
import Derived.LaidLaws
import Derived.LaidSub
import Derived.MakeChecks
import Derived.OpenVars
import Derived.Test.YtpmggjplfcjkkaaGreatDoorRows
set_option linter.unusedVariables false
set_option linter.unusedSimpArgs false
set_option maxRecDepth 100000
namespace Go.Proofs.YtpmggjplfcjkkaaGreatDoor
open Go.ChangeShapes Go.WideShapes Go.ChangeAt Go.RowKit

theorem own : ownKnob Tryz.prog.godebug = none := by kernel_rfl
theorem laidOut : laidOutB Tryz.prog = true := by kernel_rfl
theorem g0 : Tryz.prog.globalNamed "io.EOF" = some 0 := by kernel_rfl
theorem g1 : Tryz.prog.globalNamed "given.example/pub-querent/pub/bigall.karatsubaThreshold" = some 1 := by kernel_rfl
theorem g6 : Tryz.prog.globalNamed "given.example/pub-querent/pub/bigall.basicSqrThreshold" = some 6 := by kernel_rfl
theorem g7 : Tryz.prog.globalNamed "given.example/pub-querent/pub/bigall.karatsubaSqrThreshold" = some 7 := by kernel_rfl
theorem g8 : Tryz.prog.globalNamed "given.example/pub-querent/pub/bigall.divRecursiveThreshold" = some 8 := by kernel_rfl
theorem t0 : (Tryz.prog.globals[0]?).map (·.type) = some 69 := by kernel_rfl
theorem t1 : (Tryz.prog.globals[1]?).map (·.type) = some 3 := by kernel_rfl
theorem t6 : (Tryz.prog.globals[6]?).map (·.type) = some 3 := by kernel_rfl
theorem t7 : (Tryz.prog.globals[7]?).map (·.type) = some 3 := by kernel_rfl
theorem t8 : (Tryz.prog.globals[8]?).map (·.type) = some 3 := by kernel_rfl

/-- The rows' list. -/
abbrev laidL : List (String × DataW Unit) := Rows.fnJMultipleRow.laid
theorem laid_one {W : World} (h : laidMetH Tryz.prog laidL W) (n : String) (d : DataW Unit) (hn : laidL.filter (fun x => x.1 == n) = [(n, d)]) (hp : (([(n, d)] : List (String × DataW Unit)).all fun x => x.2.handleName?.isNone) = true) : laidMet Tryz.prog [(n, d)] W := by
  have := laidMetH.filter (fun x => x.1 == n) h
  rw [hn] at this
  rwa [MakeChecks.laidMetH_plain _ _ _ hp] at this
theorem laid_int {W : World} {n : String} {g : Nat} {z : Int} (hg : Tryz.prog.globalNamed n = some g) (ht : (Tryz.prog.globals[g]?).map (·.type) = some 3) (h : laidMet Tryz.prog [(n, .lit (.int .i64 z))] W) : W.cell? ⟨g, 0, none⟩ = some (.int .i64 z) := by
  obtain ⟨ps, ⟨g', t', cs, fuel, p, q, hg', ht', hvar, hd, _, _⟩, _⟩ := h
  obtain rfl := Option.some.inj (hg.symm.trans hg')
  obtain rfl := Option.some.inj (ht.symm.trans ht')
  obtain ⟨m, hc, hx, _⟩ := DataW.trod_int Tryz.underlying3 hd
  have e : z = m := by
    have := congrArg Prod.fst hx
    simpa using this
  subst e
  have := World.var?_cell hg hvar 0
  rw [this]
  obtain ⟨l⟩ := cs
  simp only at hc
  rw [hc]
  rfl
theorem star : "*" ++ "errors.errorString" = "*errors.errorString" := by decide
/-! the type of the error texts: its name is its own -/
def namedIs (P : Program) (s : String) (e : TypeId) : Bool := match P.info? e with
  | some i => (match i.desc with
    | TypeDesc.named n _ => n == s
    | _ => false)
  | none => false
def basicIs (P : Program) (s : String) (e : TypeId) : Bool := match P.info? e with
  | some i => (match i.desc with
    | TypeDesc.bool => i.str == s
    | TypeDesc.int _ => i.str == s
    | TypeDesc.float _ => i.str == s
    | TypeDesc.string => i.str == s
    | _ => false)
  | none => false
def ptrTo (P : Program) (e u : TypeId) : Bool := match P.info? u with
  | some i => (match i.desc with
    | TypeDesc.pointer e' => e' == e
    | _ => false)
  | none => false
abbrev esName : String := "errors.errorString"
theorem chk1 : ((List.range Tryz.prog.types.size).all fun e => !(namedIs Tryz.prog esName e) || e == 420) = true := by kernel_rfl
theorem chk2 : ((List.range Tryz.prog.types.size).all fun u => !(ptrTo Tryz.prog 420 u) || u == 418) = true := by kernel_rfl
theorem chk3 : ((List.range Tryz.prog.types.size).all fun u => !(namedIs Tryz.prog ("*" ++ esName) u)) = true := by kernel_rfl
theorem chk3b : ((List.range Tryz.prog.types.size).all fun u => !(basicIs Tryz.prog ("*" ++ esName) u)) = true := by kernel_rfl
theorem chk4 : ((List.range Tryz.prog.types.size).all fun e => !(basicIs Tryz.prog esName e)) = true := by kernel_rfl
theorem star_not {x : String} (h : "*" ++ x = esName) : False := by
  have := congrArg String.toList h
  simp [String.toList_append, esName] at this
theorem basic_of {s : String} {e : TypeId} {i : TypeInfo} (hi : Tryz.prog.info? e = some i) (hc : ((List.range Tryz.prog.types.size).all fun e => !(basicIs Tryz.prog s e)) = true) (hb : basicIs Tryz.prog s e = (i.str == s)) (ht : i.desc.tableOnly = true) (h : (if i.str.isEmpty = true then none else some i.str) = some s) : False := by
  split at h
  · cases h
  · have e1 : i.str = s := Option.some.inj h
    by_cases hlt : e < Tryz.prog.types.size
    · have := List.all_eq_true.1 hc e (List.mem_range.2 hlt)
      rw [hb, e1] at this
      simp at this
    · have := Tables.info?_beyond hlt hi
      rw [ht] at this
      cases this
theorem name2 (e : TypeId) (h : Tryz.prog.typeName? 2 e = some esName) : namedIs Tryz.prog esName e = true := by
  unfold Program.typeName? at h
  cases hi : Tryz.prog.info? e with
  | none => simp [hi] at h
  | some i =>
    simp only [hi] at h
    have hb := fun (k : basicIs Tryz.prog esName e = (i.str == esName)) => basic_of hi chk4 k
    unfold namedIs
    unfold basicIs at hb
    rw [hi] at hb ⊢
    simp only at hb ⊢
    cases hd : i.desc <;> simp only [hd] at h hb ⊢ <;> try cases h
    · exact (hb trivial rfl h).elim
    · exact (hb trivial rfl h).elim
    · exact (hb trivial rfl h).elim
    · exact (hb trivial rfl h).elim
    · obtain ⟨x, _, hx⟩ := Option.map_eq_some_iff.1 h
      exact (star_not hx).elim
    · split at h
      · rw [Option.some.inj h]; simp
      · cases h
theorem row418 (u : TypeId) (h : Tryz.prog.typeName? 3 u = some "*errors.errorString") : u = 418 := by
  rw [← star] at h
  unfold Program.typeName? at h
  cases hi : Tryz.prog.info? u with
  | none => simp [hi] at h
  | some i =>
    simp only [hi] at h
    have hb := fun (k : basicIs Tryz.prog ("*" ++ esName) u = (i.str == ("*" ++ esName))) => basic_of hi chk3b k
    unfold basicIs at hb
    rw [hi] at hb
    simp only at hb
    cases hd : i.desc <;> simp only [hd] at h hb <;> try cases h
    · exact (hb trivial rfl h).elim
    · exact (hb trivial rfl h).elim
    · exact (hb trivial rfl h).elim
    · exact (hb trivial rfl h).elim
    · rename_i e
      obtain ⟨x, hx, hs⟩ := Option.map_eq_some_iff.1 h
      obtain rfl : x = esName := star_append_inj hs
      have hn := name2 e hx
      have hj : ∃ j n t, Tryz.prog.info? e = some j ∧ j.desc = .named n t := by
        unfold namedIs at hn
        split at hn
        · rename_i j hj
          split at hn
          · exact ⟨j, _, _, hj, by assumption⟩
          · cases hn
        · cases hn
      obtain ⟨j, n, t, hj, hjd⟩ := hj
      by_cases hlt : u < Tryz.prog.types.size
      · have he : e < Tryz.prog.types.size := by
          by_cases he : e < Tryz.prog.types.size
          · exact he
          · have := Tables.info?_beyond he hj
            rw [hjd] at this
            cases this
        have h1 := List.all_eq_true.1 chk1 e (List.mem_range.2 he)
        rw [hn] at h1
        obtain rfl : e = 420 := by simpa using h1
        have h2 := List.all_eq_true.1 chk2 u (List.mem_range.2 hlt)
        have h3 : ptrTo Tryz.prog 420 u = true := by unfold ptrTo; rw [hi]; simp only [hd]; rfl
        rw [h3] at h2
        simpa using h2
      · exact absurd hjd (Tables.pointee_beyond hlt hi hd j hj n t)
    · split at h
      · rename_i n t _
        have e1 : n = "*" ++ esName := Option.some.inj h
        by_cases hlt : u < Tryz.prog.types.size
        · have h2 := List.all_eq_true.1 chk3 u (List.mem_range.2 hlt)
          have h3 : namedIs Tryz.prog ("*" ++ esName) u = true := by unfold namedIs; rw [hi]; simp only [hd, e1]; simp
          rw [h3] at h2
          cases h2
        · have := Tables.info?_beyond hlt hi
          rw [hd] at this
          cases this
      · cases h
theorem laid_eof {W : World} (h : laidMet Tryz.prog [("io.EOF", Rows.laid_io_EOF)] W) : ∃ eb : Addr, W.cell? ⟨0, 0, none⟩ = some (.iface 418 (.pointer (some eb))) := by
  obtain ⟨ps, ⟨g', t', cs, fuel, p, q, hg', ht', hvar, hd, hq, e⟩, hnd, hrows⟩ := h
  obtain rfl := Option.some.inj (g0.symm.trans hg')
  obtain rfl := Option.some.inj (t0.symm.trans ht')
  have hq' : q = [] := hq
  subst hq'
  subst e
  obtain ⟨l⟩ := cs
  have ok0 : ∀ u v, l = [.iface u v] → Value.okWide Tryz.prog W .any 0 u v := fun u v e => by
    subst e
    exact (hrows 0 0 (by simp [MemPlace.row])).2 u v (by simpa using World.var?_cell g0 hvar 0)
  obtain ⟨a0, s0, rfl, _⟩ := errorString_of_trod Tryz.underlying69 row418 Tryz.underlying418 Tryz.underlying420 rfl rfl Tryz.underlying9 (by kernel_rfl) (by kernel_rfl) hd ok0
  exact ⟨a0, by simpa using World.var?_cell g0 hvar 0⟩

/-- What the walks ask of the world. -/
theorem laid_facts {W : World} (h : laidMetH Tryz.prog laidL W) : W.cell? ⟨1, 0, none⟩ = some (.int .i64 40) ∧ W.cell? ⟨6, 0, none⟩ = some (.int .i64 12) ∧ W.cell? ⟨7, 0, none⟩ = some (.int .i64 80) ∧ W.cell? ⟨8, 0, none⟩ = some (.int .i64 40) ∧ ∃ eb : Addr, W.cell? ⟨0, 0, none⟩ = some (.iface 418 (.pointer (some eb))) :=
  ⟨laid_int g1 t1 (laid_one h _ _ (by kernel_rfl) rfl), laid_int g6 t6 (laid_one h _ _ (by kernel_rfl) rfl), laid_int g7 t7 (laid_one h _ _ (by kernel_rfl) rfl), laid_int g8 t8 (laid_one h _ _ (by kernel_rfl) rfl), laid_eof (laid_one h _ _ (by kernel_rfl) rfl)⟩
theorem globals_there {W : World} (h : W.ShapedOpen Tryz.prog) : 14 ≤ W.heap.size := by
  have h1 : ∃ zero t, (((begin Tryz.prog (fun _ _ => 0) default).world).heap[13]?).bind Obj.row? = some (zero, t) := by
    cases hh : (((begin Tryz.prog (fun _ _ => 0) default).world).heap[13]?).bind Obj.row? with
    | some x => exact ⟨x.1, x.2, rfl⟩
    | none =>
      have : ((((begin Tryz.prog (fun _ _ => 0) default).world).heap[13]?).bind Obj.row?).isSome = true := by kernel_rfl
      rw [hh] at this
      cases this
  obtain ⟨zero, t, hz⟩ := h1
  obtain ⟨cs, hc, _⟩ := h.1 13 zero t (by have : decide (13 < Tryz.prog.globals.size) = true := by kernel_rfl
                                          exact of_decide_eq_true this) hz
  have := (Array.getElem?_eq_some_iff.1 hc).1
  omega
end Go.Proofs.YtpmggjplfcjkkaaGreatDoor
