/-
  A MAP KEYED BY endsKey (a pointer, an int, a bool): the model's runs on it, told outright.
-/
import Derived.Test.YbulkczfqDoorRows
import Derived.WalkKit
import Derived.WalkSpells
import Derived.WalkLawsBesides
import Derived.LaidEql
import Derived.Laws.StructEq
import Derived.MapKept
namespace Go.Proofs.YbulkczfqDoor
open Go.RowKit
/-- a key of the lists: a program, an offset, closed or not -/
def K (p : Nat) (a : Int) (c : Bool) : Value := .agg #[.pointer (some ⟨p, 0, none⟩), .int .i64 a, .bool c]
theorem u24 : Ybad.prog.underlying 24 = some (.pointer 42) := Ybad.underlying24
theorem size42 : ¬ Ybad.t42.size = 0 := of_decide_eq_false (by kernel_rfl)
theorem stood61 : Ybad.prog.stoodInHeld 61 = false := by kernel_rfl
theorem hS61 : Ybad.prog.underlying 61 = some (.struct (Ybad.prog.fieldsOf 61)) := by kernel_rfl
theorem eqK (d p p' : Nat) (a : Int) (c c' : Bool) (w : World) (hp : p = p' ∨ (∃ ca ta cb tb, w.heap[p]? = some (.cells ca ta) ∧ w.heap[p']? = some (.cells cb tb))) :
    (Op.equalIn (d + 2) 61 (K p a c) (K p' a c')).run Ybad.prog w = .ok (p == p' && c == c') w := by
  have h3 := Ybad.underlying3
  have h4 := Ybad.underlying4
  have a24 := Ybad.isAgg24
  have a3 := Ybad.isAgg3
  have a4 := Ybad.isAgg4
  have z24 := Ybad.sizeOf24
  have z3 := Ybad.sizeOf3
  have z4 := Ybad.sizeOf4
  have hptr : (Op.equalIn (d + 1) 24 (.pointer (some ⟨p, 0, none⟩)) (.pointer (some ⟨p', 0, none⟩))).run Ybad.prog w = .ok (p == p') w := by
    rcases hp with rfl | ⟨ca, ta, cb, tb, h1, h2⟩
    · simp [Op.equalIn, run_underlying u24, sizeOf, run_sameAddr_same]
    · by_cases e : p = p'
      · subst e
        simp [Op.equalIn, run_underlying u24, sizeOf, run_sameAddr_same]
      · have := run_sameAddr_other (P := Ybad.prog) w (a := ⟨p, 0, none⟩) (b := ⟨p', 0, none⟩) (by intro h; cases h; exact e rfl) h1 h2
        simp [Op.equalIn, run_underlying u24, sizeOf, size42, this, e]
  unfold K
  rw [run_equalIn_struct w (d + 1) 61 _ _ hS61 stood61]
  simp only [Program.fieldsOf, Ybad.underlying61]
  simp only [Op.eqFields]
  go_simp
  by_cases e1 : p = p' <;> by_cases e2 : c = c' <;> simp [e1, e2]

theorem checkK (em : Bool) (p : Nat) (a : Int) (c : Bool) (w : World) : (Instr.checkKey em 10000 61 (K p a c)).run Ybad.prog w = .ok () w := by
  have a24 := Ybad.isAgg24
  have a3 := Ybad.isAgg3
  have a4 := Ybad.isAgg4
  have z24 := Ybad.sizeOf24
  have z3 := Ybad.sizeOf3
  have z4 := Ybad.sizeOf4
  unfold K
  rw [show (10000 : Nat) = 9998 + 1 + 1 from rfl, Instr.checkKey]
  simp only [Sem.run_bind, run_underlying Ybad.underlying61, Result.andThen_ok]
  simp only [← Array.forIn_toList, List.forIn_cons, List.forIn_nil]
  have c24 : ∀ v w, (Instr.checkKey em 9999 24 (.pointer v)).run Ybad.prog w = .ok () w := fun v w => by
    rw [show (9999 : Nat) = 9998 + 1 from rfl, Instr.checkKey]; simp [run_underlying u24]
  have c3 : ∀ v w, (Instr.checkKey em 9999 3 (.int .i64 v)).run Ybad.prog w = .ok () w := fun v w => by
    rw [show (9999 : Nat) = 9998 + 1 from rfl, Instr.checkKey]; simp [run_underlying Ybad.underlying3]
  have c4 : ∀ v w, (Instr.checkKey em 9999 4 (.bool v)).run Ybad.prog w = .ok () w := fun v w => by
    rw [show (9999 : Nat) = 9998 + 1 from rfl, Instr.checkKey]; simp [run_underlying Ybad.underlying4]
  go_simp

/-- the two pointers can be told apart -/
def Told (w : World) (p p' : Nat) : Prop := p = p' ∨ (∃ ca ta cb tb, w.heap[p]? = some (.cells ca ta) ∧ w.heap[p']? = some (.cells cb tb))
theorem askMiss (p : Nat) (a : Int) (c : Bool) (w : World) : ∀ (es : List MapEntry) (i : Nat), (∀ e ∈ es, ∃ p' c', e.key = K p' a c' ∧ (p == p' && c == c') = false ∧ Told w p p') → (Instr.findAsking 61 (K p a c) es i).run Ybad.prog w = .ok none w
  | [], _, _ => rfl
  | e :: es, i, h => by
    obtain ⟨p', c', hk, hf, ht⟩ := h e (by simp)
    rw [Instr.findAsking, Op.equal, show Op.maxDepth = 9998 + 2 from rfl, hk]
    simp only [Sem.run_bind, eqK 9998 p p' a c c' w ht, hf, Result.andThen_ok, Bool.false_eq_true, if_false]
    exact askMiss p a c w es (i + 1) (fun e' he' => h e' (by simp [he']))
theorem findMiss (p : Nat) (a : Int) (c : Bool) (w : World) (es : List MapEntry) (h : ∀ e ∈ es, ∃ p' c', e.key = K p' a c' ∧ (p == p' && c == c') = false ∧ Told w p p') : (Instr.findKey 61 (K p a c) es).run Ybad.prog w = .ok none w := by
  cases es with
  | nil => simp [Instr.findKey, Instr.findNow, run_underlying Ybad.underlying61]
  | cons e es =>
    have hn : Instr.findNow (.struct (Ybad.prog.fieldsOf 61)) (K p a c) (e :: es) 0 = none := by simp [Instr.findNow, Instr.sameNow]
    simp only [Instr.findKey, Sem.run_bind, run_underlying hS61, Result.andThen_ok, hn]
    exact askMiss p a c w _ 0 h
theorem findHit (p : Nat) (a : Int) (c : Bool) (v : Value) (b : Nat) (w : World) (es : List MapEntry) : (Instr.findKey 61 (K p a c) (⟨K p a c, v, b⟩ :: es)).run Ybad.prog w = .ok (some (0, v)) w := by
  have hn : Instr.findNow (.struct (Ybad.prog.fieldsOf 61)) (K p a c) (⟨K p a c, v, b⟩ :: es) 0 = none := by simp [Instr.findNow, Instr.sameNow]
  simp only [Instr.findKey, Sem.run_bind, run_underlying hS61, Result.andThen_ok, hn, Instr.findAsking, Op.equal]
  rw [show Op.maxDepth = 9998 + 2 from rfl, eqK 9998 p p a c c w (Or.inl rfl)]
  simp
theorem lookHit (mb p : Nat) (a : Int) (c : Bool) (v : Value) (b clock : Nat) (es : List MapEntry) (w : World) (hm : w.heap[mb]? = some (.map ⟨⟨K p a c, v, b⟩ :: es⟩ clock)) :
    (Instr.lookup 53 (.map (some mb)) (K p a c) false).run Ybad.prog w = .ok v w := by
  simp [Instr.lookup, run_underlying Ybad.underlying53, MapKept.run_getObj_map hm, checkK, findHit]
theorem updMiss (mb p : Nat) (a : Int) (c : Bool) (v : Value) (clock : Nat) (es : Array MapEntry) (w : World) (hm : w.heap[mb]? = some (.map es clock)) (h : ∀ e ∈ es.toList, ∃ p' c', e.key = K p' a c' ∧ (p == p' && c == c') = false ∧ Told w p p') :
    (Instr.mapUpdate 53 (.map (some mb)) (K p a c) v).run Ybad.prog w = .ok () (ChangeMaps.setBlock w mb (.map (es.push ⟨K p a c, v, clock⟩) (clock + 1))) := by
  simp [Instr.mapUpdate, run_underlying Ybad.underlying53, MapKept.run_getObj_map hm, checkK, findMiss p a c w _ h, MapKept.run_setObj_map _ hm, ChangeMaps.setBlock]
theorem lenMap (mb : Nat) (clock : Nat) (es : Array MapEntry) (w : World) (hm : w.heap[mb]? = some (.map es clock)) (ty : TypeId) : (Builtin.len_ #[53] ty #[.map (some mb)]).run Ybad.prog w = .ok (.int .i64 es.size) w := by
  simp [Builtin.len_, run_underlying Ybad.underlying53, MapKept.run_getObj_map hm, goInt]
end Go.Proofs.YbulkczfqDoor
