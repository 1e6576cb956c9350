/-
  Memory that the law itself makes, block by block: what a block of cells is; '==' of two pointers; a map keyed by pointers to such blocks: look-up, update.
-/
import Derived.Test.Qxb6612390aRows
import Derived.WalkKit
import Derived.ProofKit
import Derived.OpenShut
import Derived.ShutString
import Derived.WalkSpells
import Derived.WalkLawsBesides
import Derived.ChangeOld
import Derived.Below
import Derived.LaidEql
import Derived.Laws.CopyRow
import Derived.Laws.CopyOwn
import Derived.Laws.MakeOwn
namespace Go.Proofs.Qxb6612390a
open Go.ChangeShapes Go.WideShapes Go.ChangeAt Go.RowKit
open Go.ChangeMaps (setBlock)
set_option linter.unusedVariables false

/-- A block of cells, none of them frozen. -/
def Cel (w : World) (b : Nat) : Prop := ∃ c t, w.heap[b]? = some (.cells c t (0, 0))

theorem Cel.lt {w : World} {b : Nat} (h : Cel w b) : b < w.heap.size := by
  obtain ⟨c, t, h⟩ := h
  exact (Array.getElem?_eq_some_iff.1 h).1
theorem Cel.below {w w' : World} {b B : Nat} (h : Cel w b) (hb : Below B w w') (hB : b < B) : Cel w' b := by
  obtain ⟨c, t, h⟩ := h
  exact ⟨c, t, (hb.block b hB).trans h⟩
theorem Cel.alloc {w : World} {b : Nat} (h : Cel w b) (o : Obj) : Cel (w.alloc o) b :=
  h.below ((Below.refl w.heap.size w).alloc (Nat.le_refl _) o) h.lt
theorem Cel.new (w : World) (c : Array Value) (t : TypeId) : Cel (w.alloc (.cells c t)) w.heap.size :=
  ⟨c, t, (MapKept.heap_alloc w _).1⟩
theorem Cel.cell {w : World} {b : Nat} (h : Cel w b) (i : Nat) : w.frozen? ⟨b, i, none⟩ = false := by
  obtain ⟨c, t, h⟩ := h
  simp [World.frozen?, h]
theorem Cel.setCell {w : World} {b : Nat} (h : Cel w b) (a : Addr) (v : Value) : Cel (w.setCell a v) b := by
  obtain ⟨c, t, h⟩ := h
  by_cases e : b = a.block
  · subst e
    have hlt := (Array.getElem?_eq_some_iff.1 h).1
    refine ⟨if a.spot.isSome then c else c.setIfInBounds a.off v, t, ?_⟩
    have hv : w.heap[a.block] = .cells c t (0, 0) := (Array.getElem?_eq_some_iff.1 h).2
    simp [World.setCell, Array.getElem?_modify, h]
  · exact ⟨c, t, (Below.heap_setCell w a v b e).trans h⟩

section
variable {P : Program}

theorem run_equalIn_ptr {t e : TypeId} {j : TypeInfo} (ht : P.underlying t = some (.pointer e)) (hj : P.info? e = some j) (hs : j.size ≠ 0) (d : Nat) (w : World) (a b : Nat) (ha : Cel w a) (hb : Cel w b) :
    (Op.equalIn (d + 1) t (.pointer (some ⟨a, 0, none⟩)) (.pointer (some ⟨b, 0, none⟩))).run P w = .ok (a == b) w := by
  by_cases h : a = b
  · subst h
    simp [Op.equalIn, run_underlying ht, sizeOf, typeInfo, hj, run_sameAddr_same]
  · obtain ⟨c, tc, hc⟩ := ha
    obtain ⟨d, td, hd⟩ := hb
    have hne : (⟨a, 0, none⟩ : Addr) ≠ ⟨b, 0, none⟩ := by
      intro he
      exact h (congrArg Addr.block he)
    have hf : (a == b) = false := beq_eq_false_iff_ne.2 h
    simp [Op.equalIn, run_underlying ht, sizeOf, typeInfo, hj, hs, run_sameAddr_other w hne hc hd, hf]
theorem run_equal_ptr {t e : TypeId} {j : TypeInfo} (ht : P.underlying t = some (.pointer e)) (hj : P.info? e = some j) (hs : j.size ≠ 0) (w : World) (a b : Nat) (ha : Cel w a) (hb : Cel w b) :
    (Op.equal t (.pointer (some ⟨a, 0, none⟩)) (.pointer (some ⟨b, 0, none⟩))).run P w = .ok (a == b) w :=
  run_equalIn_ptr ht hj hs 9999 w a b ha hb

theorem run_eql_ptr {t e : TypeId} {j : TypeInfo} (ht : P.underlying t = some (.pointer e)) (hj : P.info? e = some j) (hs : j.size ≠ 0) (w : World) (a b : Nat) (ha : Cel w a) (hb : Cel w b) :
    (binOp .eql t (.pointer (some ⟨a, 0, none⟩)) (.pointer (some ⟨b, 0, none⟩))).run P w = .ok (.bool (a == b)) w := by
  simp only [binOp]
  simp [run_equal_ptr ht hj hs w a b ha hb]
theorem run_neq_ptr {t e : TypeId} {j : TypeInfo} (ht : P.underlying t = some (.pointer e)) (hj : P.info? e = some j) (hs : j.size ≠ 0) (w : World) (a b : Nat) (ha : Cel w a) (hb : Cel w b) :
    (binOp .neq t (.pointer (some ⟨a, 0, none⟩)) (.pointer (some ⟨b, 0, none⟩))).run P w = .ok (.bool (!(a == b))) w := by
  simp only [binOp]
  simp [run_equal_ptr ht hj hs w a b ha hb]

/-! ### A map keyed by pointers to blocks of cells -/
/-- Every key is a pointer to a block of cells other than k. -/
def KeysBut (w : World) (k : Nat) (es : List MapEntry) : Prop := ∀ e ∈ es, ∃ b, e.key = .pointer (some ⟨b, 0, none⟩) ∧ Cel w b ∧ b ≠ k

theorem findAsking_none {t e : TypeId} {j : TypeInfo} (ht : P.underlying t = some (.pointer e)) (hj : P.info? e = some j) (hs : j.size ≠ 0) (w : World) (k : Nat) (hk : Cel w k) :
    ∀ (es : List MapEntry) (i : Nat), KeysBut w k es → (Instr.findAsking t (.pointer (some ⟨k, 0, none⟩)) es i).run P w = .ok none w
  | [], i, _ => by simp [Instr.findAsking, Sem.run_pure]
  | x :: es, i, h => by
    obtain ⟨b, hb, hc, hne⟩ := h x (by simp)
    have hne' : (k == b) = false := beq_eq_false_iff_ne.2 (Ne.symm hne)
    simp only [Instr.findAsking, Sem.run_bind, hb, run_equal_ptr ht hj hs w k b hk hc, Result.andThen, hne']
    exact findAsking_none ht hj hs w k hk es (i + 1) (fun y hy => h y (by simp [hy]))

theorem findAsking_last {t e : TypeId} {j : TypeInfo} (ht : P.underlying t = some (.pointer e)) (hj : P.info? e = some j) (hs : j.size ≠ 0) (w : World) (k : Nat) (hk : Cel w k) (x : MapEntry) (hx : x.key = .pointer (some ⟨k, 0, none⟩)) :
    ∀ (es : List MapEntry) (i : Nat), KeysBut w k es → ∃ n, (Instr.findAsking t (.pointer (some ⟨k, 0, none⟩)) (es ++ [x]) i).run P w = .ok (some (n, x.val)) w
  | [], i, _ => by
    refine ⟨i, ?_⟩
    simp only [List.nil_append, Instr.findAsking, Sem.run_bind, hx, run_equal_ptr ht hj hs w k k hk hk, Result.andThen, beq_self_eq_true, if_true]
    simp [Sem.run_pure]
  | y :: es, i, h => by
    obtain ⟨b, hb, hc, hne⟩ := h y (by simp)
    have hne' : (k == b) = false := beq_eq_false_iff_ne.2 (Ne.symm hne)
    obtain ⟨n, hn⟩ := findAsking_last ht hj hs w k hk x hx es (i + 1) (fun z hz => h z (by simp [hz]))
    refine ⟨n, ?_⟩
    simp only [List.cons_append, Instr.findAsking, Sem.run_bind, hb, run_equal_ptr ht hj hs w k b hk hc, Result.andThen, hne']
    exact hn

theorem findKey_none {t e : TypeId} {j : TypeInfo} (ht : P.underlying t = some (.pointer e)) (hj : P.info? e = some j) (hs : j.size ≠ 0) (w : World) (k : Nat) (hk : Cel w k) (es : List MapEntry) (h : KeysBut w k es) :
    (Instr.findKey t (.pointer (some ⟨k, 0, none⟩)) es).run P w = .ok none w := by
  cases es with
  | nil => simp [Instr.findKey, run_underlying ht, Instr.findNow]
  | cons x es =>
    have := findAsking_none ht hj hs w k hk (x :: es) 0 h
    simp only [Instr.findKey, Sem.run_bind, run_underlying ht, Result.andThen, Instr.findNow, Instr.sameNow]
    exact this
theorem findKey_last {t e : TypeId} {j : TypeInfo} (ht : P.underlying t = some (.pointer e)) (hj : P.info? e = some j) (hs : j.size ≠ 0) (w : World) (k : Nat) (hk : Cel w k) (x : MapEntry) (hx : x.key = .pointer (some ⟨k, 0, none⟩)) (es : List MapEntry) (h : KeysBut w k es) :
    ∃ n, (Instr.findKey t (.pointer (some ⟨k, 0, none⟩)) (es ++ [x])).run P w = .ok (some (n, x.val)) w := by
  obtain ⟨n, hn⟩ := findAsking_last ht hj hs w k hk x hx es 0 h
  refine ⟨n, ?_⟩
  cases es with
  | nil =>
    simp only [List.nil_append] at hn ⊢
    simp only [Instr.findKey, Sem.run_bind, run_underlying ht, Result.andThen, Instr.findNow, Instr.sameNow]
    exact hn
  | cons y es =>
    simp only [List.cons_append] at hn ⊢
    simp only [Instr.findKey, Sem.run_bind, run_underlying ht, Result.andThen, Instr.findNow, Instr.sameNow]
    exact hn

theorem checkKey_ptr_n {t e : TypeId} (ht : P.underlying t = some (.pointer e)) (em : Bool) (n : Nat) (v : Value) (w : World) : (Instr.checkKey em (n + 1) t v).run P w = .ok () w := by
  cases v <;> simp [Instr.checkKey, run_underlying ht]
theorem checkKey_ptr {t e : TypeId} (ht : P.underlying t = some (.pointer e)) (em : Bool) (v : Value) (w : World) : (Instr.checkKey em 10000 t v).run P w = .ok () w :=
  checkKey_ptr_n ht em 9999 v w

theorem run_mapUpdate_new {m t e v : TypeId} {j : TypeInfo} (hm : P.underlying m = some (.map t v)) (ht : P.underlying t = some (.pointer e)) (hj : P.info? e = some j) (hs : j.size ≠ 0) (w : World) (r k : Nat) (es : Array MapEntry) (cl : Nat) (hr : w.heap[r]? = some (.map es cl)) (hk : Cel w k) (h : KeysBut w k es.toList) (x : Value) :
    (Instr.mapUpdate m (.map (some r)) (.pointer (some ⟨k, 0, none⟩)) x).run P w = .ok () (setBlock w r (.map (es.push { key := .pointer (some ⟨k, 0, none⟩), val := x, born := cl }) (cl + 1))) := by
  simp only [Instr.mapUpdate, Sem.run_bind, run_underlying hm, Result.andThen, getObj, Sem.run, hr, checkKey_ptr ht, findKey_none ht hj hs w k hk es.toList h, setObj, setBlock]

theorem run_lookup_none {m t e v : TypeId} {j : TypeInfo} {z : Value} (hm : P.underlying m = some (.map t v)) (ht : P.underlying t = some (.pointer e)) (hj : P.info? e = some j) (hs : j.size ≠ 0) (hz : ∀ w, (zeroValue v).run P w = .ok z w) (w : World) (r k : Nat) (es : Array MapEntry) (cl : Nat) (hr : w.heap[r]? = some (.map es cl)) (hk : Cel w k) (h : KeysBut w k es.toList) :
    (Instr.lookup m (.map (some r)) (.pointer (some ⟨k, 0, none⟩)) true).run P w = .ok (.tuple #[z, .bool false]) w := by
  simp [Instr.lookup, Sem.run_bind, run_underlying hm, Result.andThen, getObj, Sem.run, hr, checkKey_ptr ht, findKey_none ht hj hs w k hk es.toList h, hz]
theorem run_lookup_last {m t e v : TypeId} {j : TypeInfo} (hm : P.underlying m = some (.map t v)) (ht : P.underlying t = some (.pointer e)) (hj : P.info? e = some j) (hs : j.size ≠ 0) (w : World) (r k : Nat) (es : Array MapEntry) (x : MapEntry) (hx : x.key = .pointer (some ⟨k, 0, none⟩)) (cl : Nat) (hr : w.heap[r]? = some (.map (es.push x) cl)) (hk : Cel w k) (h : KeysBut w k es.toList) :
    (Instr.lookup m (.map (some r)) (.pointer (some ⟨k, 0, none⟩)) true).run P w = .ok (.tuple #[x.val, .bool true]) w := by
  obtain ⟨n, hn⟩ := findKey_last ht hj hs w k hk x hx es.toList h
  simp [Instr.lookup, Sem.run_bind, run_underlying hm, Result.andThen, getObj, Sem.run, hr, checkKey_ptr ht, hn]
end
end Go.Proofs.Qxb6612390a
