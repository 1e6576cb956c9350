/-
  Frames: what a step leaves as it was. 'Fr S w w'': of the blocks of w all but those in S are in w' as they were.
-/
import Derived.Test.Qxb6612390aMem
namespace Go.Proofs.Qxb6612390a
open Go.ChangeShapes Go.WideShapes Go.ChangeAt Go.RowKit
open Go.ChangeMaps (setBlock)
set_option linter.unusedVariables false

structure Fr (S : Nat → Prop) (w w' : World) : Prop where
  os : w'.os = w.os
  tape : w'.tape = w.tape
  output : w'.output = w.output
  size : w.heap.size ≤ w'.heap.size
  block : ∀ b, b < w.heap.size → ¬ S b → w'.heap[b]? = w.heap[b]?

theorem Fr.refl (S : Nat → Prop) (w : World) : Fr S w w := ⟨rfl, rfl, rfl, Nat.le_refl _, fun _ _ _ => rfl⟩
theorem Fr.trans {S : Nat → Prop} {a b c : World} (h : Fr S a b) (k : Fr S b c) : Fr S a c :=
  ⟨k.os.trans h.os, k.tape.trans h.tape, k.output.trans h.output, Nat.le_trans h.size k.size, fun i hi hn => (k.block i (Nat.lt_of_lt_of_le hi h.size) hn).trans (h.block i hi hn)⟩
theorem Fr.mono {S T : Nat → Prop} {w w' : World} (h : Fr S w w') (hST : ∀ b, b < w.heap.size → S b → T b) : Fr T w w' :=
  ⟨h.os, h.tape, h.output, h.size, fun b hb hn => h.block b hb (fun hs => hn (hST b hb hs))⟩
theorem Fr.below {S : Nat → Prop} {w w' : World} {B : Nat} (h : Fr S w w') (hB : B ≤ w.heap.size) (hS : ∀ b, b < B → ¬ S b) : Below B w w' :=
  ⟨h.os, h.tape, h.output, h.size, fun k hk => h.block k (Nat.lt_of_lt_of_le hk hB) (hS k hk)⟩
theorem Fr.of_below {S : Nat → Prop} {w w' : World} (h : Below w.heap.size w w') : Fr S w w' := ⟨h.os, h.tape, h.output, h.size, fun b hb _ => h.block b hb⟩
theorem Fr.alloc {S : Nat → Prop} {a w : World} (h : Fr S a w) (o : Obj) : Fr S a (w.alloc o) :=
  h.trans (Fr.of_below ((Below.refl w.heap.size w).alloc (Nat.le_refl _) o))
theorem Fr.drew {S : Nat → Prop} {a w : World} (h : Fr S a w) : Fr S a w.drew := ⟨h.os, h.tape, h.output, h.size, h.block⟩
theorem Fr.setCell {S : Nat → Prop} {a w : World} (h : Fr S a w) (p : Addr) (hp : S p.block ∨ a.heap.size ≤ p.block) (v : Value) : Fr S a (w.setCell p v) :=
  ⟨h.os, h.tape, h.output, by simpa [World.setCell] using h.size, fun b hb hn => (Below.heap_setCell w p v b (by
    intro e
    subst e
    rcases hp with hp | hp
    · exact hn hp
    · omega)).trans (h.block b hb hn)⟩
theorem Fr.setBlock {S : Nat → Prop} {a w : World} (h : Fr S a w) (r : Nat) (hp : S r ∨ a.heap.size ≤ r) (o : Obj) : Fr S a (setBlock w r o) :=
  ⟨h.os, h.tape, h.output, by simpa [Go.ChangeMaps.setBlock] using h.size, fun b hb hn => by
    have hne : r ≠ b := by
      intro e
      subst e
      rcases hp with hp | hp
      · exact hn hp
      · omega
    have : (Go.ChangeMaps.setBlock w r o).heap[b]? = w.heap[b]? := by
      simp [Go.ChangeMaps.setBlock, hne]
    exact this.trans (h.block b hb hn)⟩
theorem Fr.setRow {S : Nat → Prop} {a w : World} (h : Fr S a w) (r : Nat) (hp : S r ∨ a.heap.size ≤ r) (cs : Array Value) : Fr S a (w.setRow r cs) :=
  ⟨h.os, h.tape, h.output, by simpa [World.setRow] using h.size, fun b hb hn => (setRow_other w r b cs (by
    intro e
    subst e
    rcases hp with hp | hp
    · exact hn hp
    · omega)).trans (h.block b hb hn)⟩

theorem Cel.fr {S : Nat → Prop} {w w' : World} {b : Nat} (h : Cel w b) (hf : Fr S w w') (hn : ¬ S b) : Cel w' b := by
  have hlt := h.lt
  obtain ⟨c, t, h⟩ := h
  exact ⟨c, t, (hf.block b hlt hn).trans h⟩
theorem Fr.cell {S : Nat → Prop} {w w' : World} (hf : Fr S w w') {b i : Nat} {v : Value} (h : w.cell? ⟨b, i, none⟩ = some v) (hn : ¬ S b) : w'.cell? ⟨b, i, none⟩ = some v := by
  have hlt : b < w.heap.size := by
    apply Decidable.byContradiction
    intro hge
    have : w.heap[b]? = none := by simp; omega
    simp [World.cell?, this] at h
  rw [← h]
  exact World.cell?_of_block (hf.block b hlt hn)

/-- A cell of a block that is known whole. -/
theorem cell_of {w : World} {b : Nat} {c : Array Value} {t : TypeId} (h : w.heap[b]? = some (.cells c t (0, 0))) (i : Nat) : w.cell? ⟨b, i, none⟩ = c[i]? := by
  simp [World.cell?, h]
theorem heap_setCell {w : World} {b : Nat} {c : Array Value} {t : TypeId} (h : w.heap[b]? = some (.cells c t (0, 0))) (i : Nat) (v : Value) : (w.setCell ⟨b, i, none⟩ v).heap[b]? = some (.cells (c.setIfInBounds i v) t (0, 0)) := by
  simp [World.setCell, Array.getElem?_modify, h]
theorem heap_new (w : World) (o : Obj) : (w.alloc o).heap[w.heap.size]? = some o := (MapKept.heap_alloc w o).1
theorem heap_old {w : World} {b : Nat} {x : Obj} (h : w.heap[b]? = some x) (o : Obj) : (w.alloc o).heap[b]? = some x :=
  (Below.heap_alloc w o b (Array.getElem?_eq_some_iff.1 h).1).trans h
theorem heap_lt {w : World} {b : Nat} {x : Obj} (h : w.heap[b]? = some x) : b < w.heap.size := (Array.getElem?_eq_some_iff.1 h).1
theorem size_alloc (w : World) (o : Obj) : (w.alloc o).heap.size = w.heap.size + 1 := by
  show (w.heap.push o).size = _
  simp
end Go.Proofs.Qxb6612390a
