/-
  Frames, rows of the law's own, and the window's block.
-/
import Derived.Test.Qxb6612353aRows
import Derived.WalkKit
import Derived.ProofKit
import Derived.OpenShut
import Derived.ShutString
import Derived.WalkSpells
import Derived.WalkLawsBesides
import Derived.ChangeOld
import Derived.Below
import Derived.Laws.CopyRow
import Derived.Laws.CopyOwn
import Derived.Laws.MakeOwn
import Derived.Laws.AppendOwn
import Derived.Laws.OwnMore
import Derived.Deep.DeepCutAuto
import Derived.Deep.CutBlock
import Derived.Deep.QuietTactic
import Derived.BigQuiet
namespace Go.Proofs.Qxb6612353a
open Go.ChangeShapes Go.WideShapes Go.ChangeAt Go.RowKit
open Go.ChangeMaps (setBlock)
set_option linter.unusedVariables false

structure Fr (S : Nat → Prop) (w w' : World) : Prop where
  os : w'.os = w.os
  tape : w'.tape = w.tape
  output : w'.output = w.output
  size : w.heap.size ≤ w'.heap.size
  block : ∀ b, b < w.heap.size → ¬ S b → w'.heap[b]? = w.heap[b]?

theorem Fr.refl (S : Nat → Prop) (w : World) : Fr S w w := ⟨rfl, rfl, rfl, Nat.le_refl _, fun _ _ _ => rfl⟩
theorem Fr.trans {S : Nat → Prop} {a b c : World} (h : Fr S a b) (k : Fr S b c) : Fr S a c :=
  ⟨k.os.trans h.os, k.tape.trans h.tape, k.output.trans h.output, Nat.le_trans h.size k.size, fun i hi hn => (k.block i (Nat.lt_of_lt_of_le hi h.size) hn).trans (h.block i hi hn)⟩
theorem Fr.mono {S T : Nat → Prop} {w w' : World} (h : Fr S w w') (hST : ∀ b, b < w.heap.size → S b → T b) : Fr T w w' :=
  ⟨h.os, h.tape, h.output, h.size, fun b hb hn => h.block b hb (fun hs => hn (hST b hb hs))⟩
theorem Fr.below {S : Nat → Prop} {w w' : World} {B : Nat} (h : Fr S w w') (hB : B ≤ w.heap.size) (hS : ∀ b, b < B → ¬ S b) : Below B w w' :=
  ⟨h.os, h.tape, h.output, h.size, fun k hk => h.block k (Nat.lt_of_lt_of_le hk hB) (hS k hk)⟩
theorem Fr.of_below {S : Nat → Prop} {w w' : World} (h : Below w.heap.size w w') : Fr S w w' := ⟨h.os, h.tape, h.output, h.size, fun b hb _ => h.block b hb⟩
theorem Fr.alloc {S : Nat → Prop} {a w : World} (h : Fr S a w) (o : Obj) : Fr S a (w.alloc o) :=
  h.trans (Fr.of_below ((Below.refl w.heap.size w).alloc (Nat.le_refl _) o))
theorem Fr.drew {S : Nat → Prop} {a w : World} (h : Fr S a w) : Fr S a w.drew := ⟨h.os, h.tape, h.output, h.size, h.block⟩
theorem Fr.setCell {S : Nat → Prop} {a w : World} (h : Fr S a w) (p : Addr) (hp : S p.block ∨ a.heap.size ≤ p.block) (v : Value) : Fr S a (w.setCell p v) :=
  ⟨h.os, h.tape, h.output, by simpa [World.setCell] using h.size, fun b hb hn => (Below.heap_setCell w p v b (by
    intro e
    subst e
    rcases hp with hp | hp
    · exact hn hp
    · omega)).trans (h.block b hb hn)⟩
theorem Fr.setBlock {S : Nat → Prop} {a w : World} (h : Fr S a w) (r : Nat) (hp : S r ∨ a.heap.size ≤ r) (o : Obj) : Fr S a (setBlock w r o) :=
  ⟨h.os, h.tape, h.output, by simpa [Go.ChangeMaps.setBlock] using h.size, fun b hb hn => by
    have hne : r ≠ b := by
      intro e
      subst e
      rcases hp with hp | hp
      · exact hn hp
      · omega
    have : (Go.ChangeMaps.setBlock w r o).heap[b]? = w.heap[b]? := by
      simp [Go.ChangeMaps.setBlock, hne]
    exact this.trans (h.block b hb hn)⟩
theorem Fr.setRow {S : Nat → Prop} {a w : World} (h : Fr S a w) (r : Nat) (hp : S r ∨ a.heap.size ≤ r) (cs : Array Value) : Fr S a (w.setRow r cs) :=
  ⟨h.os, h.tape, h.output, by simpa [World.setRow] using h.size, fun b hb hn => (setRow_other w r b cs (by
    intro e
    subst e
    rcases hp with hp | hp
    · exact hn hp
    · omega)).trans (h.block b hb hn)⟩

theorem Fr.cell {S : Nat → Prop} {w w' : World} (hf : Fr S w w') {b i : Nat} {v : Value} (h : w.cell? ⟨b, i, none⟩ = some v) (hn : ¬ S b) : w'.cell? ⟨b, i, none⟩ = some v := by
  have hlt : b < w.heap.size := by
    apply Decidable.byContradiction
    intro hge
    have : w.heap[b]? = none := by simp; omega
    simp [World.cell?, this] at h
  rw [← h]
  exact World.cell?_of_block (hf.block b hlt hn)

/-- A cell of a block that is known whole. -/
theorem cell_of {w : World} {b : Nat} {c : Array Value} {t : TypeId} (h : w.heap[b]? = some (.cells c t (0, 0))) (i : Nat) : w.cell? ⟨b, i, none⟩ = c[i]? := by
  simp [World.cell?, h]
theorem heap_setCell {w : World} {b : Nat} {c : Array Value} {t : TypeId} (h : w.heap[b]? = some (.cells c t (0, 0))) (i : Nat) (v : Value) : (w.setCell ⟨b, i, none⟩ v).heap[b]? = some (.cells (c.setIfInBounds i v) t (0, 0)) := by
  simp [World.setCell, Array.getElem?_modify, h]
theorem heap_new (w : World) (o : Obj) : (w.alloc o).heap[w.heap.size]? = some o := (MapKept.heap_alloc w o).1
theorem heap_old {w : World} {b : Nat} {x : Obj} (h : w.heap[b]? = some x) (o : Obj) : (w.alloc o).heap[b]? = some x :=
  (Below.heap_alloc w o b (Array.getElem?_eq_some_iff.1 h).1).trans h
theorem heap_lt {w : World} {b : Nat} {x : Obj} (h : w.heap[b]? = some x) : b < w.heap.size := (Array.getElem?_eq_some_iff.1 h).1
theorem size_alloc (w : World) (o : Obj) : (w.alloc o).heap.size = w.heap.size + 1 := by
  show (w.heap.push o).size = _
  simp
theorem ne_tag {w : World} {a b : Nat} {c d : Array Value} {s t : TypeId} (ha : w.heap[a]? = some (.cells c s (0, 0))) (hb : w.heap[b]? = some (.cells d t (0, 0))) (h : s ≠ t) : a ≠ b := by
  intro e
  subst e
  rw [ha] at hb
  simp at hb
  exact h hb.2
theorem own_fr {S : Nat → Prop} {w w' : World} {base : Nat} {e : TypeId} {size : Nat} {v : Value} {n : Nat} {xs : List Value} (h : w.ownsRow base e size v n xs) (hf : Fr S w w') (hn : ∀ g, v.ownBlock = some g → ¬ S g) : w'.ownsRow base e size v n xs := by
  refine ⟨h.1, ?_⟩
  rcases h.2 with hh | ⟨g, cap, cur, rfl, hb, hg, rest⟩
  · exact .inl hh
  · exact .inr ⟨g, cap, cur, rfl, hb, (hf.block g (heap_lt hg) (hn g rfl)).trans hg, rest⟩
theorem own_tag {w : World} {base : Nat} {e : TypeId} {size : Nat} {v : Value} {n : Nat} {xs : List Value} (h : w.ownsRow base e size v n xs) {g : Nat} (hg : v.ownBlock = some g) : ∃ c, w.heap[g]? = some (.cells c e (0, 0)) := by
  rcases h.2 with ⟨rfl, _⟩ | ⟨g', cap, cur, rfl, hb, hgg, rest⟩
  · cases hg
  · cases hg
    exact ⟨cur, hgg⟩
theorem fr_grown {w w' : World} {v : Value} (h : w.grownBy w' v.ownBlock) : Fr (fun b => v.ownBlock = some b) w w' :=
  ⟨h.os, h.tape, h.output, h.size, fun b hb hn => h.block b hb (fun e => hn e.symm)⟩

theorem fr1 (w : World) (b i : Nat) (v : Value) : Fr (fun x => x = b) w (w.setCell ⟨b, i, none⟩ v) := (Fr.refl (fun x => x = b) w).setCell _ (.inl rfl) _

/-- An append whose run is known. -/
theorem wpList_append_eq {P : Program} {w : World} {ops : Array Oper} {rest : List Oper} {o : Oper} {a : Act} {Q : Exit → Act → World → Prop} (hgd : o.guard = none) (s x : Operand) (t1 t2 : TypeId)
    (ho : o.op = .call { callee := .builtin .append, args := #[s, x], argTypes := #[t1, t2] }) (vs vx v' : Value) (w' : World) (hs : a.eval s = vs) (hx : a.eval x = vx)
    (hrun : (Builtin.append_ #[t1, t2] o.type #[vs, vx]).run P w = .ok v' w') (h : wpList P ops Q rest (a.put o.dst v') w') : wpList P ops Q (o :: rest) a w :=
  wpList_plain hgd fun _ hK => by
    unfold Oper.wp execOp
    simp only [ho, resolve, invoke, builtin, Sem.run_bind, Sem.run_pure, Result.andThen_ok, List.map_toArray, List.map_cons, List.map_nil, hs, hx, hrun]
    exact hK _ _ h


theorem cell_lt' {w : World} {b i : Nat} {v : Value} (h : w.cell? ⟨b, i, none⟩ = some v) : b < w.heap.size := by
  apply Decidable.byContradiction
  intro hn
  have : w.heap[b]? = none := by simp; omega
  simp [World.cell?, this] at h
theorem Fr.drewN {S : Nat → Prop} {a w : World} (h : Fr S a w) (m : Nat) : Fr S a (w.drewN m) := ⟨h.os, h.tape, h.output, h.size, h.block⟩

def ptr (b : Nat) : Value := .pointer (some ⟨b, 0, none⟩)
/-- The window. -/
def wnC (ct : Int) (rv : Value) (nx : Int) (av : Value) (sm fl tm lm : Int) : Array Value :=
  #[.pointer none, .int .i32 0, .int .u32 0, .int .i64 ct, rv, .int .i64 nx, av, .int .i64 sm, .int .i64 fl, .int .i64 tm, .int .i64 lm]
def Wn (w : World) (b : Nat) (ct : Int) (rv : Value) (nx : Int) (av : Value) (sm fl tm lm : Int) : Prop := w.heap[b]? = some (.cells (wnC ct rv nx av sm fl tm lm) 67 (0, 0))

section
variable {w : World} {b : Nat} {ct : Int} {rv : Value} {nx : Int} {av : Value} {sm fl tm lm : Int}
theorem Wn.fr {S : Nat → Prop} {w' : World} (h : Wn w b ct rv nx av sm fl tm lm) (hf : Fr S w w') (hn : ¬ S b) : Wn w' b ct rv nx av sm fl tm lm := (hf.block b (heap_lt h) hn).trans h
theorem Wn.lt (h : Wn w b ct rv nx av sm fl tm lm) : b < w.heap.size := heap_lt h
theorem Wn.free (h : Wn w b ct rv nx av sm fl tm lm) (i : Nat) : w.frozen? ⟨b, i, none⟩ = false := by
  unfold Wn at h
  simp [World.frozen?, h]
theorem Wn.c3 (h : Wn w b ct rv nx av sm fl tm lm) : w.cell? ⟨b, 3, none⟩ = some (.int .i64 ct) := by rw [cell_of h]; rfl
theorem Wn.c4 (h : Wn w b ct rv nx av sm fl tm lm) : w.cell? ⟨b, 4, none⟩ = some rv := by rw [cell_of h]; rfl
theorem Wn.c5 (h : Wn w b ct rv nx av sm fl tm lm) : w.cell? ⟨b, 5, none⟩ = some (.int .i64 nx) := by rw [cell_of h]; rfl
theorem Wn.c6 (h : Wn w b ct rv nx av sm fl tm lm) : w.cell? ⟨b, 6, none⟩ = some av := by rw [cell_of h]; rfl
theorem Wn.c7 (h : Wn w b ct rv nx av sm fl tm lm) : w.cell? ⟨b, 7, none⟩ = some (.int .i64 sm) := by rw [cell_of h]; rfl
theorem Wn.c8 (h : Wn w b ct rv nx av sm fl tm lm) : w.cell? ⟨b, 8, none⟩ = some (.int .i64 fl) := by rw [cell_of h]; rfl
theorem Wn.c9 (h : Wn w b ct rv nx av sm fl tm lm) : w.cell? ⟨b, 9, none⟩ = some (.int .i64 tm) := by rw [cell_of h]; rfl
theorem Wn.c10 (h : Wn w b ct rv nx av sm fl tm lm) : w.cell? ⟨b, 10, none⟩ = some (.int .i64 lm) := by rw [cell_of h]; rfl
theorem Wn.s3 (h : Wn w b ct rv nx av sm fl tm lm) (x : Int) : Wn (w.setCell ⟨b, 3, none⟩ (.int .i64 x)) b x rv nx av sm fl tm lm := by unfold Wn; rw [heap_setCell h]; rfl
theorem Wn.s4 (h : Wn w b ct rv nx av sm fl tm lm) (x : Value) : Wn (w.setCell ⟨b, 4, none⟩ x) b ct x nx av sm fl tm lm := by unfold Wn; rw [heap_setCell h]; rfl
theorem Wn.s5 (h : Wn w b ct rv nx av sm fl tm lm) (x : Int) : Wn (w.setCell ⟨b, 5, none⟩ (.int .i64 x)) b ct rv x av sm fl tm lm := by unfold Wn; rw [heap_setCell h]; rfl
theorem Wn.s6 (h : Wn w b ct rv nx av sm fl tm lm) (x : Value) : Wn (w.setCell ⟨b, 6, none⟩ x) b ct rv nx x sm fl tm lm := by unfold Wn; rw [heap_setCell h]; rfl
theorem Wn.s7 (h : Wn w b ct rv nx av sm fl tm lm) (x : Int) : Wn (w.setCell ⟨b, 7, none⟩ (.int .i64 x)) b ct rv nx av x fl tm lm := by unfold Wn; rw [heap_setCell h]; rfl
theorem Wn.s8 (h : Wn w b ct rv nx av sm fl tm lm) (x : Int) : Wn (w.setCell ⟨b, 8, none⟩ (.int .i64 x)) b ct rv nx av sm x tm lm := by unfold Wn; rw [heap_setCell h]; rfl
theorem Wn.s9 (h : Wn w b ct rv nx av sm fl tm lm) (x : Int) : Wn (w.setCell ⟨b, 9, none⟩ (.int .i64 x)) b ct rv nx av sm fl x lm := by unfold Wn; rw [heap_setCell h]; rfl
theorem Wn.s10 (h : Wn w b ct rv nx av sm fl tm lm) (x : Int) : Wn (w.setCell ⟨b, 10, none⟩ (.int .i64 x)) b ct rv nx av sm fl tm x := by unfold Wn; rw [heap_setCell h]; rfl
end

theorem equalIn_nil (t e : TypeId) (ht : Try.prog.underlying t = some (.slice e)) (d : Nat) (w : World) : (Op.equalIn (d + 1) t (.slice none 0 0) (.slice none 0 0)).run Try.prog w = .ok true w := by
  simp [Op.equalIn, run_underlying ht]
theorem neq23 (w : World) : (binOp .neq 23 (.slice none 0 0) (.slice none 0 0)).run Try.prog w = .ok (.bool false) w := by
  simp only [binOp]
  have : (Op.equal 23 (.slice none 0 0) (.slice none 0 0)).run Try.prog w = .ok true w := equalIn_nil 23 2 Try.underlying23 9999 w
  simp [this]

def NewP (w : World) (e : Ending) (w' : World) : Prop := e = .returned (ptr w.heap.size) ∧ w' = w.alloc (.cells (wnC 0 (.slice none 0 0) 0 (.slice none 0 0) 0 0 0 0) 67)
set_option maxHeartbeats 400000 in
theorem newWindow_any (w : World) : Calls Try.prog 9 #[.int .i64 0, .slice none 0 0, .int .i64 0, .slice none 0 0, .int .i64 0, .int .i64 0, .int .i64 0, .int .i64 0] w (NewP w) := by
  have h := neq23
  go_enter Try.func9, Try.ntmps9
  go_wp2
  go_ret
  exact ⟨rfl, rfl⟩

/-! ### The readers of the window -/
section
variable {w : World} {b : Nat} {ct : Int} {ra : Option Addr} {rl rc : Nat} {nx : Int} {av : Value} {sm fl tm lm : Int}
theorem count_any (h : Wn w b ct (.slice ra rl rc) nx av sm fl tm lm) : Calls Try.prog 13 #[ptr b] w fun e w' => e = .returned (.int .i64 ct) ∧ w' = w := by
  unfold ptr
  have c := h.c3
  clear h
  go_enter Try.func13, Try.ntmps13
  go_wp2
  go_ret
  exact ⟨rfl, rfl⟩
theorem next_any (h : Wn w b ct (.slice ra rl rc) nx av sm fl tm lm) : Calls Try.prog 14 #[ptr b] w fun e w' => e = .returned (.int .i64 nx) ∧ w' = w := by
  unfold ptr
  have c := h.c5
  clear h
  go_enter Try.func14, Try.ntmps14
  go_wp2
  go_ret
  exact ⟨rfl, rfl⟩
theorem recent_any (h : Wn w b ct (.slice ra rl rc) nx av sm fl tm lm) : Calls Try.prog 17 #[ptr b] w fun e w' => e = .returned (.slice ra rl rc) ∧ w' = w := by
  unfold ptr
  have c := h.c4
  clear h
  go_enter Try.func17, Try.ntmps17
  go_wp2
  go_ret
  exact ⟨rfl, rfl⟩
theorem sum_any (h : Wn w b ct (.slice ra rl rc) nx av sm fl tm lm) (hs : -9223372036854775808 ≤ sm ∧ sm ≤ 9223372036854775807) : Calls Try.prog 19 #[ptr b] w fun e w' => e = .returned (.int .i64 sm) ∧ w' = w := by
  unfold ptr
  have c := h.c7
  clear h
  go_enter Try.func19, Try.ntmps19
  go_wp2
  go_ret
  exact ⟨rfl, rfl⟩
theorem failed_any (h : Wn w b ct (.slice ra rl rc) nx av sm fl tm lm) : Calls Try.prog 20 #[ptr b] w fun e w' => e = .returned (.int .i64 fl) ∧ w' = w := by
  unfold ptr
  have c := h.c8
  clear h
  go_enter Try.func20, Try.ntmps20
  go_wp2
  go_ret
  exact ⟨rfl, rfl⟩
theorem timedOut_any (h : Wn w b ct (.slice ra rl rc) nx av sm fl tm lm) : Calls Try.prog 21 #[ptr b] w fun e w' => e = .returned (.int .i64 tm) ∧ w' = w := by
  unfold ptr
  have c := h.c9
  clear h
  go_enter Try.func21, Try.ntmps21
  go_wp2
  go_ret
  exact ⟨rfl, rfl⟩
theorem limited_any (h : Wn w b ct (.slice ra rl rc) nx av sm fl tm lm) : Calls Try.prog 22 #[ptr b] w fun e w' => e = .returned (.int .i64 lm) ∧ w' = w := by
  unfold ptr
  have c := h.c10
  clear h
  go_enter Try.func22, Try.ntmps22
  go_wp2
  go_ret
  exact ⟨rfl, rfl⟩
end
end Go.Proofs.Qxb6612353a
