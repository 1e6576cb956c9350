/-
  setQueue: what each call does: the three contracts (the queued list kept, added to, dropped from).
-/
import Derived.Test.Qxb6612390aFrame
import Derived.Deep.DeepCutAuto
import Derived.Laws.AppendOwn
import Derived.Laws.OwnMore
import Derived.Deep.QuietTactic
import Derived.BigQuiet
namespace Go.Proofs.Qxb6612390a
open Go.ChangeShapes Go.WideShapes Go.ChangeAt Go.RowKit
set_option linter.unusedVariables false

def ptr (b : Nat) : Value := .pointer (some ⟨b, 0, none⟩)
/-- A request at its index. -/
def rqC (at_ : Int) : Array Value :=
  #[.pointer none, .int .u8 0, .pointer none, .nilIface, .int .i64 at_, .chan none, .nilIface, .int .u64 0, .pointer none, .pointer none,
    .bool false, .slice none 0 0, .int .i64 0, .int .i32 0, .int .i32 0, .int .i32 0, .int .i32 0]
/-- A resource: its queue, its place in the table's list, its walk. -/
def rsC (q : Value) (qa wk : Int) : Array Value :=
  #[.nilIface, .int .u64 0, .int .i64 0, .pointer none, .int .u8 0, .pointer none, .int .i32 0, .int .i32 0, .int .u64 0, .map none,
    .slice none 0 0, q, .int .i64 qa, .slice none 0 0, .slice none 0 0, .int .u64 wk, .slice none 0 0, .map none]

def Req (w : World) (b : Nat) (at_ : Int) : Prop := w.heap[b]? = some (.cells (rqC at_) 78 (0, 0))
def Res (w : World) (b : Nat) (q : Value) (qa wk : Int) : Prop := w.heap[b]? = some (.cells (rsC q qa wk) 92 (0, 0))
/-- The table: its list. -/
def Tab (w : World) (b : Nat) (v : Value) : Prop := ∃ c, w.heap[b]? = some (.cells c 111 (0, 0)) ∧ c.size = 7942 ∧ c[7940]? = some v

set_option maxHeartbeats 400000 in
theorem newRequest_any (at_ : Int) (w : World) : Calls Try.prog 13 #[.int .i64 at_] w fun e w' => e = .returned (ptr w.heap.size) ∧ w' = w.alloc (.cells (rqC at_) 78) := by
  unfold ptr rqC
  go_enter Try.func13, Try.ntmps13
  go_wp2
  go_ret
  exact ⟨rfl, rfl⟩
set_option maxHeartbeats 400000 in
theorem newResource_any (a : Option Addr) (l c : Nat) (qa wk : Int) (w : World) : Calls Try.prog 14 #[.slice a l c, .int .i64 qa, .int .u64 wk] w fun e w' => e = .returned (ptr w.heap.size) ∧ w' = w.alloc (.cells (rsC (.slice a l c) qa wk) 92) := by
  unfold ptr rsC
  go_enter Try.func14, Try.ntmps14
  go_wp2
  go_ret
  exact ⟨rfl, rfl⟩

/-- The requests of a queue: R j lies at its block, at index A j. -/
def Reqs (w : World) (ql : Nat) (R : Nat → Nat) (A : Nat → Int) : Prop := ∀ j, j < ql → Req w (R j) (A j)
def Inj (ql : Nat) (R : Nat → Nat) : Prop := ∀ i j, i < ql → j < ql → R i = R j → i = j

/-- Behind k rounds. -/
def Ats (ql from_ : Nat) (R : Nat → Nat) (A : Nat → Int) (k : Nat) (w wr : World) : Prop :=
  Reqs wr ql R (fun j => if from_ ≤ j ∧ j < k then (j : Int) else A j) ∧ Fr (fun b => ∃ j, j < ql ∧ b = R j) w wr

theorem Ats.start {ql from_ : Nat} {R : Nat → Nat} {A : Nat → Int} {w : World} (h : Reqs w ql R A) : Ats ql from_ R A from_ w w := by
  refine ⟨fun j hj => ?_, Fr.refl _ _⟩
  have := h j hj
  show Req w (R j) (if from_ ≤ j ∧ j < from_ then (j : Int) else A j)
  rw [if_neg (by omega)]
  exact this
theorem Ats.step {ql from_ : Nat} {R : Nat → Nat} {A : Nat → Int} {k : Nat} {w wr : World} (h : Ats ql from_ R A k w wr) (hi : Inj ql R) (hk : k < ql) (hf : from_ ≤ k) : Ats ql from_ R A (k + 1) w (wr.setCell ⟨R k, 4, none⟩ (.int .i64 k)) := by
  obtain ⟨h1, h2⟩ := h
  refine ⟨fun j hj => ?_, h2.setCell _ (.inl ⟨k, hk, rfl⟩) _⟩
  have hj1 := h1 j hj
  unfold Req at hj1 ⊢
  by_cases e : j = k
  · subst e
    rw [heap_setCell hj1]
    simp [rqC, hf]
  · have hne : R j ≠ R k := fun hh => e (hi j k hj hk hh)
    rw [Below.heap_setCell _ _ _ _ hne, hj1]
    show some (Obj.cells (rqC (if from_ ≤ j ∧ j < k then (j : Int) else A j)) 78 (0, 0)) = some (Obj.cells (rqC (if from_ ≤ j ∧ j < k + 1 then (j : Int) else A j)) 78 (0, 0))
    by_cases hc : from_ ≤ j ∧ j < k
    · rw [if_pos hc, if_pos ⟨hc.1, by omega⟩]
    · rw [if_neg hc, if_neg (by omega)]
theorem Ats.done {ql from_ : Nat} {R : Nat → Nat} {A : Nat → Int} {k : Nat} {w wr : World} (h : Ats ql from_ R A k w wr) (hk : ql ≤ k ∨ k = from_) (hn : ¬ k < ql) : Ats ql from_ R A ql w wr := by
  refine ⟨fun j hj => ?_, h.2⟩
  have := h.1 j hj
  by_cases hc : from_ ≤ j
  · simpa [hc, hj, show j < k by omega] using this
  · simpa [hc] using this

/-- The queue's array. -/
def Arr (w : World) (t : TypeId) (b : Nat) (n : Nat) (R : Nat → Nat) : Prop := ∃ c, w.heap[b]? = some (.cells c t (0, 0)) ∧ ∀ j, j < n → c[j]? = some (ptr (R j))
theorem Arr.fr {S : Nat → Prop} {w w' : World} {t : TypeId} {b n : Nat} {R : Nat → Nat} (h : Arr w t b n R) (hf : Fr S w w') (hn : ¬ S b) : Arr w' t b n R := by
  obtain ⟨c, h1, h2⟩ := h
  exact ⟨c, (hf.block b (heap_lt h1) hn).trans h1, h2⟩
theorem Arr.cell {w : World} {t : TypeId} {b n : Nat} {R : Nat → Nat} (h : Arr w t b n R) {j : Nat} (hj : j < n) : w.cell? ⟨b, j, none⟩ = some (ptr (R j)) := by
  obtain ⟨c, h1, h2⟩ := h
  rw [cell_of h1]
  exact h2 j hj
theorem Arr.lt {w : World} {t : TypeId} {b n : Nat} {R : Nat → Nat} (h : Arr w t b n R) : b < w.heap.size := by
  obtain ⟨c, h1, h2⟩ := h
  exact heap_lt h1
theorem ne_tag {w : World} {a b : Nat} {c d : Array Value} {s t : TypeId} (ha : w.heap[a]? = some (.cells c s (0, 0))) (hb : w.heap[b]? = some (.cells d t (0, 0))) (h : s ≠ t) : a ≠ b := by
  intro e
  subst e
  rw [ha] at hb
  simp at hb
  exact h hb.2


/-! ### What the calls of setQueue leave -/
theorem Req.fr {S : Nat → Prop} {w w' : World} {b : Nat} {a : Int} (h : Req w b a) (hf : Fr S w w') (hn : ¬ S b) : Req w' b a := (hf.block b (heap_lt h) hn).trans h
theorem Res.fr {S : Nat → Prop} {w w' : World} {b : Nat} {q : Value} {a k : Int} (h : Res w b q a k) (hf : Fr S w w') (hn : ¬ S b) : Res w' b q a k := (hf.block b (heap_lt h) hn).trans h
theorem Tab.fr {S : Nat → Prop} {w w' : World} {b : Nat} {v : Value} (h : Tab w b v) (hf : Fr S w w') (hn : ¬ S b) : Tab w' b v := by
  obtain ⟨c, h1, h2⟩ := h
  exact ⟨c, (hf.block b (heap_lt h1) hn).trans h1, h2⟩
theorem Tab.cell {w : World} {b : Nat} {v : Value} (h : Tab w b v) : w.cell? ⟨b, 7940, none⟩ = some v := by
  obtain ⟨c, h1, h2, h3⟩ := h
  rw [cell_of h1, h3]
theorem Tab.free {w : World} {b : Nat} {v : Value} (h : Tab w b v) (i : Nat) : w.frozen? ⟨b, i, none⟩ = false := by
  obtain ⟨c, h1, h2, h3⟩ := h
  simp [World.frozen?, h1]
theorem Tab.lt {w : World} {b : Nat} {v : Value} (h : Tab w b v) : b < w.heap.size := by
  obtain ⟨c, h1, h2, h3⟩ := h
  exact heap_lt h1
theorem Tab.set {w : World} {b : Nat} {v : Value} (h : Tab w b v) (v' : Value) : Tab (w.setCell ⟨b, 7940, none⟩ v') b v' := by
  obtain ⟨c, h1, h2, h3⟩ := h
  refine ⟨_, heap_setCell h1 7940 v', by simpa using h2, ?_⟩
  rw [Array.getElem?_setIfInBounds]
  simp [h2]
theorem Res.free {w : World} {b : Nat} {q : Value} {a k : Int} (h : Res w b q a k) (i : Nat) : w.frozen? ⟨b, i, none⟩ = false := by
  unfold Res at h
  simp [World.frozen?, h]
theorem Res.lt {w : World} {b : Nat} {q : Value} {a k : Int} (h : Res w b q a k) : b < w.heap.size := heap_lt h
theorem Res.c11 {w : World} {b : Nat} {q : Value} {a k : Int} (h : Res w b q a k) : w.cell? ⟨b, 11, none⟩ = some q := by rw [cell_of h]; rfl
theorem Res.c12 {w : World} {b : Nat} {q : Value} {a k : Int} (h : Res w b q a k) : w.cell? ⟨b, 12, none⟩ = some (.int .i64 a) := by rw [cell_of h]; rfl
theorem Res.c15 {w : World} {b : Nat} {q : Value} {a k : Int} (h : Res w b q a k) : w.cell? ⟨b, 15, none⟩ = some (.int .u64 k) := by rw [cell_of h]; rfl
theorem Res.s11 {w : World} {b : Nat} {q : Value} {a k : Int} (h : Res w b q a k) (q' : Value) : Res (w.setCell ⟨b, 11, none⟩ q') b q' a k := by
  unfold Res
  rw [heap_setCell h]
  rfl
theorem Res.s12 {w : World} {b : Nat} {q : Value} {a k : Int} (h : Res w b q a k) (a' : Int) : Res (w.setCell ⟨b, 12, none⟩ (.int .i64 a')) b q a' k := by
  unfold Res
  rw [heap_setCell h]
  rfl
theorem Res.s15 {w : World} {b : Nat} {q : Value} {a k : Int} (h : Res w b q a k) (k' : Int) : Res (w.setCell ⟨b, 15, none⟩ (.int .u64 k')) b q a k' := by
  unfold Res
  rw [heap_setCell h]
  rfl
theorem Res.at {w : World} {b c : Nat} {q q' : Value} {a k a' k' : Int} (h : Res w b q a k) (h' : Res w c q' a' k') (e : b = c) : q = q' ∧ a = a' ∧ k = k' := by
  subst e
  unfold Res at h h'
  rw [h] at h'
  simp [rsC] at h'
  obtain ⟨h1, h2, h3⟩ := h'
  exact ⟨h1, h2, h3⟩
theorem Arr.free {w : World} {t : TypeId} {b n : Nat} {R : Nat → Nat} (h : Arr w t b n R) (i : Nat) : w.frozen? ⟨b, i, none⟩ = false := by
  obtain ⟨c, h1, h2⟩ := h
  simp [World.frozen?, h1]

theorem own_fr {S : Nat → Prop} {w w' : World} {base : Nat} {e : TypeId} {size : Nat} {v : Value} {n : Nat} {xs : List Value} (h : w.ownsRow base e size v n xs) (hf : Fr S w w') (hn : ∀ g, v.ownBlock = some g → ¬ S g) : w'.ownsRow base e size v n xs := by
  refine ⟨h.1, ?_⟩
  rcases h.2 with hh | ⟨g, cap, cur, rfl, hb, hg, rest⟩
  · exact .inl hh
  · exact .inr ⟨g, cap, cur, rfl, hb, (hf.block g (heap_lt hg) (hn g rfl)).trans hg, rest⟩
theorem own_tag {w : World} {base : Nat} {e : TypeId} {size : Nat} {v : Value} {n : Nat} {xs : List Value} (h : w.ownsRow base e size v n xs) {g : Nat} (hg : v.ownBlock = some g) : ∃ c, w.heap[g]? = some (.cells c e (0, 0)) := by
  rcases h.2 with ⟨rfl, _⟩ | ⟨g', cap, cur, rfl, hb, hgg, rest⟩
  · cases hg
  · cases hg
    exact ⟨cur, hgg⟩
theorem fr_grown {w w' : World} {v : Value} (h : w.grownBy w' v.ownBlock) : Fr (fun b => v.ownBlock = some b) w w' :=
  ⟨h.os, h.tape, h.output, h.size, fun b hb hn => h.block b hb (fun e => hn e.symm)⟩

theorem info36 : (Try.prog.info? 36).map (fun i => (i.zero, i.size, i.bytes)) = some (some (.pointer none), 1, 8) := by kernel_rfl
theorem append38 (w : World) (base : Nat) (v : Value) (n : Nat) (xs : List Value) (h : w.ownsRow base 36 1 v n xs) (hn : n ≤ 1000000) (hb : base ≤ w.heap.size) (x : Nat) :
    ∃ v' w', (Builtin.append_ #[38, 38] 38 #[v, .slice (some ⟨w.heap.size, 0, none⟩) 1 1]).run Try.prog (w.alloc (.cells #[ptr x] 36)) = .ok v' w' ∧ w'.ownsRow base 36 1 v' (n + 1) (xs ++ [ptr x]) ∧ Fr (fun b => v.ownBlock = some b) w w' := by
  obtain ⟨i0, hi, hz0, hz1, hz2⟩ := info_parts info36
  have h' := h.alloc (.cells #[ptr x] 36)
  obtain ⟨v', w', h1, h2, h3, _⟩ := run_append_own (P := Try.prog) (w.alloc (.cells #[ptr x] 36)) base 38 38 36 i0 (.pointer none) 1 8 Try.underlying38 hi hz0 hz1 hz2 rfl (by decide) v n xs h' ⟨w.heap.size, 0, none⟩ 1 1 [ptr x] rfl (by
    intro j u hj
    match j, hj with
    | 0, hj =>
      simp at hj
      subst hj
      simp [Addr.add]
    | j + 1, hj => simp at hj) (by
    intro u hu
    simp at hu
    subst hu
    rfl) (by unfold maxLen; omega) (by omega) (by rw [size_alloc]; omega)
  exact ⟨v', w', h1, h2, ((Fr.refl _ _).alloc _).trans (fr_grown h3)⟩

/-- An append whose run is known. -/
theorem wpList_append_eq {P : Program} {w : World} {ops : Array Oper} {rest : List Oper} {o : Oper} {a : Act} {Q : Exit → Act → World → Prop} (hgd : o.guard = none) (s x : Operand) (t1 t2 : TypeId)
    (ho : o.op = .call { callee := .builtin .append, args := #[s, x], argTypes := #[t1, t2] }) (vs vx v' : Value) (w' : World) (hs : a.eval s = vs) (hx : a.eval x = vx)
    (hrun : (Builtin.append_ #[t1, t2] o.type #[vs, vx]).run P w = .ok v' w') (h : wpList P ops Q rest (a.put o.dst v') w') : wpList P ops Q (o :: rest) a w :=
  wpList_plain hgd fun _ hK => by
    unfold Oper.wp execOp
    simp only [ho, resolve, invoke, builtin, Sem.run_bind, Sem.run_pure, Result.andThen_ok, List.map_toArray, List.map_cons, List.map_nil, hs, hx, hrun]
    exact hK _ _ h

theorem fr1 (w : World) (b i : Nat) (v : Value) : Fr (fun x => x = b) w (w.setCell ⟨b, i, none⟩ v) := (Fr.refl (fun x => x = b) w).setCell _ (.inl rfl) _

/-- The requests' blocks, the resource's own, and what more. -/
def Touch (ql : Nat) (R : Nat → Nat) (rb : Nat) (S : Nat → Prop) (b : Nat) : Prop := (∃ j, j < ql ∧ b = R j) ∨ b = rb ∨ S b

def newAt (from_ : Nat) (A : Nat → Int) (j : Nat) : Int := if from_ ≤ j then (j : Int) else A j
theorem Ats.reqs {ql from_ : Nat} {R : Nat → Nat} {A : Nat → Int} {w wr : World} (h : Ats ql from_ R A ql w wr) : Reqs wr ql R (newAt from_ A) := by
  intro j hj
  have := h.1 j hj
  by_cases hc : from_ ≤ j
  · simpa [newAt, hc, hj] using this
  · simpa [newAt, hc] using this
theorem Reqs.fr {S : Nat → Prop} {w w' : World} {ql : Nat} {R : Nat → Nat} {A : Nat → Int} (h : Reqs w ql R A) (hf : Fr S w w') (hn : ∀ j, j < ql → ¬ S (R j)) : Reqs w' ql R A := fun j hj => (h j hj).fr hf (hn j hj)

/-- The queue that is handed over, and the resource: what every call asks. -/
structure Ask (w : World) (rb qb ql : Nat) (R : Nat → Nat) (A : Nat → Int) (oq : Value) (qa wk : Int) : Prop where
  arr : Arr w 34 qb ql R
  reqs : Reqs w ql R A
  inj : Inj ql R
  res : Res w rb oq qa wk

def KeepQ (w : World) (rb qb ql qc : Nat) (R : Nat → Nat) (A' : Nat → Int) (qa : Int) (e : Ending) (w' : World) : Prop :=
  e = .returned (.tuple #[]) ∧ Reqs w' ql R A' ∧ Res w' rb (.slice (some ⟨qb, 0, none⟩) ql qc) qa 0 ∧ Fr (Touch ql R rb (fun _ => False)) w w'

set_option maxRecDepth 100000 in
set_option maxHeartbeats 1000000 in
theorem setQueue_keep (tb rb qb ql qc : Nat) (from_ : Nat) (R : Nat → Nat) (A : Nat → Int) (ao : Option Addr) (lo co : Nat) (qa wk : Int) (w : World)
    (ha : Ask w rb qb ql R A (.slice ao lo co) qa wk) (hql : ql ≤ 65536) (hlo : lo ≤ 65536) (hfr : (from_ : Int) ≤ 9223372036854775807) (hsame : 0 < lo ↔ 0 < ql) :
    Calls Try.prog 29 #[ptr tb, ptr rb, .slice (some ⟨qb, 0, none⟩) ql qc, .int .i64 from_] w (KeepQ w rb qb ql qc R (newAt from_ A) qa) := by
  unfold ptr
  obtain ⟨hq, hR, hi, hr⟩ := ha
  go_enter Try.func29, Try.ntmps29
  go_wp2_with fail
  go_loopw [8] (fun i wr => ∃ k : Nat, from_ ≤ k ∧ (k ≤ ql ∨ k = from_) ∧ i = .int .i64 k ∧ Ats ql from_ R A k w wr) (fun i _ => ql - (intOf i).toNat)
  case atStart => exact ⟨from_, Nat.le_refl _, .inr rfl, rfl, Ats.start hR⟩
  case round =>
    obtain ⟨k, hfk, hkq, rfl, hat⟩ := hrel
    by_cases hlt : k < ql
    · have hst := hat.step hi hlt hfk
      have hrq := hat.1 k hlt
      have hqn : ∀ j, j < ql → qb ≠ R j := fun j hj => by
        obtain ⟨c, h1, _⟩ := hq
        exact ne_tag h1 (hR j hj) (by decide)
      have hqr := hq.fr hat.2 (fun ⟨j, hj, he⟩ => hqn j hj he)
      have hc := hqr.cell hlt
      have hc4 : wr.cell? ⟨R k, 4, none⟩ = some (.int .i64 (if from_ ≤ k ∧ k < k then (k : Int) else A k)) := by rw [cell_of hrq]; rfl
      have hc11 : wr.cell? ⟨R k, 11, none⟩ = some (.slice none 0 0) := by rw [cell_of hrq]; rfl
      have hf4 : wr.frozen? ⟨R k, 4, none⟩ = false := by simp [World.frozen?, show wr.heap[R k]? = _ from hrq]
      generalize (if from_ ≤ k ∧ k < k then (k : Int) else A k) = av at hc4
      unfold ptr at hc
      generalize R k = rk at hst hc hc4 hc11 hf4
      clear hq hR hr hi hat hrq hqr hqn
      go_wp2_with fail
      refine wp_loop_rounds 1 ?_
      rw [rounds_succ]
      go_wp2_with fail
      go_roundw
      case rel => exact ⟨k + 1, by omega, .inl (by omega), by go_num, hst⟩
      case measure => simp [intOf]; omega
    · have hat' := hat.done (by omega) hlt
      have hrn : ∀ j, j < ql → rb ≠ R j := fun j hj => ne_tag hr (hR j hj) (by decide)
      have hrr : Res wr rb (.slice ao lo co) qa wk := hr.fr hat'.2 (fun ⟨j, hj, he⟩ => hrn j hj he)
      have c11 := hrr.c11
      have c15 := hrr.c15
      have f11 := hrr.free 11
      have f15 := hrr.free 15
      have hfin : KeepQ w rb qb ql qc R (newAt from_ A) qa (.returned (.tuple #[])) ((wr.setCell ⟨rb, 15, none⟩ (.int .u64 0)).setCell ⟨rb, 11, none⟩ (.slice (some ⟨qb, 0, none⟩) ql qc)) := by
        have h1 := hat'.2.mono (T := Touch ql R rb (fun _ => False)) (fun b _ hb => .inl hb)
        refine ⟨rfl, ?_, (hrr.s15 0).s11 _, (h1.setCell _ (.inl (.inr (.inl rfl))) _).setCell _ (.inl (.inr (.inl rfl))) _⟩
        exact hat'.reqs.fr ((fr1 wr rb 15 _).trans (fr1 _ rb 11 _)) (fun j hj he => hrn j hj he.symm)
      have HF : Hid (KeepQ w rb qb ql qc R (newAt from_ A) qa (.returned (.tuple #[])) ((wr.setCell ⟨rb, 15, none⟩ (.int .u64 0)).setCell ⟨rb, 11, none⟩ (.slice (some ⟨qb, 0, none⟩) ql qc))) := hfin
      clear hq hR hr hi hat hrn hat' hrr hfin
      by_cases h0 : 0 < ql
      · have h1 := hsame.2 h0
        clear hsame
        go_wp2_with fail
        go_end0
        exact HF.out
      · have h1 : ¬ 0 < lo := fun hh => h0 (hsame.1 hh)
        clear hsame
        go_wp2_with fail
        go_end0
        exact HF.out

def AddQ (w : World) (tb rb qb ql qc : Nat) (R : Nat → Nat) (A' : Nat → Int) (base : Nat) (uv : Value) (n : Nat) (xs : List Value) (e : Ending) (w' : World) : Prop :=
  e = .returned (.tuple #[]) ∧ Reqs w' ql R A' ∧ Res w' rb (.slice (some ⟨qb, 0, none⟩) ql qc) n 0 ∧ (∃ v', Tab w' tb v' ∧ w'.ownsRow base 36 1 v' (n + 1) (xs ++ [ptr rb])) ∧ Fr (Touch ql R rb (fun b => b = tb ∨ uv.ownBlock = some b)) w w'

set_option maxRecDepth 100000 in
set_option maxHeartbeats 1000000 in
theorem setQueue_add (tb rb qb ql qc : Nat) (from_ : Nat) (R : Nat → Nat) (A : Nat → Int) (ao : Option Addr) (co : Nat) (qa wk : Int) (w : World) (base : Nat) (uv : Value) (n : Nat) (xs : List Value)
    (ha : Ask w rb qb ql R A (.slice ao 0 co) qa wk) (ht : Tab w tb uv) (ho : w.ownsRow base 36 1 uv n xs) (hb : base ≤ w.heap.size) (hn : n ≤ 100000) (hql : ql ≤ 65536) (hfr : (from_ : Int) ≤ 9223372036854775807) (h0 : 0 < ql) :
    Calls Try.prog 29 #[ptr tb, ptr rb, .slice (some ⟨qb, 0, none⟩) ql qc, .int .i64 from_] w (AddQ w tb rb qb ql qc R (newAt from_ A) base uv n xs) := by
  obtain ⟨ua, uc, rfl⟩ : ∃ ua uc, uv = .slice ua n uc := by
    rcases ho.2 with ⟨rfl, rfl⟩ | ⟨g, cap, cur, rfl, _⟩
    · exact ⟨_, _, rfl⟩
    · exact ⟨_, _, rfl⟩
  unfold ptr
  obtain ⟨hq, hR, hi, hr⟩ := ha
  go_enter Try.func29, Try.ntmps29
  go_wp2_with fail
  go_loopw [8] (fun i wr => ∃ k : Nat, from_ ≤ k ∧ (k ≤ ql ∨ k = from_) ∧ i = .int .i64 k ∧ Ats ql from_ R A k w wr) (fun i _ => ql - (intOf i).toNat)
  case atStart => exact ⟨from_, Nat.le_refl _, .inr rfl, rfl, Ats.start hR⟩
  case round =>
    obtain ⟨k, hfk, hkq, rfl, hat⟩ := hrel
    by_cases hlt : k < ql
    · have hst := hat.step hi hlt hfk
      have hrq := hat.1 k hlt
      have hqn : ∀ j, j < ql → qb ≠ R j := fun j hj => by
        obtain ⟨c, h1, _⟩ := hq
        exact ne_tag h1 (hR j hj) (by decide)
      have hqr := hq.fr hat.2 (fun ⟨j, hj, he⟩ => hqn j hj he)
      have hc := hqr.cell hlt
      have hc4 : wr.cell? ⟨R k, 4, none⟩ = some (.int .i64 (if from_ ≤ k ∧ k < k then (k : Int) else A k)) := by rw [cell_of hrq]; rfl
      have hc11 : wr.cell? ⟨R k, 11, none⟩ = some (.slice none 0 0) := by rw [cell_of hrq]; rfl
      have hf4 : wr.frozen? ⟨R k, 4, none⟩ = false := by simp [World.frozen?, show wr.heap[R k]? = _ from hrq]
      generalize (if from_ ≤ k ∧ k < k then (k : Int) else A k) = av at hc4
      unfold ptr at hc
      generalize R k = rk at hst hc hc4 hc11 hf4
      clear hq hR hr hi hat hrq hqr hqn ht ho
      go_wp2_with fail
      refine wp_loop_rounds 1 ?_
      rw [rounds_succ]
      go_wp2_with fail
      go_roundw
      case rel => exact ⟨k + 1, by omega, .inl (by omega), by go_num, hst⟩
      case measure => simp [intOf]; omega
    · have hat' := hat.done (by omega) hlt
      have hrn : ∀ j, j < ql → rb ≠ R j := fun j hj => ne_tag hr (hR j hj) (by decide)
      have hrr : Res wr rb (.slice ao 0 co) qa wk := hr.fr hat'.2 (fun ⟨j, hj, he⟩ => hrn j hj he)
      have c11 := hrr.c11
      have c15 := hrr.c15
      have f11 := hrr.free 11
      have f15 := hrr.free 15
      have f12 := hrr.free 12
      have c12 := hrr.c12
      have htn : ∀ j, j < ql → tb ≠ R j := fun j hj => by
        obtain ⟨c, h1, _⟩ := ht
        exact ne_tag h1 (hR j hj) (by decide)
      have htr : Tab wr tb (.slice ua n uc) := ht.fr hat'.2 (fun ⟨j, hj, he⟩ => htn j hj he)
      have hbt : rb ≠ tb := by
        obtain ⟨c, h1, _⟩ := htr
        exact ne_tag hrr h1 (by decide)
      have c40 := htr.cell
      have htl := htr.lt
      have hrl := hrr.lt
      have hor : wr.ownsRow base 36 1 (.slice ua n uc) n xs := own_fr ho hat'.2 (fun g hg ⟨j, hj, he⟩ => by
        obtain ⟨c, hc⟩ := own_tag ho hg
        exact ne_tag hc (hR j hj) (by decide) he)
      have hub : ∀ g, (Value.slice ua n uc).ownBlock = some g → g ≠ rb ∧ g ≠ tb := fun g hg => by
        obtain ⟨c, hc⟩ := own_tag hor hg
        obtain ⟨d, hd, _⟩ := htr
        exact ⟨ne_tag hc hrr (by decide), ne_tag hc hd (by decide)⟩
      have hf2 : Fr (fun x => x = rb) wr ((wr.setCell ⟨rb, 15, none⟩ (.int .u64 0)).setCell ⟨rb, 12, none⟩ (.int .i64 n)) := (fr1 wr rb 15 _).trans (fr1 _ rb 12 _)
      have hr2 : Res ((wr.setCell ⟨rb, 15, none⟩ (.int .u64 0)).setCell ⟨rb, 12, none⟩ (.int .i64 n)) rb (.slice ao 0 co) n 0 := (hrr.s15 0).s12 n
      have ht2 := htr.fr hf2 (fun e => hbt e.symm)
      have ho2 := own_fr hor hf2 (fun g hg => (hub g hg).1)
      have hbr := Nat.le_trans hb (Nat.le_trans hat'.2.size hf2.size)
      generalize hw2 : ((wr.setCell ⟨rb, 15, none⟩ (.int .u64 0)).setCell ⟨rb, 12, none⟩ (.int .i64 n)) = w2 at hf2 hr2 ht2 ho2 hbr
      obtain ⟨v', w3, hap, ho3, hf3⟩ := append38 w2 base _ n xs ho2 (by omega) hbr rb
      have hr3 := hr2.fr hf3 (fun e => (hub _ e).1 rfl)
      have ht3 := ht2.fr hf3 (fun e => (hub _ e).2 rfl)
      obtain ⟨ua', uc', rfl⟩ : ∃ ua' uc', v' = .slice ua' (n + 1) uc' := by
        rcases ho3.2 with ⟨_, hh⟩ | ⟨g, cap, cur, rfl, _⟩
        · omega
        · exact ⟨_, _, rfl⟩
      have hfin : AddQ w tb rb qb ql qc R (newAt from_ A) base (.slice ua n uc) n xs (.returned (.tuple #[])) ((w3.setCell ⟨tb, 7940, none⟩ (.slice ua' (n + 1) uc')).setCell ⟨rb, 11, none⟩ (.slice (some ⟨qb, 0, none⟩) ql qc)) := by
        have hf5 : Fr (fun x => x = rb ∨ x = tb) w3 ((w3.setCell ⟨tb, 7940, none⟩ (.slice ua' (n + 1) uc')).setCell ⟨rb, 11, none⟩ (.slice (some ⟨qb, 0, none⟩) ql qc)) :=
          ((fr1 w3 tb 7940 _).mono (fun b _ h => .inr h)).trans ((fr1 _ rb 11 _).mono (fun b _ h => .inl h))
        have hall : Fr (fun x => x = rb ∨ x = tb ∨ (Value.slice ua n uc).ownBlock = some x) wr ((w3.setCell ⟨tb, 7940, none⟩ (.slice ua' (n + 1) uc')).setCell ⟨rb, 11, none⟩ (.slice (some ⟨qb, 0, none⟩) ql qc)) :=
          (hf2.mono (fun b _ h => .inl h)).trans ((hf3.mono (fun b _ h => .inr (.inr h))).trans (hf5.mono (fun b _ h => by rcases h with h | h; exact .inl h; exact .inr (.inl h))))
        refine ⟨rfl, hat'.reqs.fr hall (fun j hj he => ?_), ?_, ⟨_, (ht3.set _).fr (fr1 _ rb 11 _) (fun e => hbt e.symm), own_fr ho3 hf5 (fun g hg he => ?_)⟩, ?_⟩
        · rcases he with he | he | he
          · exact hrn j hj he.symm
          · exact htn j hj he.symm
          · obtain ⟨c, hc⟩ := own_tag hor he
            exact ne_tag hc (hat'.reqs j hj) (by decide) rfl
        · exact (hr3.fr (fr1 w3 tb 7940 _) hbt).s11 _
        · obtain ⟨c, hc⟩ := own_tag ho3 hg
          obtain ⟨d, hd, _⟩ := ht3
          rcases he with he | he
          · exact ne_tag hc hr3 (by decide) he
          · exact ne_tag hc hd (by decide) he
        · refine (hat'.2.mono (fun b _ hb => .inl hb)).trans (hall.mono (fun b _ hb => ?_))
          rcases hb with hb | hb | hb
          · exact .inr (.inl hb)
          · exact .inr (.inr (.inl hb))
          · exact .inr (.inr (.inr hb))
      have HF : Hid (AddQ w tb rb qb ql qc R (newAt from_ A) base (.slice ua n uc) n xs (.returned (.tuple #[])) ((w3.setCell ⟨tb, 7940, none⟩ (.slice ua' (n + 1) uc')).setCell ⟨rb, 11, none⟩ (.slice (some ⟨qb, 0, none⟩) ql qc))) := hfin
      have c3 := hr3.c11
      have f3 := hr3.free 11
      have t3 := ht3.cell
      have g3 := ht3.free 7940
      rw [← hw2] at hap
      have hz : ((wr.setCell ⟨rb, 15, none⟩ (.int .u64 0)).setCell ⟨rb, 12, none⟩ (.int .i64 n)).heap.size = wr.heap.size := by simp [World.setCell]
      rw [hz] at hap
      simp only [ptr] at hap
      clear hz
      clear hq hR hr hi hat hrn hat' hrr hfin ho3 hr3 ht3 hf3 ho2 ht2 hr2 hf2 hub hor htr htn ht ho hb hbr hw2
      have HAP : Hid _ := hap
      clear hap
      go_wp2_with (at_builtin; refine wpList_append_eq rfl (.tmp 82) (.tmp 84) 38 38 rfl _ _ _ _ rfl rfl HAP.out ?_)
      go_end0
      exact HF.out

theorem own_get {w : World} {base : Nat} {ub n uc : Nat} {xs : List Value} (h : w.ownsRow base 36 1 (.slice (some ⟨ub, 0, none⟩) n uc) n xs) :
    ∃ cur, base ≤ ub ∧ w.heap[ub]? = some (.cells cur 36 (0, 0)) ∧ n ≤ uc ∧ uc ≤ maxLen ∧ cur.size = uc ∧ cur.toList.take n = xs := by
  rcases h.2 with ⟨hh, _⟩ | ⟨g, cap, cur, hh, h1, h2, h3, h4, h5, h6⟩
  · cases hh
  · simp at hh
    obtain ⟨rfl, rfl⟩ := hh
    exact ⟨cur, h1, h2, h3, h4, by simpa using h5, by simpa using h6⟩

def DropQ (w : World) (tb rb qb qc : Nat) (p m : Nat) (mq : Value) (mk : Int) (base ub uc : Nat) (L : List Nat) (e : Ending) (w' : World) : Prop :=
  e = .returned (.tuple #[]) ∧ Res w' rb (.slice (some ⟨qb, 0, none⟩) 0 qc) p 0 ∧ (m ≠ rb → Res w' m mq p mk) ∧ Tab w' tb (.slice (some ⟨ub, 0, none⟩) (L.length - 1) uc) ∧
  w'.ownsRow base 36 1 (.slice (some ⟨ub, 0, none⟩) (L.length - 1) uc) (L.length - 1) (((L.set p m).take (L.length - 1)).map ptr) ∧ Fr (fun b => b = rb ∨ b = tb ∨ b = ub ∨ b = m) w w'

theorem drop_list (cur : Array Value) (L : List Nat) (p m : Nat) (h : cur.toList.take L.length = L.map ptr) (hs : L.length ≤ cur.size) :
    ((cur.setIfInBounds p (ptr m)).setIfInBounds (L.length - 1) (.pointer none)).toList.take (L.length - 1) = ((L.set p m).take (L.length - 1)).map ptr := by
  apply List.ext_getElem?
  intro i
  have hi : i < L.length → cur.toList[i]? = (L.map ptr)[i]? := fun hlt => by
    rw [← h, List.getElem?_take, if_pos hlt]
  by_cases hlt : i < L.length - 1
  · rw [List.getElem?_take, if_pos hlt, List.map_take, List.getElem?_take, if_pos hlt]
    simp only [Array.toList_setIfInBounds, List.map_set]
    rw [List.getElem?_set_ne (by omega)]
    by_cases hp : p = i
    · subst hp
      rw [List.getElem?_set_self (by simp; omega), List.getElem?_set_self (by simp; omega)]
    · rw [List.getElem?_set_ne hp, List.getElem?_set_ne hp, hi (by omega)]
  · rw [List.getElem?_eq_none (by simp; omega), List.getElem?_eq_none (by simp; omega)]

theorem own_drop {w : World} {base ub uc : Nat} {L : List Nat} (h : w.ownsRow base 36 1 (.slice (some ⟨ub, 0, none⟩) L.length uc) L.length (L.map ptr)) (p m : Nat) :
    ((w.setCell ⟨ub, p, none⟩ (ptr m)).setCell ⟨ub, L.length - 1, none⟩ (.pointer none)).ownsRow base 36 1 (.slice (some ⟨ub, 0, none⟩) (L.length - 1) uc) (L.length - 1) (((L.set p m).take (L.length - 1)).map ptr) := by
  obtain ⟨cur, h1, h2, h3, h4, h5, h6⟩ := own_get h
  have h7 := heap_setCell (heap_setCell h2 p (ptr m)) (L.length - 1) (.pointer none)
  refine ⟨by simp, .inr ⟨ub, uc, _, rfl, h1, h7, by omega, h4, by simpa using h5, ?_⟩⟩
  rw [Nat.mul_one]
  exact drop_list cur L p m h6 (by omega)

theorem drop_fin {w wr : World} {tb rb qb qc p m : Nat} {oq mq : Value} {ma mk wk : Int} {base ub uc : Nat} {L : List Nat} (hb : Below w.heap.size w wr) (hr : Res wr rb oq p wk) (hm : Res wr m mq ma mk) (ht : Tab wr tb (.slice (some ⟨ub, 0, none⟩) L.length uc))
    (ho : wr.ownsRow base 36 1 (.slice (some ⟨ub, 0, none⟩) L.length uc) L.length (L.map ptr)) :
    DropQ w tb rb qb qc p m mq mk base ub uc L (.returned (.tuple #[])) ((((((wr.setCell ⟨rb, 15, none⟩ (.int .u64 0)).setCell ⟨m, 12, none⟩ (.int .i64 p)).setCell ⟨ub, p, none⟩ (ptr m)).setCell ⟨ub, L.length - 1, none⟩ (.pointer none)).setCell ⟨tb, 7940, none⟩ (.slice (some ⟨ub, 0, none⟩) (L.length - 1) uc)).setCell ⟨rb, 11, none⟩ (.slice (some ⟨qb, 0, none⟩) 0 qc)).drew := by
  obtain ⟨cur, h1, h2, h3, h4, h5, h6⟩ := own_get ho
  have hbt : rb ≠ tb := by obtain ⟨c, h1, _⟩ := ht; exact ne_tag hr h1 (by decide)
  have hbu : rb ≠ ub := ne_tag hr h2 (by decide)
  have hmt : m ≠ tb := by obtain ⟨c, h1, _⟩ := ht; exact ne_tag hm h1 (by decide)
  have hmu : m ≠ ub := ne_tag hm h2 (by decide)
  have htu : tb ≠ ub := by obtain ⟨c, h1, _⟩ := ht; exact ne_tag h1 h2 (by decide)
  have f1 := fr1 wr rb 15 (.int .u64 0)
  have r1 := hr.s15 0
  generalize hs1 : wr.setCell ⟨rb, 15, none⟩ (.int .u64 0) = s1 at f1 r1 ⊢
  have t1 := ht.fr f1 (fun e => hbt e.symm)
  have o1 := own_fr ho f1 (fun g hg e => by cases hg; exact hbu e.symm)
  have f2 := fr1 s1 m 12 (.int .i64 p)
  have r2 : Res (s1.setCell ⟨m, 12, none⟩ (.int .i64 p)) rb oq p 0 := by
    by_cases e : m = rb
    · subst e
      exact r1.s12 p
    · exact r1.fr f2 (fun h => e h.symm)
  have m2 : m ≠ rb → Res (s1.setCell ⟨m, 12, none⟩ (.int .i64 p)) m mq p mk := fun e => by
    have := hm.fr f1 e
    exact this.s12 p
  generalize hs2 : s1.setCell ⟨m, 12, none⟩ (.int .i64 p) = s2 at f2 r2 m2 ⊢
  have t2 := t1.fr f2 (fun e => hmt e.symm)
  have o2 := own_fr o1 f2 (fun g hg e => by cases hg; exact hmu e.symm)
  have f3 := (fr1 s2 ub p (ptr m)).trans (fr1 _ ub (L.length - 1) (.pointer none))
  have o3 := own_drop o2 p m
  generalize hs3 : (s2.setCell ⟨ub, p, none⟩ (ptr m)).setCell ⟨ub, L.length - 1, none⟩ (.pointer none) = s3 at f3 o3 ⊢
  have t3 := t2.fr f3 htu
  have r3 := r2.fr f3 hbu
  have m3 : m ≠ rb → Res s3 m mq p mk := fun e => (m2 e).fr f3 hmu
  have f4 := fr1 s3 tb 7940 (.slice (some ⟨ub, 0, none⟩) (L.length - 1) uc)
  have t4 := t3.set (.slice (some ⟨ub, 0, none⟩) (L.length - 1) uc)
  generalize hs4 : s3.setCell ⟨tb, 7940, none⟩ (.slice (some ⟨ub, 0, none⟩) (L.length - 1) uc) = s4 at f4 t4 ⊢
  have r4 := r3.fr f4 hbt
  have m4 : m ≠ rb → Res s4 m mq p mk := fun e => (m3 e).fr f4 hmt
  have o4 := own_fr o3 f4 (fun g hg e => by cases hg; exact htu e.symm)
  have f5 := (fr1 s4 rb 11 (.slice (some ⟨qb, 0, none⟩) 0 qc)).drew
  have r5 := r4.s11 (.slice (some ⟨qb, 0, none⟩) 0 qc)
  refine ⟨rfl, r5, fun e => (m4 e).fr f5 e, t4.fr f5 (fun e => hbt e.symm), own_fr o4 f5 (fun g hg e => by cases hg; exact hbu e.symm), ?_⟩
  have g1 : Fr (fun b => b = rb ∨ b = tb ∨ b = ub ∨ b = m) wr s1 := f1.mono (fun b _ h => .inl h)
  have g2 : Fr (fun b => b = rb ∨ b = tb ∨ b = ub ∨ b = m) s1 s2 := f2.mono (fun b _ h => .inr (.inr (.inr h)))
  have g3 : Fr (fun b => b = rb ∨ b = tb ∨ b = ub ∨ b = m) s2 s3 := f3.mono (fun b _ h => .inr (.inr (.inl h)))
  have g4 : Fr (fun b => b = rb ∨ b = tb ∨ b = ub ∨ b = m) s3 s4 := f4.mono (fun b _ h => .inr (.inl h))
  have g5 := f5.mono (T := fun b => b = rb ∨ b = tb ∨ b = ub ∨ b = m) (fun b _ h => .inl h)
  exact (Fr.of_below hb).trans (g1.trans (g2.trans (g3.trans (g4.trans g5))))

set_option maxRecDepth 100000 in
set_option maxHeartbeats 1000000 in
theorem setQueue_drop (tb rb qb qc : Nat) (from_ : Nat) (R : Nat → Nat) (A : Nat → Int) (ao : Option Addr) (lo co : Nat) (p : Nat) (wk : Int) (w : World) (base ub uc : Nat) (L : List Nat) (m : Nat) (mq : Value) (ma mk : Int)
    (ha : Ask w rb qb 0 R A (.slice ao lo co) p wk) (ht : Tab w tb (.slice (some ⟨ub, 0, none⟩) L.length uc)) (ho : w.ownsRow base 36 1 (.slice (some ⟨ub, 0, none⟩) L.length uc) L.length (L.map ptr)) (hm : Res w m mq ma mk)
    (hn : L.length ≤ 100000) (hp : p < L.length) (hpr : L[p]? = some rb) (hpm : L[L.length - 1]? = some m) (hlo : lo ≤ 65536) (h0 : 0 < lo) (hne : (m = rb ∧ p = L.length - 1) ∨ (m ≠ rb ∧ p < L.length - 1)) (hfr : (from_ : Int) ≤ 9223372036854775807) :
    Calls Try.prog 29 #[ptr tb, ptr rb, .slice (some ⟨qb, 0, none⟩) 0 qc, .int .i64 from_] w (DropQ w tb rb qb qc p m mq mk base ub uc L) := by
  unfold ptr
  obtain ⟨hq, hR, hi, hr⟩ := ha
  go_enter Try.func29, Try.ntmps29
  go_wp2_with fail
  go_loopw [8] (fun i wr => ∃ k : Nat, from_ ≤ k ∧ (k ≤ 0 ∨ k = from_) ∧ i = .int .i64 k ∧ Ats 0 from_ R A k w wr) (fun i _ => 0 - (intOf i).toNat)
  case atStart => exact ⟨from_, Nat.le_refl _, .inr rfl, rfl, Ats.start hR⟩
  case round =>
    obtain ⟨k, hfk, hkq, rfl, hat⟩ := hrel
    by_cases hlt : k < 0
    · exact absurd hlt (by omega)
    · have hat' := hat.done (by omega) hlt
      have hrn : ∀ j, j < 0 → rb ≠ R j := fun j hj => ne_tag hr (hR j hj) (by decide)
      have hrr : Res wr rb (.slice ao lo co) p wk := hr.fr hat'.2 (fun ⟨j, hj, he⟩ => hrn j hj he)
      have c11 := hrr.c11
      have c15 := hrr.c15
      have f11 := hrr.free 11
      have f15 := hrr.free 15
      have f12 := hrr.free 12
      have c12 := hrr.c12
      have hno : ∀ b, ¬ (∃ j, j < 0 ∧ b = R j) := fun b ⟨j, hj, _⟩ => by omega
      have htr := ht.fr hat'.2 (hno tb)
      have hor := own_fr ho hat'.2 (fun g _ => hno g)
      have hmr := hm.fr hat'.2 (hno m)
      have hfw : Below w.heap.size w wr := hat'.2.below (Nat.le_refl _) (fun b _ => hno b)
      obtain ⟨cur, hbu, hcu, hnu, hum, hcs, htk⟩ := own_get hor
      have hbt : rb ≠ tb := by
        obtain ⟨c, h1, _⟩ := htr
        exact ne_tag hrr h1 (by decide)
      have hbu' : rb ≠ ub := ne_tag hrr hcu (by decide)
      have hmt : m ≠ tb := by
        obtain ⟨c, h1, _⟩ := htr
        exact ne_tag hmr h1 (by decide)
      have hmu : m ≠ ub := ne_tag hmr hcu (by decide)
      have htu : tb ≠ ub := by
        obtain ⟨c, h1, _⟩ := htr
        exact ne_tag h1 hcu (by decide)
      have c40 := htr.cell
      have g40 := htr.free 7940
      have htl := htr.lt
      have hrl := hrr.lt
      have hml := hmr.lt
      have hul := heap_lt hcu
      have m12 := hmr.c12
      have n12 := hmr.free 12
      have hget : ∀ j, j < L.length → wr.cell? ⟨ub, j, none⟩ = (L[j]?).map ptr := fun j hj => by
        rw [cell_of hcu]
        have : (cur.toList.take L.length)[j]? = (L.map ptr)[j]? := by rw [htk]
        rw [List.getElem?_take, if_pos hj] at this
        simpa using this
      have u0 : wr.cell? ⟨ub, L.length - 1, none⟩ = some (ptr m) := by rw [hget _ (by omega), hpm]; rfl
      have u1 : wr.cell? ⟨ub, p, none⟩ = some (ptr rb) := by rw [hget _ hp, hpr]; rfl
      have gu : ∀ j, wr.frozen? ⟨ub, j, none⟩ = false := fun j => by simp [World.frozen?, hcu]
      have gu0 := gu (L.length - 1)
      have gu1 := gu p
      unfold ptr at u0 u1
      have HFW : Hid (Below w.heap.size w wr) := hfw
      have HOR : Hid (wr.ownsRow base 36 1 (.slice (some ⟨ub, 0, none⟩) L.length uc) L.length (L.map ptr)) := hor
      have HRR : Hid (Res wr rb (.slice ao lo co) p wk) := hrr
      have HMR : Hid (Res wr m mq ma mk) := hmr
      have HTR : Hid (Tab wr tb (.slice (some ⟨ub, 0, none⟩) L.length uc)) := htr
      have hnu' := hnu
      clear hq hR hr hi hat hrn hat' ht ho hm gu hget hcs htk hcu hbu hor hfw htr hnu hum hno
      rcases hne with ⟨rfl, hpn⟩ | ⟨hmr', hlt1⟩
      · obtain ⟨rfl, rfl, rfl⟩ := hrr.at hmr rfl
        clear hrr hmr
        have hpn' : (p : Int) = (L.length : Int) - 1 := by omega
        generalize hnn : L.length = n at *
        have HN : Hid (L.length = n) := hnn
        clear hnn
        have HPN : Hid (p = n - 1) := hpn
        clear hpn
        go_wp2_with fail
        go_region
        go_wp2_with fail
        go_end0
        have e := drop_fin (qb := qb) (qc := qc) HFW.out HRR.out HMR.out (by rw [HN.out]; exact HTR.out) (by rw [HN.out]; exact HOR.out)
        rw [HN.out, ← HPN.out, hpn'] at e
        rw [← HPN.out]
        exact e
      · clear hrr hmr
        generalize hnn : L.length = n at *
        have HN : Hid (L.length = n) := hnn
        clear hnn
        go_wp2_with fail
        go_region
        go_wp2_with fail
        go_end0
        have e := drop_fin (qb := qb) (qc := qc) HFW.out HRR.out HMR.out (by rw [HN.out]; exact HTR.out) (by rw [HN.out]; exact HOR.out)
        rw [HN.out] at e
        exact e
end Go.Proofs.Qxb6612390a
