/-
  The laws over setQueue: the queues and the other resources being made.
-/
import Derived.Test.Qxb6612390aReaders
namespace Go.Proofs.Qxb6612390a
open Go.ChangeShapes Go.WideShapes Go.ChangeAt Go.RowKit
set_option linter.unusedVariables false

theorem info34' : (Try.prog.info? 34).map (fun i => (i.zero, i.size, i.bytes)) = some (some (.pointer none), 1, 8) := by kernel_rfl
theorem mk33 (n : Nat) (hn : n ≤ 100000) (W : World) : (Instr.makeSlice 33 (.int .i64 (n : Int)) (.int .i64 (n : Int))).run Try.prog W = .ok (.slice (some ⟨W.heap.size, 0, none⟩) n n) (W.alloc (.cells (madeCells #[.pointer none] n) 34)) := by
  obtain ⟨i0, hi, hz0, hz1, hz2⟩ := info_parts info34'
  have := run_make (P := Try.prog) (w := W) 33 34 i0 _ Try.underlying33 hi hz0 .i64 .i64 (n : Int) (n : Int) (by omega) (by omega) (by rw [hz2]; omega) (by omega)
  rw [this, hz1]
  simp [Value.cells]
theorem mk38 (l n : Nat) (hl : l ≤ n) (hn : n ≤ 100000) (W : World) : (Instr.makeSlice 38 (.int .i64 (l : Int)) (.int .i64 (n : Int))).run Try.prog W = .ok (.slice (some ⟨W.heap.size, 0, none⟩) l n) (W.alloc (.cells (madeCells #[.pointer none] n) 36)) := by
  obtain ⟨i0, hi, hz0, hz1, hz2⟩ := info_parts info36
  have := run_make (P := Try.prog) (w := W) 38 36 i0 _ Try.underlying38 hi hz0 .i64 .i64 (l : Int) (n : Int) (by omega) (by omega) (by rw [hz2]; omega) (by omega)
  rw [this, hz1]
  simp [Value.cells]

/-- A queue being made: its array at qb, the k requests that are made behind it, one a block. -/
structure MadeQ (qb n : Nat) (Z : Nat → Int) (k : Nat) (w0 wr : World) : Prop where
  bel : Below qb w0 wr
  size : wr.heap.size = qb + 1 + k
  arr : ∃ c, wr.heap[qb]? = some (.cells c 34 (0, 0)) ∧ c.size = n ∧ ∀ j, j < k → c[j]? = some (ptr (qb + 1 + j))
  req : ∀ j, j < k → Req wr (qb + 1 + j) (Z j)

theorem MadeQ.start (n : Nat) (Z : Nat → Int) (w0 : World) : MadeQ w0.heap.size n Z 0 w0 (w0.alloc (.cells (madeCells #[.pointer none] n) 34)) :=
  ⟨(Below.refl _ _).alloc (Nat.le_refl _) _, size_alloc _ _, ⟨_, heap_new _ _, size_madeCells _ _, fun j hj => by omega⟩, fun j hj => by omega⟩
theorem MadeQ.step {qb n : Nat} {Z : Nat → Int} {k : Nat} {w0 wr : World} (h : MadeQ qb n Z k w0 wr) (hk : k < n) :
    MadeQ qb n Z (k + 1) w0 ((wr.setCell ⟨qb, k, none⟩ (ptr wr.heap.size)).alloc (.cells (rqC (Z k)) 78)) := by
  obtain ⟨h1, h2, ⟨c, hc, hs, hcj⟩, h4⟩ := h
  have hf := (fr1 wr qb k (ptr wr.heap.size)).alloc (.cells (rqC (Z k)) 78)
  have hz : (wr.setCell ⟨qb, k, none⟩ (ptr wr.heap.size)).heap.size = wr.heap.size := by simp [World.setCell]
  have hn := heap_new (wr.setCell ⟨qb, k, none⟩ (ptr wr.heap.size)) (.cells (rqC (Z k)) 78)
  rw [hz] at hn
  refine ⟨h1.trans (hf.below (by omega) (fun b hb => by omega)), by rw [size_alloc, hz, h2]; omega, ⟨_, heap_old (heap_setCell hc k _) _, by simpa using hs, fun j hj => ?_⟩, fun j hj => ?_⟩
  · rw [Array.getElem?_setIfInBounds]
    by_cases e : k = j
    · subst e
      simp [hs, hk, h2]
    · rw [if_neg e]
      exact hcj j (by omega)
  · by_cases e : j = k
    · subst e
      rw [show qb + 1 + j = wr.heap.size from h2.symm]
      exact hn
    · exact (h4 j (by omega)).fr hf (by omega)
theorem MadeQ.below {qb n : Nat} {Z : Nat → Int} {w0 wr w' : World} (h : MadeQ qb n Z n w0 wr) (hb : Below wr.heap.size wr w') : Arr w' 34 qb n (fun j => qb + 1 + j) ∧ Reqs w' n (fun j => qb + 1 + j) Z := by
  obtain ⟨h1, h2, ⟨c, hc, hs, hcj⟩, h4⟩ := h
  refine ⟨⟨c, (hb.block qb (heap_lt hc)).trans hc, hcj⟩, fun j hj => ?_⟩
  have := h4 j hj
  exact (hb.block _ (heap_lt this)).trans this
theorem inj_add (n q : Nat) : Inj n (fun j => q + 1 + j) := fun i j _ _ h => by simp at h; omega

/-- The list with the resource put in. -/
def ins (was : Bool) (pos rb : Nat) (Ol : List Nat) : List Nat := if was = true ∧ pos < Ol.length then Ol.take pos ++ rb :: Ol.drop pos else Ol
def insM (was : Bool) (pos rb : Nat) (Ol : List Nat) : List Nat := if was = true ∧ pos ≤ Ol.length then Ol.take pos ++ rb :: Ol.drop pos else Ol
theorem insM_hit {pos rb : Nat} {Ol : List Nat} (h : Ol.length = pos) : insM true pos rb Ol = ins true pos rb Ol ++ [rb] := by
  unfold insM ins
  have h1 : true = true ∧ pos ≤ Ol.length := ⟨rfl, by omega⟩
  have h2 : ¬ (true = true ∧ pos < Ol.length) := by omega
  rw [if_pos h1, if_neg h2, List.take_of_length_le (by omega), List.drop_of_length_le (by omega)]
theorem insM_miss {was : Bool} {pos rb : Nat} {Ol : List Nat} (h : ¬ (was = true ∧ Ol.length = pos)) : insM was pos rb Ol = ins was pos rb Ol := by
  unfold insM ins
  by_cases hc : was = true ∧ pos < Ol.length
  · have h1 : was = true ∧ pos ≤ Ol.length := ⟨hc.1, by omega⟩
    rw [if_pos hc, if_pos h1]
  · have h1 : ¬ (was = true ∧ pos ≤ Ol.length) := fun hh => hc ⟨hh.1, Nat.lt_of_le_of_ne hh.2 (fun e => h ⟨hh.1, e.symm⟩)⟩
    rw [if_neg hc, if_neg h1]
theorem ins_snoc (was : Bool) (pos rb : Nat) (Ol : List Nat) (x : Nat) : ins was pos rb (Ol ++ [x]) = insM was pos rb Ol ++ [x] := by
  unfold insM ins
  by_cases hc : was = true ∧ pos ≤ Ol.length
  · have h1 : was = true ∧ pos < (Ol ++ [x]).length := ⟨hc.1, by simp; omega⟩
    rw [if_pos hc, if_pos h1, List.take_append_of_le_length hc.2, List.drop_append_of_le_length hc.2]
    simp
  · have h1 : ¬ (was = true ∧ pos < (Ol ++ [x]).length) := fun hh => hc ⟨hh.1, by have := hh.2; simp at this; omega⟩
    rw [if_neg hc, if_neg h1]

/-- The others being made. -/
structure Oth (rb o0 n pos : Nat) (was : Bool) (w2 : World) (Ol : List Nat) (Lq : List Nat) (uv : Value) (wr : World) : Prop where
  bel : Below (rb + 1) w2 wr
  arr : ∃ c, wr.heap[o0]? = some (.cells c 36 (0, 0)) ∧ c.size = n ∧ ∀ j, j < Ol.length → c[j]? = (Ol[j]?).map ptr
  own : wr.ownsRow (o0 + 1) 36 1 uv Lq.length (Lq.map ptr)
  res : ∀ j b, Ol[j]? = some b → ∃ a l c, Res wr b (.slice a l c) (if was = true ∧ pos ≤ j then (j : Int) + 1 else j) 0
  nod : Ol.Nodup
  gt : ∀ b ∈ Ol, rb < b

theorem Oth.fr {rb o0 n pos : Nat} {was : Bool} {w2 : World} {Ol Lq : List Nat} {uv : Value} {wr w' : World} (h : Oth rb o0 n pos was w2 Ol Lq uv wr) (hsz : rb + 1 ≤ w2.heap.size) (hb : Below wr.heap.size wr w') : Oth rb o0 n pos was w2 Ol Lq uv w' := by
  obtain ⟨h1, ⟨c, hc, hs, hcj⟩, h3, h4, h5, h6⟩ := h
  have hf : Fr (fun _ => False) wr w' := Fr.of_below hb
  refine ⟨h1.trans (hb.mono (by have := h1.size; omega)), ⟨c, (hb.block o0 (heap_lt hc)).trans hc, hs, hcj⟩, own_fr h3 hf (fun _ _ h => h), fun j b hj => ?_, h5, h6⟩
  obtain ⟨a, l, c, hr⟩ := h4 j b hj
  exact ⟨a, l, c, hr.fr hf (fun h => h)⟩

/-- An append onto the queued list. -/
theorem Oth.push {rb o0 n pos : Nat} {was : Bool} {w2 : World} {Ol Lq : List Nat} {uv v' : Value} {wr w' : World} {x : Nat} (h : Oth rb o0 n pos was w2 Ol Lq uv wr) (hsz : rb + 1 ≤ w2.heap.size) (ho : rb < o0) (hf : Fr (fun b => uv.ownBlock = some b) wr w') (hown : w'.ownsRow (o0 + 1) 36 1 v' (Lq.length + 1) (Lq.map ptr ++ [ptr x])) :
    Oth rb o0 n pos was w2 Ol (Lq ++ [x]) v' w' := by
  obtain ⟨h1, ⟨c, hc, hs, hcj⟩, h3, h4, h5, h6⟩ := h
  have hub : ∀ g, uv.ownBlock = some g → o0 + 1 ≤ g := fun g hg => (h3.lt g hg).1
  refine ⟨h1.trans (hf.below (by have := h1.size; omega) (fun b hb he => by have := hub b he; omega)), ⟨c, (hf.block o0 (heap_lt hc) (fun he => by have := hub o0 he; omega)).trans hc, hs, hcj⟩, by simpa using hown, fun j b hj => ?_, h5, h6⟩
  obtain ⟨a, l, c', hr⟩ := h4 j b hj
  refine ⟨a, l, c', hr.fr hf (fun he => ?_)⟩
  obtain ⟨d, hd⟩ := own_tag h3 he
  exact ne_tag hr hd (by decide) rfl
/-- One other more: its block lies at the heap's end. -/
theorem Oth.more {rb o0 n pos : Nat} {was : Bool} {w2 : World} {Ol Lq : List Nat} {uv : Value} {wr : World} (h : Oth rb o0 n pos was w2 Ol Lq uv wr) (hsz : rb + 1 ≤ w2.heap.size) (ho : rb < o0) (hk : Ol.length < n) (a : Option Addr) (l c : Nat) :
    Oth rb o0 n pos was w2 (Ol ++ [wr.heap.size]) Lq uv ((wr.setCell ⟨o0, Ol.length, none⟩ (ptr wr.heap.size)).alloc (.cells (rsC (.slice a l c) (if was = true ∧ pos ≤ Ol.length then (Ol.length : Int) + 1 else Ol.length) 0) 92)) := by
  obtain ⟨h1, ⟨d, hd, hs, hdj⟩, h3, h4, h5, h6⟩ := h
  have hf := (fr1 wr o0 Ol.length (ptr wr.heap.size)).alloc (.cells (rsC (.slice a l c) (if was = true ∧ pos ≤ Ol.length then (Ol.length : Int) + 1 else Ol.length) 0) 92)
  have hz : (wr.setCell ⟨o0, Ol.length, none⟩ (ptr wr.heap.size)).heap.size = wr.heap.size := by simp [World.setCell]
  have hn := heap_new (wr.setCell ⟨o0, Ol.length, none⟩ (ptr wr.heap.size)) (.cells (rsC (.slice a l c) (if was = true ∧ pos ≤ Ol.length then (Ol.length : Int) + 1 else Ol.length) 0) 92)
  rw [hz] at hn
  have hlt : ∀ b ∈ Ol, b < wr.heap.size := fun b hb => by
    obtain ⟨j, hj, rfl⟩ := List.mem_iff_getElem.1 hb
    obtain ⟨a, l, c, hr⟩ := h4 j _ (List.getElem?_eq_getElem hj)
    exact hr.lt
  have hne : ∀ g, uv.ownBlock = some g → g ≠ o0 := fun g hg => by have := (h3.lt g hg).1; omega
  refine ⟨h1.trans (hf.below (by have := h1.size; omega) (fun b hb => by omega)), ⟨_, heap_old (heap_setCell hd _ _) _, by simpa using hs, fun j hj => ?_⟩, own_fr h3 hf (fun g hg e => hne g hg e), fun j b hj => ?_, ?_, ?_⟩
  · rw [Array.getElem?_setIfInBounds]
    by_cases e : Ol.length = j
    · subst e
      simp [hs, hk]
    · rw [if_neg e, hdj j (by simp at hj; omega), List.getElem?_append_left (by simp at hj; omega)]
  · by_cases hjl : j < Ol.length
    · rw [List.getElem?_append_left hjl] at hj
      obtain ⟨a', l', c', hr⟩ := h4 j b hj
      exact ⟨a', l', c', hr.fr hf (fun e => ne_tag hr hd (by decide) e)⟩
    · have hje : j = Ol.length := by
        have := (List.getElem?_eq_some_iff.1 hj).1
        simp at this
        omega
      subst hje
      simp at hj
      subst hj
      exact ⟨a, l, c, hn⟩
  · rw [List.nodup_append]
    refine ⟨h5, by simp, fun x hx y hy => ?_⟩
    simp at hy
    subst hy
    have := hlt x hx
    omega
  · intro b hb
    rw [List.mem_append] at hb
    rcases hb with hb | hb
    · exact h6 b hb
    · simp at hb
      subst hb
      have := h1.size
      omega
end Go.Proofs.Qxb6612390a
