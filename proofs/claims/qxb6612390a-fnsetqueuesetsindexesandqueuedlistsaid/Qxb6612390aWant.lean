/-
  The list that the law wants, being made.
-/
import Derived.Test.Qxb6612390aAfter
namespace Go.Proofs.Qxb6612390a.fnSetQueueSetsIndexesAndQueuedList
open Go.ChangeShapes Go.WideShapes Go.ChangeAt Go.RowKit
set_option linter.unusedVariables false

theorem After.below {w : World} {lo : Nat} {Z0 : Nat → Int} {rb pos o0 n : Nat} {was is_ : Bool} {Ol : List Nat} {tb nb la from_ : Nat} {Z1 : Nat → Int} {w7 w8 : World} (h : After w lo Z0 rb pos o0 n was is_ Ol tb nb la from_ Z1 w7) (hb : Below w7.heap.size w7 w8) : After w lo Z0 rb pos o0 n was is_ Ol tb nb la from_ Z1 w8 := by
  have hf : Fr (fun _ => False) w7 w8 := Fr.of_below hb
  obtain ⟨h1, h2, h3, h4, h5, ⟨ua, uc, h6, h7⟩, h8, ⟨c, h9, h10⟩, h11⟩ := h
  refine ⟨h1.fr hf (fun h => h), h2.fr hf (fun _ _ h => h), h3.fr hf (fun h => h), h4.fr hf (fun _ _ h => h), h5.fr hf (fun h => h), ⟨ua, uc, h6.fr hf (fun h => h), own_fr h7 hf (fun _ _ h => h)⟩, fun j b hj => ?_, ⟨c, (hb.block _ (heap_lt h9)).trans h9, h10⟩, h11.trans (hb.mono h11.size)⟩
  obtain ⟨q, k, hr⟩ := h8 j b hj
  exact ⟨q, k, hr.fr hf (fun h => h)⟩

/-- The list that is wanted, being made. -/
def Wnt (w8 : World) (L : List Nat) (v : Value) (wx : World) : Prop :=
  (∃ va vc, v = .slice va L.length vc) ∧ wx.ownsRow w8.heap.size 36 1 v L.length (L.map ptr) ∧ Below w8.heap.size w8 wx

theorem Wnt.start (w8 : World) (n : Nat) (hn : n ≤ 100000) : Wnt w8 [] (.slice (some ⟨w8.heap.size, 0, none⟩) 0 n) (w8.alloc (.cells (madeCells #[.pointer none] n) 36)) :=
  ⟨⟨_, _, rfl⟩, World.ownsRow_made (base := w8.heap.size) (e := 36) (size := 1) w8 (madeCells #[.pointer none] n) n (Nat.le_refl _) (by unfold maxLen; omega) (by rw [size_madeCells]; omega), (Below.refl _ _).alloc (Nat.le_refl _) _⟩

theorem Wnt.grow {w8 w wp w' : World} {L ys : List Nat} {v v' : Value} (h : Wnt w8 L v w) (hp : Below w8.heap.size w wp) (h1 : w'.ownsRow w8.heap.size 36 1 v' (L.length + ys.length) (L.map ptr ++ ys.map ptr)) (h2 : wp.grownBy w' v.ownBlock) : Wnt w8 (L ++ ys) v' w' := by
  have hb : Below w8.heap.size wp w' := (fr_grown h2).below (by have := h.2.2.size; have := hp.size; omega) (fun b hb e => by have := (h.2.1.lt b e).1; omega)
  have e : (L ++ ys).length = L.length + ys.length := by simp
  refine ⟨?_, by rw [e, List.map_append]; exact h1, h.2.2.trans (hp.trans hb)⟩
  rw [e]
  rcases h1.2 with ⟨hh, hz⟩ | ⟨g, cap, cur, rfl, _⟩
  · rw [hz]; exact ⟨_, _, hh⟩
  · exact ⟨_, _, rfl⟩

/-- Rows of the others appended. -/
theorem wpList_rows {w8 w : World} {L ys : List Nat} {v : Value} {ops : Array Oper} {rest : List Oper} {o : Oper} {a : Act} {Q : Exit → Act → World → Prop} (hgd : o.guard = none) (s x : Operand)
    (ho : o.op = .call { callee := .builtin .append, args := #[s, x], argTypes := #[38, 38] }) (hW : Wnt w8 L v w) (b off m c : Nat) (hs : a.eval s = v) (hx : a.eval x = .slice (some ⟨b, off, none⟩) m c)
    (hm : ys.length = m) (hb : b < w8.heap.size) (hc : ∀ j y, ys[j]? = some y → w8.cell? ⟨b, off + j, none⟩ = some (ptr y)) (hn : L.length + m ≤ 1000000)
    (h : ∀ v' w', Wnt w8 (L ++ ys) v' w' → wpList Try.prog ops Q rest (a.put o.dst v') w') : wpList Try.prog ops Q (o :: rest) a w := by
  obtain ⟨i0, hi, hz0, hz1, hz2⟩ := info_parts info36
  subst hm
  refine wpList_append_own w hgd s x 38 ho w8.heap.size 36 i0 (.pointer none) 1 8 Try.underlying38 hi hz0 hz1 hz2 rfl (by decide) v L.length (L.map ptr) hs hW.2.1 ⟨b, off, none⟩ ys.length c (ys.map ptr) hx (by simp) ?_ ?_ (by unfold maxLen; omega) (by omega) hW.2.2.size ?_
  · intro j u hj
    rw [List.getElem?_map] at hj
    cases hy : ys[j]? with
    | none => rw [hy] at hj; cases hj
    | some y =>
      rw [hy] at hj
      cases hj
      have := hc j y hy
      have ha : (⟨b, off, none⟩ : Addr).add j = ⟨b, off + j, none⟩ := by
        simp only [Addr.add]
        split
        · rename_i e
          rw [e]
          rfl
        · rfl
      rw [ha]
      exact (hW.2.2.cell (p := ⟨b, off + j, none⟩) hb).trans this
  · intro u hu
    obtain ⟨y, _, rfl⟩ := List.mem_map.1 hu
    rfl
  · intro v' w' h1 h2 _
    exact h v' w' (hW.grow (Below.refl _ _) h1 h2)

/-- One pointer appended. -/
theorem wpList_one {w8 w : World} {L : List Nat} {v : Value} {ops : Array Oper} {rest : List Oper} {o : Oper} {a : Act} {Q : Exit → Act → World → Prop} (hgd : o.guard = none) (s x : Operand)
    (ho : o.op = .call { callee := .builtin .append, args := #[s, x], argTypes := #[38, 38] }) (y : Nat) (hW : Wnt w8 L v w) (hs : a.eval s = v) (hx : a.eval x = .slice (some ⟨w.heap.size, 0, none⟩) 1 1) (hn : L.length ≤ 900000)
    (h : ∀ v' w', Wnt w8 (L ++ [y]) v' w' → wpList Try.prog ops Q rest (a.put o.dst v') w') : wpList Try.prog ops Q (o :: rest) a (w.alloc (.cells #[.pointer (some ⟨y, 0, none⟩)] 36)) := by
  obtain ⟨i0, hi, hz0, hz1, hz2⟩ := info_parts info36
  refine wpList_append_own _ hgd s x 38 ho w8.heap.size 36 i0 (.pointer none) 1 8 Try.underlying38 hi hz0 hz1 hz2 rfl (by decide) v L.length (L.map ptr) hs (hW.2.1.alloc _) ⟨w.heap.size, 0, none⟩ 1 1 [ptr y] hx rfl ?_ ?_ (by unfold maxLen; omega) (by omega) (by rw [size_alloc]; have := hW.2.2.size; omega) ?_
  · intro j u hj
    match j, hj with
    | 0, hj =>
      simp at hj
      subst hj
      simp [Addr.add, ptr]
    | j + 1, hj => simp at hj
  · intro u hu
    simp at hu
    subst hu
    rfl
  · intro v' w' h1 h2 _
    exact h v' w' (hW.grow (ys := [y]) ((Below.refl _ _).alloc hW.2.2.size _) h1 h2)

theorem Wnt.cell {w8 wx : World} {L : List Nat} {v : Value} (h : Wnt w8 L v wx) {b i : Nat} {u : Value} (hc : w8.cell? ⟨b, i, none⟩ = some u) : wx.cell? ⟨b, i, none⟩ = some u :=
  (h.2.2.cell (p := ⟨b, i, none⟩) (cell_lt' hc)).trans hc

theorem sl_h (b n pos : Nat) (hp : pos ≤ n) (W : World) : (Instr.slice 38 (.slice (some ⟨b, 0, none⟩) n n) none (some (.int .i64 (pos : Int))) none).run Try.prog W = .ok (.slice (some ⟨b, 0, none⟩) pos n) W := by
  obtain ⟨i0, hi, hz0, hz1, hz2⟩ := info_parts info36
  rw [run_slice_h W 38 _ n n (by kernel_rfl) .i64 pos (by omega) (by omega)]
  have he : Try.prog.elem 38 = 36 := by kernel_rfl
  simp [he, sizeOf, typeInfo, hi, hz1, sliced, Addr.add]
theorem sl_lh (b n pos : Nat) (hp : pos < n) (W : World) : (Instr.slice 38 (.slice (some ⟨b, 0, none⟩) n n) (some (.int .i64 (pos : Int))) (some (.int .i64 ((n : Int) - 1))) none).run Try.prog W = .ok (.slice (some ⟨b, pos, none⟩) (n - 1 - pos) (n - pos)) W := by
  obtain ⟨i0, hi, hz0, hz1, hz2⟩ := info_parts info36
  rw [run_slice_lh W 38 _ n n (by kernel_rfl) .i64 .i64 pos ((n : Int) - 1) (by omega) (by omega) (by omega)]
  have he : Try.prog.elem 38 = 36 := by kernel_rfl
  have e1 : ((n : Int) - 1).toNat = n - 1 := by omega
  have hne : ¬ n = pos := by omega
  simp [he, sizeOf, typeInfo, hi, hz1, sliced, e1, Addr.add, hne]
  exact fun h => h.symm
theorem sl_l (b n pos : Nat) (hp : pos ≤ n) : ∃ pd, (pos < n → pd = pos) ∧ ∀ W : World, (Instr.slice 38 (.slice (some ⟨b, 0, none⟩) n n) (some (.int .i64 (pos : Int))) none none).run Try.prog W = .ok (.slice (some ⟨b, pd, none⟩) (n - pos) (n - pos)) W := by
  obtain ⟨i0, hi, hz0, hz1, hz2⟩ := info_parts info36
  have he : Try.prog.elem 38 = 36 := by kernel_rfl
  by_cases hlt : pos < n
  · refine ⟨pos, fun _ => rfl, fun W => ?_⟩
    rw [run_slice_l W 38 _ n n (by kernel_rfl) .i64 pos (by omega) (by omega)]
    have hne : ¬ n = pos := by omega
    simp [he, sizeOf, typeInfo, hi, hz1, sliced, Addr.add, hne]
    exact fun h => h.symm
  · obtain rfl : pos = n := by omega
    refine ⟨0, fun h => absurd h (by omega), fun W => ?_⟩
    rw [run_slice_l W 38 _ pos pos (by kernel_rfl) .i64 pos (by omega) (by omega)]
    simp [he, sizeOf, typeInfo, hi, hz1, sliced]
end Go.Proofs.Qxb6612390a.fnSetQueueSetsIndexesAndQueuedList
