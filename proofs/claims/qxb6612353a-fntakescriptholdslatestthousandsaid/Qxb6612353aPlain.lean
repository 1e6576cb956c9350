/-
  The plain law of the latencies' row: sorted, and a permutation.
-/
import Derived.Test.Qxb6612353aZZ
namespace Go.Proofs.Qxb6612353a
open Go.ChangeShapes Go.WideShapes Go.ChangeAt Go.RowKit Go.Lib
set_option linter.unusedVariables false
set_option linter.unusedSimpArgs false

theorem sorted_pairwise {xs : List Int} (h : Sorted xs) : xs.Pairwise (fun a b => a ≤ b) := by
  rw [List.pairwise_iff_getElem]
  intro i j hi hj hlt
  exact h i j _ _ hlt (List.getElem?_eq_getElem hi) (List.getElem?_eq_getElem hj)
theorem pairwise_sorted {xs : List Int} (h : xs.Pairwise (fun a b => a ≤ b)) : Sorted xs := by
  intro i j x y hlt hx hy
  obtain ⟨hi, rfl⟩ := List.getElem?_eq_some_iff.1 hx
  obtain ⟨hj, rfl⟩ := List.getElem?_eq_some_iff.1 hy
  exact List.pairwise_iff_getElem.1 h i j hi hj hlt
theorem sorted_unique {xs ys : List Int} (hx : Sorted xs) (hy : Sorted ys) (hp : xs.Perm ys) : xs = ys :=
  List.Perm.eq_of_pairwise (fun a b _ _ h1 h2 => by omega) (sorted_pairwise hx) (sorted_pairwise hy) hp

theorem insAt_perm (xs : List Int) (i : Nat) (x : Int) : (insAt xs i x).Perm (x :: xs) := by
  unfold insAt
  refine List.perm_middle.trans ?_
  rw [List.take_append_drop]
theorem delAt_perm {xs : List Int} {i : Nat} {x : Int} (h : xs[i]? = some x) : xs.Perm (x :: delAt xs i) := by
  obtain ⟨hi, hx⟩ := List.getElem?_eq_some_iff.1 h
  have e : xs = xs.take i ++ x :: xs.drop (i + 1) := by
    rw [← hx, List.getElem_cons_drop, List.take_append_drop]
  unfold delAt
  have := List.perm_middle (a := x) (l₁ := xs.take i) (l₂ := xs.drop (i + 1))
  rw [← e] at this
  exact this

theorem insAt_sorted {xs : List Int} (h : Sorted xs) (x : Int) : Sorted (insAt xs (lb xs x) x) := by
  apply pairwise_sorted
  unfold insAt
  have hp := sorted_pairwise h
  have hle := lb_le x xs
  rw [List.pairwise_append]
  refine ⟨hp.sublist (List.take_sublist _ _), ?_, ?_⟩
  · rw [List.pairwise_cons]
    refine ⟨fun y hy => ?_, hp.sublist (List.drop_sublist _ _)⟩
    obtain ⟨j, hj⟩ := List.mem_iff_getElem?.1 hy
    rw [List.getElem?_drop] at hj
    exact lb_ge h (by omega) hj
  · intro a ha y hy
    obtain ⟨j, hj⟩ := List.mem_iff_getElem?.1 ha
    rw [List.getElem?_take] at hj
    split at hj
    · rename_i hlt
      have h1 := lb_lt x xs j a hlt hj
      rcases List.mem_cons.1 hy with rfl | hy
      · omega
      · obtain ⟨k, hk⟩ := List.mem_iff_getElem?.1 hy
        rw [List.getElem?_drop] at hk
        have := lb_ge h (Nat.le_add_right _ k) hk
        omega
    · cases hj
theorem delAt_sorted {xs : List Int} (h : Sorted xs) (i : Nat) : Sorted (delAt xs i) := by
  apply pairwise_sorted
  have hp := sorted_pairwise h
  unfold delAt
  refine hp.sublist ?_
  have h1 : (xs.drop (i + 1)).Sublist (xs.drop i) := by
    rw [show i + 1 = i + 1 from rfl, ← List.drop_drop]
    exact List.drop_sublist _ _
  have h2 := (List.Sublist.refl (xs.take i)).append h1
  rwa [List.take_append_drop] at h2
theorem lb_mem {xs : List Int} (h : Sorted xs) {x : Int} (hx : x ∈ xs) : xs[lb xs x]? = some x := by
  obtain ⟨j, hj⟩ := List.mem_iff_getElem?.1 hx
  have hjl : lb xs x ≤ j := by
    apply Decidable.byContradiction
    intro hn
    have := lb_lt x xs j x (by omega) hj
    omega
  have hjn := (List.getElem?_eq_some_iff.1 hj).1
  have h1 : xs[lb xs x]? = some (xs[lb xs x]'(by omega)) := List.getElem?_eq_getElem (by omega)
  have h2 := lb_at x xs _ h1
  have h3 : xs[lb xs x]'(by omega) ≤ x := by
    by_cases e : lb xs x = j
    · have : some (xs[lb xs x]'(by omega)) = some x := by rw [← h1, e]; exact hj
      have := Option.some.inj this
      omega
    · exact h _ _ _ _ (by omega) h1 hj
  rw [h1]
  congr 1
  omega

theorem mid_pairwise {l1 l2 : List Int} {x : Int} (h : (l1 ++ l2).Pairwise (fun a b => a ≤ b)) (h1 : ∀ a ∈ l1, a ≤ x) (h2 : ∀ b ∈ l2, x ≤ b) : (l1 ++ x :: l2).Pairwise (fun a b => a ≤ b) := by
  rw [List.pairwise_append] at h ⊢
  obtain ⟨p1, p2, p3⟩ := h
  refine ⟨p1, ?_, fun a ha b hb => ?_⟩
  · rw [List.pairwise_cons]
    exact ⟨h2, p2⟩
  · rcases List.mem_cons.1 hb with rfl | hb
    · exact h1 a ha
    · exact p3 a ha b hb
theorem repA_split {xs : List Int} {f p : Nat} (h : f < p) : xs.drop (f + 1) = (xs.drop (f + 1)).take (p - 1 - f) ++ xs.drop p := by
  have e : xs.drop p = (xs.drop (f + 1)).drop (p - 1 - f) := by
    rw [List.drop_drop]
    congr 1
    omega
  rw [e, List.take_append_drop]
theorem repB_split {xs : List Int} {f p : Nat} (h : p ≤ f) : xs.take f = xs.take p ++ (xs.drop p).take (f - p) := by
  have e := List.take_append_drop p (xs.take f)
  rw [List.take_take, Nat.min_eq_left h, List.drop_take] at e
  exact e.symm
theorem repX_perm (xs : List Int) (f p : Nat) (x : Int) : (repX xs f p x).Perm (x :: delAt xs f) := by
  unfold repX delAt
  split
  · rename_i h
    refine List.perm_middle.trans ?_
    rw [List.append_assoc, ← repA_split h]
  · rename_i h
    refine List.perm_middle.trans ?_
    rw [← List.append_assoc, ← repB_split (by omega)]
theorem repX_sorted {xs : List Int} (h : Sorted xs) (f : Nat) (x : Int) : Sorted (repX xs f (lb xs x) x) := by
  have hd := sorted_pairwise (delAt_sorted h f)
  have hlt : ∀ (j : Nat) (a : Int), j < lb xs x → xs[j]? = some a → a ≤ x := fun j a hj ha => by have := lb_lt x xs j a hj ha; omega
  have hge : ∀ (j : Nat) (a : Int), lb xs x ≤ j → xs[j]? = some a → x ≤ a := fun j a hj ha => lb_ge h hj ha
  generalize lb xs x = p at *
  apply pairwise_sorted
  unfold repX
  unfold delAt at hd
  split
  · rename_i hfp
    refine mid_pairwise ?_ ?_ ?_
    · rw [List.append_assoc, ← repA_split hfp]
      exact hd
    · intro a ha
      rcases List.mem_append.1 ha with ha | ha
      · obtain ⟨j, hj⟩ := List.mem_iff_getElem?.1 ha
        rw [List.getElem?_take] at hj
        split at hj
        · exact hlt j a (by omega) hj
        · cases hj
      · obtain ⟨j, hj⟩ := List.mem_iff_getElem?.1 ha
        rw [List.getElem?_take] at hj
        split at hj
        · rw [List.getElem?_drop] at hj
          exact hlt _ a (by omega) hj
        · cases hj
    · intro b hb
      obtain ⟨j, hj⟩ := List.mem_iff_getElem?.1 hb
      rw [List.getElem?_drop] at hj
      exact hge _ b (by omega) hj
  · rename_i hfp
    refine mid_pairwise ?_ ?_ ?_
    · rw [← List.append_assoc, ← repB_split (by omega)]
      exact hd
    · intro a ha
      obtain ⟨j, hj⟩ := List.mem_iff_getElem?.1 ha
      rw [List.getElem?_take] at hj
      split at hj
      · exact hlt j a (by omega) hj
      · cases hj
    · intro b hb
      rcases List.mem_append.1 hb with hb | hb
      · obtain ⟨j, hj⟩ := List.mem_iff_getElem?.1 hb
        rw [List.getElem?_take] at hj
        split at hj
        · rw [List.getElem?_drop] at hj
          exact hge _ b (by omega) hj
        · cases hj
      · obtain ⟨j, hj⟩ := List.mem_iff_getElem?.1 hb
        rw [List.getElem?_drop] at hj
        exact hge _ b (by omega) hj
end Go.Proofs.Qxb6612353a
