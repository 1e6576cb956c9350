/-
  The plain law of the window: what the figures are of the last outcomes.
-/
import Derived.Test.Qxb6612353aPlain
namespace Go.Proofs.Qxb6612353a
open Go.ChangeShapes Go.WideShapes Go.ChangeAt Go.RowKit Go.Lib
set_option linter.unusedVariables false
set_option linter.unusedSimpArgs false

def ansOf (o : Oc) : List Int := if o.st = 0 then [] else [o.lt]
def ans (l : List Oc) : List Int := l.flatMap ansOf
def sumZ : List Int → Int
  | [] => 0
  | x :: xs => x + sumZ xs
theorem sumZ_append (xs ys : List Int) : sumZ (xs ++ ys) = sumZ xs + sumZ ys := by
  induction xs with
  | nil => simp [sumZ]
  | cons x xs ih => simp [sumZ, ih]; omega
theorem ans_cons (o : Oc) (l : List Oc) : ans (o :: l) = ansOf o ++ ans l := by simp [ans]
theorem ans_append (l k : List Oc) : ans (l ++ k) = ans l ++ ans k := by simp [ans]
theorem ans_one (o : Oc) : ans [o] = ansOf o := by simp [ans]

structure Fig (last : List Oc) (xs : List Int) (sm fl tm lm : Int) : Prop where
  sorted : Sorted xs
  perm : xs.Perm (ans last)
  sm : sm = wrap64 (sumZ (ans last))
  fl : fl = (last.countP Oc.failed : Nat)
  tm : tm = (last.countP Oc.tm : Nat)
  lm : lm = (last.countP (fun o => o.st == 429) : Nat)

theorem wrap_add (a b : Int) : wrap64 (wrap64 a + b) = wrap64 (a + b) := by unfold wrap64; omega
theorem wrap_sub (a b : Int) : wrap64 (wrap64 a - b) = wrap64 (a - b) := by unfold wrap64; omega
theorem wrap_add2 (a b : Int) : wrap64 (a + wrap64 b) = wrap64 (a + b) := by unfold wrap64; omega
theorem tal_count (n : Nat) (b : Bool) : tal (n : Int) 1 b = ((n + if b = true then 1 else 0 : Nat) : Int) := by
  unfold tal
  cases b <;> simp
theorem untal_count (n : Nat) (b : Bool) : tal ((n + if b = true then 1 else 0 : Nat) : Int) (-1) b = (n : Int) := by
  unfold tal
  cases b <;> simp <;> omega

theorem Fig.nil : Fig [] [] 0 0 0 0 := ⟨fun i j x y _ h => by simp at h, List.Perm.refl _, by simp [ans, sumZ, wrap64], rfl, rfl, rfl⟩

theorem Fig.push {last : List Oc} {xs : List Int} {sm fl tm lm : Int} (h : Fig last xs sm fl tm lm) (o : Oc) :
    Fig (last ++ [o]) (admX o xs) (admS o sm) (tal fl 1 o.failed) (tal tm 1 o.tm) (tal lm 1 (o.st == 429)) := by
  obtain ⟨h1, h2, h3, h4, h5, h6⟩ := h
  refine ⟨?_, ?_, ?_, ?_, ?_, ?_⟩
  · unfold admX
    split
    · exact h1
    · exact insAt_sorted h1 _
  · rw [ans_append, ans_one]
    unfold admX ansOf
    split
    · simpa using h2
    · refine (insAt_perm _ _ _).trans ?_
      exact ((List.perm_cons _).2 h2).trans (by simpa using (List.perm_append_comm (l₁ := [o.lt]) (l₂ := ans last)))
  · rw [ans_append, ans_one, sumZ_append]
    unfold admS ansOf
    split
    · simpa [sumZ] using h3
    · rw [h3, wrap_add]
      simp [sumZ]
  · rw [h4, tal_count, List.countP_append]
    simp [List.countP_cons, List.countP_nil]
  · rw [h5, tal_count, List.countP_append]
    simp [List.countP_cons, List.countP_nil]
  · rw [h6, tal_count, List.countP_append]
    simp [List.countP_cons, List.countP_nil]

theorem Fig.hin {ev : Oc} {rest : List Oc} {xs : List Int} {sm fl tm lm : Int} (h : Fig (ev :: rest) xs sm fl tm lm) (h0 : ev.st ≠ 0) : xs[lb xs ev.lt]? = some ev.lt := by
  apply lb_mem h.sorted
  rw [h.perm.mem_iff, ans_cons]
  simp [ansOf, h0]
theorem Fig.evict {ev : Oc} {rest : List Oc} {xs : List Int} {sm fl tm lm : Int} (h : Fig (ev :: rest) xs sm fl tm lm) :
    Fig rest (eviX ev xs) (eviS ev sm) (tal fl (-1) ev.failed) (tal tm (-1) ev.tm) (tal lm (-1) (ev.st == 429)) := by
  have hin := h.hin
  obtain ⟨h1, h2, h3, h4, h5, h6⟩ := h
  rw [ans_cons] at h2 h3
  refine ⟨?_, ?_, ?_, ?_, ?_, ?_⟩
  · unfold eviX
    split
    · exact h1
    · exact delAt_sorted h1 _
  · unfold eviX
    unfold ansOf at h2
    split
    · rename_i h0
      simpa [h0] using h2
    · rename_i h0
      rw [if_neg h0] at h2
      exact List.Perm.cons_inv ((delAt_perm (hin h0)).symm.trans h2)
  · unfold eviS
    rw [sumZ_append] at h3
    unfold ansOf at h3
    split
    · rename_i h0
      simpa [h0, sumZ] using h3
    · rename_i h0
      rw [if_neg h0] at h3
      rw [h3, wrap_sub]
      simp only [sumZ]
      congr 1
      omega
  · rw [h4, List.countP_cons, untal_count]
  · rw [h5, List.countP_cons, untal_count]
  · rw [h6, List.countP_cons]
    exact untal_count _ _

theorem Fig.full {ev : Oc} {rest : List Oc} {xs : List Int} {sm fl tm lm : Int} (h : Fig (ev :: rest) xs sm fl tm lm) (o : Oc) :
    Fig (rest ++ [o]) (fullX o ev xs) (fullS o ev sm) (tal (tal fl (-1) ev.failed) 1 o.failed) (tal (tal tm (-1) ev.tm) 1 o.tm) (tal (tal lm (-1) (ev.st == 429)) 1 (o.st == 429)) := by
  have he := h.evict
  have hp := he.push o
  unfold fullX fullS
  by_cases hA : ev.st = 0 ∨ o.st = 0
  · rw [if_pos hA, if_pos hA]
    exact hp
  · have h0 : ev.st ≠ 0 := fun e => hA (.inl e)
    have h0' : o.st ≠ 0 := fun e => hA (.inr e)
    rw [if_neg hA, if_neg hA]
    refine ⟨repX_sorted h.sorted _ _, ?_, ?_, hp.fl, hp.tm, hp.lm⟩
    · refine (repX_perm _ _ _ _).trans ?_
      have h2 := he.perm
      unfold eviX at h2
      rw [if_neg h0] at h2
      rw [ans_append, ans_one]
      unfold ansOf
      rw [if_neg h0']
      exact ((List.perm_cons _).2 h2).trans (by simpa using (List.perm_append_comm (l₁ := [o.lt]) (l₂ := ans rest)))
    · have h3 := h.sm
      rw [ans_cons, sumZ_append] at h3
      unfold ansOf at h3
      rw [if_neg h0] at h3
      rw [h3, wrap_add2, wrap_add, ans_append, ans_one, sumZ_append]
      unfold ansOf
      rw [if_neg h0']
      simp only [sumZ]
      congr 1
      omega
end Go.Proofs.Qxb6612353a
