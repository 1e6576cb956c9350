/-
  Small functions on the road of take: comparison, an outcome, tally.
-/
import Derived.Test.Qxb6612353aWin
namespace Go.Proofs.Qxb6612353a
open Go.ChangeShapes Go.WideShapes Go.ChangeAt Go.RowKit
set_option linter.unusedVariables false
set_option linter.unusedSimpArgs false

theorem isNaN44 (x : Int) (w : World) : Calls Try.prog 44 #[.int .i64 x] w fun e w' => e = .returned (.bool false) ∧ w' = w := by
  go_enter Try.func44, Try.ntmps44
  go_wp2
  go_ret
  exact ⟨by simp, rfl⟩
theorem isNaN47 (x : Int) (w : World) : Calls Try.prog 47 #[.int .i64 x] w fun e w' => e = .returned (.bool false) ∧ w' = w := by
  go_enter Try.func47, Try.ntmps47
  go_wp2
  go_ret
  exact ⟨by simp, rfl⟩
theorem less_any (x y : Int) (w : World) : Calls Try.prog 43 #[.int .i64 x, .int .i64 y] w fun e w' => e = .returned (.bool (decide (x < y))) ∧ w' = w := by
  go_enter Try.func43, Try.ntmps43
  go_wp2_with (go_at_call 47; refine (isNaN47 _ _).mono ?_; rintro e w' ⟨rfl, rfl⟩)
  go_ret
  exact ⟨by simp, rfl⟩

/-- An outcome: status, timed out, latency. -/
structure Oc where
  st : Int
  tm : Bool
  lt : Int
def Oc.ok (o : Oc) : Prop := (-9223372036854775808 ≤ o.st ∧ o.st ≤ 9223372036854775807) ∧ (-9223372036854775808 ≤ o.lt ∧ o.lt ≤ 9223372036854775807)
def Oc.cells (o : Oc) : List Value := [.int .i64 o.st, .bool o.tm, .int .i64 o.lt]
def Oc.val (o : Oc) : Value := .agg #[.int .i64 o.st, .bool o.tm, .int .i64 o.lt]
def Oc.failed (o : Oc) : Bool := o.st == 0 || o.st == 429 || decide (500 ≤ o.st)

/-- Nothing that was there is touched. -/
def New (w w' : World) : Prop := Fr (fun _ => False) w w'
theorem New.refl (w : World) : New w w := Fr.refl _ _
def RetNew (v : Value) (w : World) (e : Ending) (w' : World) : Prop := e = .returned v ∧ New w w'

theorem failed42 (o : Oc) (w : World) : Calls Try.prog 42 #[o.val] w (RetNew (.bool o.failed) w) := by
  obtain ⟨s, t, l⟩ := o
  unfold Oc.val
  by_cases h0 : s = 0
  · subst h0
    go_enter Try.func42, Try.ntmps42
    go_wp2_with fail
    go_ret
    exact ⟨by simp [Oc.failed], (Fr.refl _ _).alloc _⟩
  · by_cases h1 : s = 429
    · subst h1
      go_enter Try.func42, Try.ntmps42
      go_wp2_with fail
      go_ret
      exact ⟨by simp [Oc.failed], (Fr.refl _ _).alloc _⟩
    · go_enter Try.func42, Try.ntmps42
      go_wp2_with fail
      go_ret
      exact ⟨by simp [Oc.failed], (Fr.refl _ _).alloc _⟩
theorem failedByDoc_any (o : Oc) (w : World) : Calls Try.prog 32 #[o.val] w (RetNew (.bool o.failed) w) := by
  obtain ⟨s, t, l⟩ := o
  unfold Oc.val
  by_cases h0 : s = 0
  · subst h0
    go_enter Try.func32, Try.ntmps32
    go_wp2_with fail
    go_ret
    exact ⟨by simp [Oc.failed], (Fr.refl _ _).alloc _⟩
  · by_cases h1 : s = 429
    · subst h1
      go_enter Try.func32, Try.ntmps32
      go_wp2_with fail
      go_ret
      exact ⟨by simp [Oc.failed], (Fr.refl _ _).alloc _⟩
    · go_enter Try.func32, Try.ntmps32
      go_wp2_with fail
      go_ret
      exact ⟨by simp [Oc.failed], (Fr.refl _ _).alloc _⟩

set_option maxHeartbeats 400000 in
theorem outcome34 (s : Int) (t : Bool) (l : Int) (hl : -9223372036854775808 ≤ l ∧ l ≤ 9223372036854775807) (w : World) : Calls Try.prog 34 #[.int .i64 s, .bool t, .int .i64 l] w fun e w' => e = .returned (Oc.val ⟨s, t, l⟩) ∧ w' = w.alloc (.cells #[.int .i64 s, .bool t, .int .i64 l] 36) := by
  go_enter Try.func34, Try.ntmps34
  go_wp2_with fail
  exact bodyPost_ret (v := Oc.val ⟨s, t, l⟩) (by simp [results, Try.results34, go_sem, Oc.val]) rfl ⟨rfl, rfl⟩
set_option maxHeartbeats 400000 in
theorem toOutcome_any (o : Oc) (ho : o.ok) (w : World) : Calls Try.prog 12 #[o.val] w (RetNew o.val w) := by
  obtain ⟨s, t, l⟩ := o
  obtain ⟨_, hl⟩ := ho
  unfold Oc.val
  go_enter Try.func12, Try.ntmps12
  go_wp2_with (go_at_call 34; refine (outcome34 s t l hl _).mono ?_; rintro e w' ⟨rfl, rfl⟩; unfold Oc.val)
  refine bodyPost_ret (v := Oc.val ⟨s, t, l⟩) (by simp [results, Try.results12, go_sem, Oc.val]) rfl ⟨rfl, ?_⟩
  exact (((Fr.refl _ _).alloc _).alloc _).alloc _

/-- The counters behind a tally. -/
def tal (x by_ : Int) (b : Bool) : Int := if b then x + by_ else x
def TallyP (wb : Nat) (ct : Int) (rv : Value) (nx : Int) (av : Value) (sm fl tm lm : Int) (o : Oc) (by_ : Int) (w : World) (e : Ending) (w' : World) : Prop :=
  e = .returned (.tuple #[]) ∧ Wn w' wb ct rv nx av sm (tal fl by_ o.failed) (tal tm by_ o.tm) (tal lm by_ (o.st == 429)) ∧ Fr (fun b => b = wb) w w'

set_option maxRecDepth 100000 in
set_option maxHeartbeats 1000000 in
theorem tally_any {wb : Nat} {ct : Int} {ra : Option Addr} {rl rc : Nat} {nx : Int} {av : Value} {sm fl tm lm : Int} (o : Oc) (by_ : Int) (w : World) (h : Wn w wb ct (.slice ra rl rc) nx av sm fl tm lm)
    (hb : -1 ≤ by_ ∧ by_ ≤ 1) (h1 : 0 ≤ fl ∧ fl ≤ 1000) (h2 : 0 ≤ tm ∧ tm ≤ 1000) (h3 : 0 ≤ lm ∧ lm ≤ 1000) :
    Calls Try.prog 37 #[ptr wb, o.val, .int .i64 by_] w (TallyP wb ct (.slice ra rl rc) nx av sm fl tm lm o by_ w) := by
  unfold ptr
  have hlt := h.lt
  have h42 := fun w => failed42 o w
  obtain ⟨s, t, l⟩ := o
  have hf : ∀ f, Oc.failed ⟨s, t, l⟩ = f → TallyP wb ct (.slice ra rl rc) nx av sm fl tm lm ⟨s, t, l⟩ by_ w = fun e w' => e = .returned (.tuple #[]) ∧ Wn w' wb ct (.slice ra rl rc) nx av sm (tal fl by_ f) (tal tm by_ t) (tal lm by_ (s == 429)) ∧ Fr (fun b => b = wb) w w' := fun f hf => by
    unfold TallyP
    rw [hf]
  generalize hff : Oc.failed ⟨s, t, l⟩ = f at h42
  rw [hf f hff]
  clear hf hff
  unfold Oc.val at h42 ⊢
  have H42 : Hid (∀ w, Calls Try.prog 42 #[.agg #[.int .i64 s, .bool t, .int .i64 l]] w (RetNew (.bool f) w)) := h42
  clear h42
  have ho := heap_new w (.cells #[.int .i64 s, .bool t, .int .i64 l] 36)
  have hn1 : New w (w.alloc (.cells #[.int .i64 s, .bool t, .int .i64 l] 36)) := (Fr.refl _ _).alloc _
  go_enter Try.func37, Try.ntmps37
  go_upto_region 1 with fail
  obtain ⟨ob, hob⟩ : ∃ x, x = w.heap.size := ⟨_, rfl⟩
  rw [← hob] at ho hlt ⊢
  have hne : wb ≠ ob := by omega
  clear hob
  generalize w.alloc (.cells #[.int .i64 s, .bool t, .int .i64 l] 36) = w1 at ho hn1 ⊢
  have hx : w1.cell? ⟨ob, 0, none⟩ = some (.int .i64 s) ∧ w1.cell? ⟨ob, 1, none⟩ = some (.bool t) ∧ w1.cell? ⟨ob, 2, none⟩ = some (.int .i64 l) := by
    rw [cell_of ho, cell_of ho, cell_of ho]
    exact ⟨rfl, rfl, rfl⟩
  obtain ⟨x0, x1, x2⟩ := hx
  go_wp2_with fail
  refine (H42.out _).mono ?_
  rintro e w2 ⟨rfl, hn2⟩
  have ho2 : w2.heap[ob]? = _ := (hn2.block ob (heap_lt ho) (fun h => h)).trans ho
  have hw2 := (h.fr hn1 (fun h => h)).fr hn2 (fun h => h)
  have hf2 : Fr (fun b => b = wb) w w2 := (hn1.trans hn2).mono (fun _ _ h => h.elim)
  clear x0 x1 x2
  have hx : w2.cell? ⟨ob, 0, none⟩ = some (.int .i64 s) ∧ w2.cell? ⟨ob, 1, none⟩ = some (.bool t) ∧ w2.cell? ⟨ob, 2, none⟩ = some (.int .i64 l) := by
    rw [cell_of ho2, cell_of ho2, cell_of ho2]
    exact ⟨rfl, rfl, rfl⟩
  obtain ⟨x0, x1, x2⟩ := hx
  have c8 := hw2.c8
  have c9 := hw2.c9
  have c10 := hw2.c10
  have f8 := hw2.free 8
  have f9 := hw2.free 9
  have f10 := hw2.free 10
  clear h ho hn1 hn2 ho2 hlt
  have HW : Hid (Wn w2 wb ct (.slice ra rl rc) nx av sm fl tm lm) := hw2
  have HF : Hid (Fr (fun b => b = wb) w w2) := hf2
  clear hw2 hf2
  cases f <;> cases t <;> (by_cases h429 : s = 429)
  · go_wp2_with fail
    go_end0
    simp [h429, tal]
    exact ⟨(HW.out.s10 _), (HF.out.setCell _ (.inl rfl) _)⟩
  · go_wp2_with fail
    go_end0
    simp [h429, tal]
    exact ⟨HW.out, HF.out⟩
  · go_wp2_with fail
    go_end0
    simp [h429, tal]
    exact ⟨((HW.out.s9 _).s10 _), ((HF.out.setCell _ (.inl rfl) _).setCell _ (.inl rfl) _)⟩
  · go_wp2_with fail
    go_end0
    simp [h429, tal]
    exact ⟨(HW.out.s9 _), (HF.out.setCell _ (.inl rfl) _)⟩
  · go_wp2_with fail
    go_end0
    simp [h429, tal]
    exact ⟨((HW.out.s8 _).s10 _), ((HF.out.setCell _ (.inl rfl) _).setCell _ (.inl rfl) _)⟩
  · go_wp2_with fail
    go_end0
    simp [h429, tal]
    exact ⟨(HW.out.s8 _), (HF.out.setCell _ (.inl rfl) _)⟩
  · go_wp2_with fail
    go_end0
    simp [h429, tal]
    exact ⟨(((HW.out.s8 _).s9 _).s10 _), (((HF.out.setCell _ (.inl rfl) _).setCell _ (.inl rfl) _).setCell _ (.inl rfl) _)⟩
  · go_wp2_with fail
    go_end0
    simp [h429, tal]
    exact ⟨((HW.out.s8 _).s9 _), ((HF.out.setCell _ (.inl rfl) _).setCell _ (.inl rfl) _)⟩

theorem bytes_any (a1 : Option Addr) (l1 c1 : Nat) (w : World) (hl1 : l1 ≤ maxLen) :
    Calls Try.prog 23 #[.slice a1 l1 c1] w fun e w' => (∃ b : Bool, e = .returned (.bool b)) ∧ w' = w := by
  unfold maxLen at hl1
  go_enter Try.func23, Try.ntmps23
  go_wp2
  all_goals
    go_ret
    exact ⟨⟨_, rfl⟩, rfl⟩
end Go.Proofs.Qxb6612353a
