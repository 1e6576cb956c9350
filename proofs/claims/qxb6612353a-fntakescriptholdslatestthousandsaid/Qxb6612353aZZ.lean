/-
  ZZtake hands on.
-/
import Derived.Test.Qxb6612353aFull
namespace Go.Proofs.Qxb6612353a
open Go.ChangeShapes Go.WideShapes Go.ChangeAt Go.RowKit Go.Lib
set_option linter.unusedVariables false
set_option linter.unusedSimpArgs false

theorem St.new {w w' : World} {wb base : Nat} {ct : Int} {os : List Oc} {nx : Int} {xs : List Int} {sm fl tm lm : Int} (h : St w wb base ct os nx xs sm fl tm lm) (hn : New w w') : St w' wb base ct os nx xs sm fl tm lm := by
  obtain ⟨ra, rc, ⟨aa, ac, h1, h2⟩, h3⟩ := h
  exact ⟨ra, rc, ⟨aa, ac, h1.fr hn (fun h => h), own_fr h2 hn (fun _ _ h => h)⟩, own_fr h3 hn (fun _ _ h => h)⟩

theorem zzTake_any {wb base : Nat} {ct : Int} {os : List Oc} {nx : Int} {xs : List Int} {sm fl tm lm : Int} (o : Oc) (w : World)
    (h : ∀ w1, New w w1 → Calls Try.prog 33 #[ptr wb, o.val] w1 (TakP wb base ct os nx xs sm fl tm lm w1)) : Calls Try.prog 11 #[ptr wb, o.val] w (TakP wb base ct os nx xs sm fl tm lm w) := by
  have hn1 : New w (w.alloc (.cells #[.int .i64 o.st, .bool o.tm, .int .i64 o.lt] 36)) := (Fr.refl _ _).alloc _
  have hc := h _ hn1
  unfold ptr Oc.val at hc ⊢
  have HC : Hid (Calls Try.prog 33 #[.pointer (some ⟨wb, 0, none⟩), .agg #[.int .i64 o.st, .bool o.tm, .int .i64 o.lt]] (w.alloc (.cells #[.int .i64 o.st, .bool o.tm, .int .i64 o.lt] 36)) (TakP wb base ct os nx xs sm fl tm lm (w.alloc (.cells #[.int .i64 o.st, .bool o.tm, .int .i64 o.lt] 36)))) := hc
  have HD : Hid (∀ w', TakP wb base ct os nx xs sm fl tm lm (w.alloc (.cells #[.int .i64 o.st, .bool o.tm, .int .i64 o.lt] 36)) (.returned (.tuple #[])) w' → TakP wb base ct os nx xs sm fl tm lm w (.returned (.tuple #[])) w') := fun w' ⟨_, h1, h2⟩ => ⟨rfl, h1, (base_new hn1).trans h2⟩
  clear hc h hn1
  go_enter Try.func11, Try.ntmps11
  go_wp2_with (go_at_call 33; refine Calls.mono HC.out ?_; rintro e w' hp; have he := hp.1; subst he)
  go_end0
  exact HD.out _ hp
end Go.Proofs.Qxb6612353a
