/-
  The makers and readers of the laws over setQueue.
-/
import Derived.Test.Qxb6612390aSetQueue
namespace Go.Proofs.Qxb6612390a
open Go.ChangeShapes Go.WideShapes Go.ChangeAt Go.RowKit
set_option linter.unusedVariables false

def aggSize (v : Value) : Nat := match v with | .agg c => c.size | _ => 0
theorem zero111size : ((Try.prog.info? 111).bind (·.zero)).map aggSize = some 7942 := by kernel_rfl
theorem zero111 : ∃ Z : Array Value, (∀ w, (zeroValue 111).run Try.prog w = .ok (.agg Z) w) ∧ Z.size = 7942 := by
  have h := zero111size
  cases hi : Try.prog.info? 111 with
  | none => simp [hi] at h
  | some i =>
    cases hz : i.zero with
    | none => simp [hi, hz] at h
    | some v =>
      simp [hi, hz] at h
      cases v with
      | agg c => exact ⟨c, fun w => by simp [zeroValue, typeInfo, hi, hz], h⟩
      | _ => simp [aggSize] at h

def TabPost (v : Value) (w : World) (e : Ending) (w' : World) : Prop := e = .returned (ptr w.heap.size) ∧ Tab w' w.heap.size v ∧ Below w.heap.size w w' ∧ w'.heap.size = w.heap.size + 1

set_option maxRecDepth 100000 in
set_option maxHeartbeats 400000 in
theorem newTable_any (a : Option Addr) (l c : Nat) (w : World) : Calls Try.prog 15 #[.slice a l c] w (TabPost (.slice a l c) w) := by
  obtain ⟨Z, hz, hs⟩ := zero111
  have hs1 : ¬ Z.size < 7941 := by omega
  have HS : Hid (Z.size = 7942) := hs
  clear hs
  go_enter Try.func15, Try.ntmps15
  go_wp2_with fail
  go_ret
  have hs := HS.out
  refine ⟨rfl, ⟨_, heap_new _ _, by simpa using hs, ?_⟩, (Below.refl _ _).alloc (Nat.le_refl _) _, size_alloc _ _⟩
  rw [Array.getElem?_setIfInBounds]
  simp [hs]

/-! ### The readers -/
theorem resQueue_any {w : World} {b : Nat} {a : Option Addr} {l c : Nat} {qa wk : Int} (h : Res w b (.slice a l c) qa wk) : Calls Try.prog 17 #[ptr b] w fun e w' => e = .returned (.slice a l c) ∧ w' = w := by
  unfold ptr
  have c11 := h.c11
  clear h
  go_enter Try.func17, Try.ntmps17
  go_wp2
  go_ret
  exact ⟨rfl, rfl⟩
theorem reqAt_any {w : World} {b : Nat} {at_ : Int} (h : Req w b at_) : Calls Try.prog 18 #[ptr b] w fun e w' => e = .returned (.int .i64 at_) ∧ w' = w := by
  unfold ptr
  have c4 : w.cell? ⟨b, 4, none⟩ = some (.int .i64 at_) := by rw [cell_of h]; rfl
  clear h
  go_enter Try.func18, Try.ntmps18
  go_wp2
  go_ret
  exact ⟨rfl, rfl⟩
theorem resWalk_any {w : World} {b : Nat} {q : Value} {qa wk : Int} (h : Res w b q qa wk) : Calls Try.prog 19 #[ptr b] w fun e w' => e = .returned (.int .u64 wk) ∧ w' = w := by
  unfold ptr
  have c15 := h.c15
  clear h
  go_enter Try.func19, Try.ntmps19
  go_wp2
  go_ret
  exact ⟨rfl, rfl⟩
theorem tabQueued_any {w : World} {b : Nat} {a : Option Addr} {l c : Nat} (h : Tab w b (.slice a l c)) : Calls Try.prog 20 #[ptr b] w fun e w' => e = .returned (.slice a l c) ∧ w' = w := by
  unfold ptr
  have c40 := h.cell
  clear h
  go_enter Try.func20, Try.ntmps20
  go_wp2
  go_ret
  exact ⟨rfl, rfl⟩
theorem resAt_any {w : World} {b : Nat} {q : Value} {qa wk : Int} (h : Res w b q qa wk) : Calls Try.prog 21 #[ptr b] w fun e w' => e = .returned (.int .i64 qa) ∧ w' = w := by
  unfold ptr
  have c12 := h.c12
  clear h
  go_enter Try.func21, Try.ntmps21
  go_wp2
  go_ret
  exact ⟨rfl, rfl⟩

/-- ZZsetQueue hands on. -/
theorem zzSet_any {w : World} {t r q f : Value} {Q : Ending → World → Prop} (hQ : ∀ e w', Q e w' → e = .returned (.tuple #[])) (h : Calls Try.prog 29 #[t, r, q, f] w Q) : Calls Try.prog 16 #[t, r, q, f] w Q := by
  have H : Hid (Calls Try.prog 29 #[t, r, q, f] w Q) := h
  clear h
  go_enter Try.func16, Try.ntmps16
  go_wp2_with fail
  refine H.out.mono ?_
  intro e w1 hq
  have he := hQ e w1 hq
  subst he
  have HQ : Hid (Q (.returned (.tuple #[])) w1) := hq
  clear hq hQ
  go_wp2_with fail
  go_end0
  exact HQ.out
end Go.Proofs.Qxb6612390a
