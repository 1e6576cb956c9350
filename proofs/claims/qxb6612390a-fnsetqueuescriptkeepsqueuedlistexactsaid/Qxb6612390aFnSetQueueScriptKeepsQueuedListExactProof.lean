/-
  Any script of setQueue calls keeps the queued list exact: the tests ahead of the work, and the row's step.
-/
import Derived.Test.Qxb6612390aScriptWalk
import Derived.Deep.SlicePairs
namespace Go.Proofs.Qxb6612390a.fnSetQueueScriptKeepsQueuedListExact
open Go.ChangeShapes Go.WideShapes Go.ChangeAt Go.RowKit
set_option linter.unusedVariables false

set_option maxRecDepth 100000 in
set_option maxHeartbeats 1000000 in
theorem walk_out (x : Int) (a : Option Addr) (len cap : Nat) (w : World) (hlm : len ≤ maxLen) (h : ¬ (len ≤ 4096 ∧ 1 ≤ x ∧ x ≤ 4096)) : Calls Try.prog 5 #[.int .i64 x, .slice a len cap] w (Done w) := by
  have HN : Hid (¬ (len ≤ 4096 ∧ 1 ≤ x ∧ x ≤ 4096)) := h
  clear h
  go_enter Try.func5, Try.ntmps5
  go_wp2_with fail
  refine (bytes_any _ a len cap _ hlm).mono ?_
  rintro e w' ⟨b, rfl, hw⟩
  rw [hw]
  clear hw
  cases b
  · go_wp2_with fail
    go_ret
    exact ⟨rfl, Below.refl _ _⟩
  unfold maxLen at hlm
  by_cases h1 : (len : Int) ≤ 4096
  case neg =>
    go_wp2_with fail
    go_ret
    exact ⟨rfl, Below.refl _ _⟩
  by_cases h2 : 1 ≤ x
  case neg =>
    go_wp2_with fail
    go_ret
    exact ⟨rfl, Below.refl _ _⟩
  by_cases h3 : x ≤ 4096
  case neg =>
    go_wp2_with fail
    go_ret
    exact ⟨rfl, Below.refl _ _⟩
  exact absurd ⟨by omega, h2, h3⟩ HN.out

theorem walk (x : Int) (a : Option Addr) (len cap : Nat) (S : Nat → Int × Int) (w : World) (hS : StepsI w a len S) (hlm : len ≤ maxLen) :
    Calls Try.prog 5 #[.int .i64 x, .slice a len cap] w fun e w' => e = .returned (.bool true) ∧ Below w.heap.size w w' := by
  by_cases h : len ≤ 4096 ∧ 1 ≤ x ∧ x ≤ 4096
  · obtain ⟨h1, h2, h3⟩ := h
    obtain ⟨nres, rfl⟩ := Int.eq_ofNat_of_zero_le (by omega : 0 ≤ x)
    exact walk_in nres a len cap S w hS h1 (by omega) (by omega) hlm
  · exact walk_out x a len cap w hlm h

theorem own : ownKnob Try.prog.godebug = none := by kernel_rfl
theorem laidOut : laidOutB Try.prog = true := by kernel_rfl
theorem cells50 : Try.prog.cellsOf 50 = 2 := by kernel_rfl
theorem cells3 : Try.prog.cellsOf 3 = 1 := by kernel_rfl
theorem cells_plain {w : World} {a : Addr} {v : Value} (h : w.cell? (a.add 0) = some v) : ∃ b off, a = ⟨b, off, none⟩ := by
  obtain ⟨b, off, spot⟩ := a
  have hspot : spot = none := by simpa [Addr.add] using World.cell?_spot h
  subst hspot
  exact ⟨b, off, rfl⟩
theorem add_at (b off j : Nat) : (⟨b, off, none⟩ : Addr).add j = ⟨b, off + j, none⟩ := by
  unfold Addr.add
  split
  · rename_i e
    rw [e]
    rfl
  · rfl
theorem wf_range_i64 {z : Int} (h : (Lit.int .i64 z).wf = true) : -9223372036854775808 ≤ z ∧ z ≤ 9223372036854775807 := by
  have h1 : IntKind.i64.min = -9223372036854775808 := rfl
  have h2 : IntKind.i64.max = 9223372036854775807 := rfl
  simp only [Lit.wf, Bool.and_eq_true, decide_eq_true_eq, h1, h2] at h
  exact h

theorem steps_of {H : Type} {enc : TypeId × Value → H} {W : World} {a : Option Addr} {len cap : Nat} {d : DataW H} {p : List MemPlace}
    (h : DataW.Trod enc Try.prog W 0 (fun _ => true) true 47 (.slice a len cap) d p) : ∃ S, len ≤ maxLen ∧ StepsI W a len S := by
  obtain ⟨fuel, hf⟩ := h
  rcases Go.Deep.open_slice_pairs Try.underlying47 Try.underlying50 cells50 rfl rfl cells3 cells3 hf with ⟨hcs, _⟩ | ⟨x, l, c, m, n, V0, V1, D0, D1, P0, P1, hcs, _, hl, hm, hmm, _, hx⟩
  · simp [Value.cells] at hcs
    obtain ⟨rfl, rfl, rfl⟩ := hcs
    exact ⟨fun _ => (0, 0), by unfold maxLen; omega, fun i hi => by omega⟩
  · simp [Value.cells] at hcs
    obtain ⟨rfl, rfl, rfl⟩ := hcs
    simp at hmm
    subst hmm
    have each : ∀ i, i < m → ∃ q : Int × Int, V0 i = .int .i64 q.1 ∧ V1 i = .int .i64 q.2 ∧ (-9223372036854775808 ≤ q.1 ∧ q.1 ≤ 9223372036854775807) ∧ (-9223372036854775808 ≤ q.2 ∧ q.2 ≤ 9223372036854775807) := fun i hi => by
      obtain ⟨_, _, h2, h3⟩ := hx i hi
      obtain ⟨y, hy, _, hv⟩ := DataW.trod_int Try.underlying3 h2
      obtain ⟨z, hz, _, hw⟩ := DataW.trod_int Try.underlying3 h3
      exact ⟨(y, z), by simpa using hy, by simpa using hz, wf_range_i64 hv, wf_range_i64 hw⟩
    obtain ⟨F, hF⟩ := Go.Deep.choose_lt each
    refine ⟨F, by omega, fun i hi => ?_⟩
    obtain ⟨b, off, rfl⟩ := cells_plain (by simpa using (hx 0 (by omega)).1)
    obtain ⟨h0, h1, _, _⟩ := hx i (by omega)
    obtain ⟨e0, e1, e2, e3⟩ := hF i (by omega)
    rw [add_at, e0] at h0
    rw [add_at, e1] at h1
    exact ⟨b, off, rfl, h0, h1, e2, e3⟩

set_option maxRecDepth 100000 in
theorem lifted (os : Os) (started : os.Started) (H : Type) (enc : TypeId × Value → H) :
    ReturnsInHanded {} Try.checked os 5 .any (Rows.fnSetQueueScriptKeepsQueuedListExactSpec.pre6 enc Try.prog Try.f5 Rows.fnSetQueueScriptKeepsQueuedListExactRow.domain false) (Rows.fnSetQueueScriptKeepsQueuedListExactSpec.post enc Try.prog Try.f5 false true false false) := by
  refine returnsInHanded_of_change (C := Try.checked) own started (by kernel_rfl) Try.func5
    (ChangeSpec.witness6 (enc := enc) (C := Try.checked) false ⟨#[], #[.int .i64 0, .slice none 0 0], []⟩ 8 (by kernel_rfl) (by kernel_rfl) (by kernel_rfl) (by kernel_rfl)) ?_
  intro W base args ds gs before hval0 hW hcnd _
  have hval : ∀ (j : Nat) t v, Try.f5.params[j]? = some t → args[j]? = some v → Value.okWide Try.prog W .any base t v := hval0
  have hW' := hW
  obtain ⟨p, q, hA0, hV, rfl, hfz, hnd⟩ := hW
  have hA : DataW.TrodAll enc Try.prog W 0 (fun _ => true) true Try.f5.params.toList args.toList ds p := hA0
  rw [Try.params5] at hA hval
  obtain ⟨v0, vs0, d0, ds0, p0, q0, hargs, rfl, rfl, h0, r0⟩ := trodAll_cons hA
  obtain ⟨v1, vs1, d1, ds1, p1, q1, rfl, rfl, rfl, h1, r1⟩ := trodAll_cons r0
  obtain ⟨rfl, rfl, rfl⟩ := trodAll_nil r1
  obtain rfl : args = #[v0, v1] := by cases args; simp_all
  obtain ⟨rfl, rfl⟩ := trodVars_none hV
  obtain ⟨a0, rfl, rfl, rfl, w0⟩ := open_int Try.underlying3 (hval 0 3 v0 rfl rfl) h0
  obtain ⟨a1, len1, cap1, rfl⟩ := okWide_slice Try.underlying47 (hval 1 47 v1 rfl rfl)
  have k1 := h1
  have lt1 : ∀ x ∈ p1, x.block < W.heap.size := by obtain ⟨m, hm⟩ := k1; exact DataW.trod_lt m _ _ _ hm
  obtain ⟨S, hl1, hS⟩ := steps_of h1
  clear hA0 hval0
  refine (walk a0 a1 len1 cap1 S W hS hl1).mono fun e W' ⟨he, bel⟩ => ?_
  subst he
  exact ⟨_, rfl, _, _, _, [], _, [], hW', trodAll_mk1 (shut_bool Try.underlying4 _), (trodAll_cons_mk (shut_int Try.underlying3 w0) (trodAll_cons_mk (Below.trod laidOut (by kernel_rfl) (of_decide_eq_true (by kernel_rfl)) k1 bel lt1) trodAll_mk0)), rfl, bel.frame _, fun h => by cases h⟩

theorem over : Rows.fnSetQueueScriptKeepsQueuedListExactRow.holds Try.pinned (OpenSpec.ofChange Rows.fnSetQueueScriptKeepsQueuedListExactSpec) :=
  OpenClaim.holds_of_wide 5 Try.f5 rfl rfl rfl rfl rfl rfl rfl ⟨rfl, rfl, rfl, rfl, rfl⟩ rfl rfl rfl rfl rfl (by kernel_rfl) Try.func5 (by kernel_rfl)
    (of_decide_eq_true (by kernel_rfl)) (by unfold Func.isWrapper; first | (rw [if_pos (by decide +kernel)]; kernel_rfl) | (rw [if_neg (by decide +kernel)]; exact ⟨rfl, rfl⟩))
    (fun os started H enc _ => lifted os started H enc)

/-- ████ THE STATEMENT ████ -/
theorem proved : Rows.FnSetQueueScriptKeepsQueuedListExactSaid := over
#print axioms proved
end Go.Proofs.Qxb6612390a.fnSetQueueScriptKeepsQueuedListExact
