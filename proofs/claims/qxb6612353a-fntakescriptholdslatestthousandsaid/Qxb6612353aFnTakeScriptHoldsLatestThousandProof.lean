/-
  Any script of takes leaves the latest thousand and their figures: the tests ahead of the work, the opening of the argument, and the row's step.
-/
import Derived.Test.Qxb6612353aScript
import Derived.Deep.SlicePairs
namespace Go.Proofs.Qxb6612353a.fnTakeScriptHoldsLatestThousand
open Go.ChangeShapes Go.WideShapes Go.ChangeAt Go.RowKit
set_option linter.unusedVariables false

set_option maxRecDepth 100000 in
set_option maxHeartbeats 1000000 in
theorem walk_out (a : Option Addr) (len cap : Nat) (w : World) (hlm : len ≤ maxLen) (h : ¬ len ≤ 4096) : Calls Try.prog 4 #[.slice a len cap] w (Done w) := by
  have H23 : Hid (Calls Try.prog 23 #[.slice a len cap] w fun e w' => (∃ b : Bool, e = .returned (.bool b)) ∧ w' = w) := bytes_any a len cap w hlm
  have hgt : (4096 : Int) < (len : Int) := by omega
  unfold maxLen at hlm
  go_enter Try.func4, Try.ntmps4
  go_upto_if 9 with (go_at_call 23; refine Calls.mono H23.out ?_; rintro e w' ⟨⟨b, rfl⟩, hw⟩; rw [hw]; clear hw)
  clear H23
  cases b
  · go_wp2_with fail
    go_ret
    exact ⟨rfl, New.refl _⟩
  · go_wp2_with fail
    go_ret
    exact ⟨rfl, New.refl _⟩

theorem walk (a : Option Addr) (cap : Nat) (hist : List Oc) (w : World) (hS : Outs w a hist) (hok : ∀ o ∈ hist, o.ok) (hcap : hist.length ≤ cap) (hlm : hist.length ≤ maxLen) :
    Calls Try.prog 4 #[.slice a hist.length cap] w fun e w' => e = .returned (.bool true) ∧ Below w.heap.size w w' := by
  have key : Calls Try.prog 4 #[.slice a hist.length cap] w (Done w) := by
    by_cases h : hist.length ≤ 4096
    · exact walk_in a cap hist w hS hok h hcap
    · exact walk_out a hist.length cap w hlm h
  exact key.mono fun e w' ⟨h1, h2⟩ => ⟨h1, h2.below (Nat.le_refl _) (fun _ _ h => h)⟩

theorem own : ownKnob Try.prog.godebug = none := by kernel_rfl
theorem laidOut : laidOutB Try.prog = true := by kernel_rfl
theorem cells25 : Try.prog.cellsOf 25 = 3 := by kernel_rfl
theorem cells2 : Try.prog.cellsOf 2 = 1 := by kernel_rfl
theorem cells3 : Try.prog.cellsOf 3 = 1 := by kernel_rfl
theorem cells4 : Try.prog.cellsOf 4 = 1 := by kernel_rfl
theorem cells_plain {w : World} {a : Addr} {v : Value} (h : w.cell? (a.add 0) = some v) : ∃ b off, a = ⟨b, off, none⟩ := by
  obtain ⟨b, off, spot⟩ := a
  have hspot : spot = none := by simpa [Addr.add] using World.cell?_spot h
  subst hspot
  exact ⟨b, off, rfl⟩
theorem add_at (b off j : Nat) : (⟨b, off, none⟩ : Addr).add j = ⟨b, off + j, none⟩ := by
  unfold Addr.add
  split
  · rename_i e
    rw [e]
    rfl
  · rfl
theorem wf_range_i64 {z : Int} (h : (Lit.int .i64 z).wf = true) : -9223372036854775808 ≤ z ∧ z ≤ 9223372036854775807 := by
  have h1 : IntKind.i64.min = -9223372036854775808 := rfl
  have h2 : IntKind.i64.max = 9223372036854775807 := rfl
  simp only [Lit.wf, Bool.and_eq_true, decide_eq_true_eq, h1, h2] at h
  exact h

/-- The argument opened: a row of outcomes. -/
theorem outs_of {H : Type} {enc : TypeId × Value → H} {W : World} {a : Option Addr} {len cap : Nat} {d : DataW H} {p : List MemPlace}
    (h : DataW.Trod enc Try.prog W 0 (fun _ => true) true 22 (.slice a len cap) d p) : ∃ hist : List Oc, hist.length = len ∧ len ≤ cap ∧ len ≤ maxLen ∧ Outs W a hist ∧ ∀ o ∈ hist, o.ok := by
  obtain ⟨fuel, hf⟩ := h
  rcases Go.Deep.open_slice Try.underlying22 hf with ⟨hcs, _⟩ | ⟨x, l, c, m, n, D, Pl, hcs, _, hl, hm, hmm, _, hx⟩
  · simp [Value.cells] at hcs
    obtain ⟨rfl, rfl, rfl⟩ := hcs
    exact ⟨[], rfl, by omega, by unfold maxLen; omega, fun i o hi => by simp at hi, fun o ho => by simp at ho⟩
  · simp [Value.cells] at hcs
    obtain ⟨rfl, rfl, rfl⟩ := hcs
    simp at hmm
    subst hmm
    have each : ∀ i, i < m → ∃ q : Int × Bool × Int, W.cell? (x.add (i * 3)) = some (.int .i64 q.1) ∧ W.cell? (x.add (i * 3 + 1)) = some (.bool q.2.1) ∧ W.cell? (x.add (i * 3 + 2)) = some (.int .i64 q.2.2) ∧ (-9223372036854775808 ≤ q.1 ∧ q.1 ≤ 9223372036854775807) ∧ (-9223372036854775808 ≤ q.2.2 ∧ q.2.2 ≤ 9223372036854775807) := fun i hi => by
      obtain ⟨cs', h1, h2⟩ := hx i hi
      rw [cells25] at h1
      obtain ⟨_, hlen, hcell⟩ := World.cells?_some h1
      obtain ⟨xs, k, hk, hxy, _, hxl, hfs⟩ := DataW.trod_struct Try.underlying25 h2
      match xs, hxl, cs', hlen with
      | [y0, y1, y2], _, [v0, v1, v2], _ =>
        have g0 := hfs 0 _ rfl
        have g1 := hfs 1 _ rfl
        have g2 := hfs 2 _ rfl
        simp [cells2, cells3, cells4] at g0 g1 g2
        have e0 := hcell 0 (by omega)
        have e1 := hcell 1 (by omega)
        have e2 := hcell 2 (by omega)
        rw [Go.Deep.add_add] at e0 e1 e2
        obtain ⟨z0, hz0, _, hw0⟩ := DataW.trod_int Try.underlying3 g0
        obtain ⟨z1, hz1, _⟩ := DataW.trod_bool Try.underlying4 g1
        obtain ⟨z2, hz2, _, hw2⟩ := DataW.trod_int Try.underlying2 g2
        simp at hz0 hz1 hz2
        subst hz0 hz1 hz2
        exact ⟨(z0, z1, z2), by simpa using e0, by simpa using e1, by simpa using e2, wf_range_i64 hw0, wf_range_i64 hw2⟩
    obtain ⟨F, hF⟩ := Go.Deep.choose_lt each
    refine ⟨(List.range len).map (fun i => ⟨(F i).1, (F i).2.1, (F i).2.2⟩), by simp, hl, by omega, fun i o ho => ?_, fun o ho => ?_⟩
    · rw [List.getElem?_map] at ho
      obtain ⟨j, hj, rfl⟩ := Option.map_eq_some_iff.1 ho
      have hil : i < len := by have := (List.getElem?_eq_some_iff.1 hj).1; simpa using this
      obtain rfl : j = i := by
        have := (List.getElem?_eq_some_iff.1 hj).2
        simpa using this.symm
      obtain ⟨b, off, rfl⟩ := cells_plain (by simpa using (hF 0 (by omega)).1)
      obtain ⟨h0, h1, h2, _⟩ := hF j (by omega)
      rw [add_at] at h0 h1 h2
      exact ⟨b, off, rfl, h0, h1, h2⟩
    · obtain ⟨j, hj, rfl⟩ := List.mem_map.1 ho
      have := List.mem_range.1 hj
      obtain ⟨_, _, _, h3, h4⟩ := hF j (by omega)
      exact ⟨h3, h4⟩

set_option maxRecDepth 100000 in
theorem lifted (os : Os) (started : os.Started) (H : Type) (enc : TypeId × Value → H) :
    ReturnsInHanded {} Try.checked os 4 .any (Rows.fnTakeScriptHoldsLatestThousandSpec.pre6 enc Try.prog Try.f4 Rows.fnTakeScriptHoldsLatestThousandRow.domain false) (Rows.fnTakeScriptHoldsLatestThousandSpec.post enc Try.prog Try.f4 false true false false) := by
  refine returnsInHanded_of_change (C := Try.checked) own started (by kernel_rfl) Try.func4
    (ChangeSpec.witness6 (enc := enc) (C := Try.checked) false ⟨#[], #[.slice none 0 0], []⟩ 8 (by kernel_rfl) (by kernel_rfl) (by kernel_rfl) (by kernel_rfl)) ?_
  intro W base args ds gs before hval0 hW hcnd _
  have hval : ∀ (j : Nat) t v, Try.f4.params[j]? = some t → args[j]? = some v → Value.okWide Try.prog W .any base t v := hval0
  have hW' := hW
  obtain ⟨p, q, hA0, hV, rfl, hfz, hnd⟩ := hW
  have hA : DataW.TrodAll enc Try.prog W 0 (fun _ => true) true Try.f4.params.toList args.toList ds p := hA0
  rw [Try.params4] at hA hval
  obtain ⟨v0, vs0, d0, ds0, p0, q0, hargs, rfl, rfl, h0, r0⟩ := trodAll_cons hA
  obtain ⟨rfl, rfl, rfl⟩ := trodAll_nil r0
  obtain rfl : args = #[v0] := by cases args; simp_all
  obtain ⟨rfl, rfl⟩ := trodVars_none hV
  obtain ⟨a0, len0, cap0, rfl⟩ := okWide_slice Try.underlying22 (hval 0 22 v0 rfl rfl)
  have k0 := h0
  have lt0 : ∀ x ∈ p0, x.block < W.heap.size := by obtain ⟨m, hm⟩ := k0; exact DataW.trod_lt m _ _ _ hm
  obtain ⟨hist, rfl, hlc, hlm, hS, hok⟩ := outs_of h0
  clear hA0 hval0
  refine (walk a0 cap0 hist W hS hok hlc hlm).mono fun e W' ⟨he, bel⟩ => ?_
  subst he
  exact ⟨_, rfl, _, _, _, [], _, [], hW', trodAll_mk1 (shut_bool Try.underlying4 _), (trodAll_cons_mk (Below.trod laidOut (by kernel_rfl) (of_decide_eq_true (by kernel_rfl)) k0 bel lt0) trodAll_mk0), rfl, bel.frame _, fun h => by cases h⟩

theorem over : Rows.fnTakeScriptHoldsLatestThousandRow.holds Try.pinned (OpenSpec.ofChange Rows.fnTakeScriptHoldsLatestThousandSpec) :=
  OpenClaim.holds_of_wide 4 Try.f4 rfl rfl rfl rfl rfl rfl rfl ⟨rfl, rfl, rfl, rfl, rfl⟩ rfl rfl rfl rfl rfl (by kernel_rfl) Try.func4 (by kernel_rfl)
    (of_decide_eq_true (by kernel_rfl)) (by unfold Func.isWrapper; first | (rw [if_pos (by decide +kernel)]; kernel_rfl) | (rw [if_neg (by decide +kernel)]; exact ⟨rfl, rfl⟩))
    (fun os started H enc _ => lifted os started H enc)

/-- ████ THE STATEMENT ████ -/
theorem proved : Rows.FnTakeScriptHoldsLatestThousandSaid := over
#print axioms proved
end Go.Proofs.Qxb6612353a.fnTakeScriptHoldsLatestThousand
