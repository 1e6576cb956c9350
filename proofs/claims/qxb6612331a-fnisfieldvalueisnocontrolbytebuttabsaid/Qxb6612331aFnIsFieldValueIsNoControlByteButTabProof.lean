/-
  AFTER THE SHELL OF A PROOF OF 'Rows.FnIsFieldValueIsNoControlByteButTabSaid' ('example.com/nonce/nonce/zzlaws_root_b1.FnIsFieldValueIsNoControlByteButTab'), WRITTEN BY PROGRAM (proof-skeleton.mjs) off the guide's own print for that function. Not trusted: Lean checks it.
  THE HOLES ARE FILLED. ALL ELSE IS THE GUIDE's TEMPLATE (howto/template/XProofs.lean) at this function's number and types: leave it.
-/
import Derived.Test.Qxb6612331aRows
import Derived.Test.Qxb6612331aWalks
import Derived.WalkKit
import Derived.ProofKit
import Derived.OpenShut
import Derived.ShutString
namespace Go.Proofs.Qxb6612331a.fnIsFieldValueIsNoControlByteButTab
open Go.ChangeShapes Go.WideShapes Go.ChangeAt Go.RowKit
open Go.ChangeMaps (open_string shut_string)
set_option linter.unusedVariables false      -- a walk need not use every 'w<i>' (that an integer argument fits its kind)

theorem own : ownKnob Try.prog.godebug = none := by kernel_rfl

theorem bytes_any (a0 : ByteArray) (w0 : a0.size ≤ maxLen) (w : World) :
    Calls Try.prog 5 #[.string a0] w fun e w' => ∃ n : Nat, e = .returned (.bool (n == 0)) ∧ w' = w := by
  unfold maxLen at *
  go_enter Try.func5, Try.ntmps5
  go_wp2
  all_goals go_ret
  all_goals first
    | exact ⟨0, rfl, rfl⟩
    | exact ⟨1, rfl, rfl⟩

theorem take_snoc (s : ByteArray) (k : Nat) (h : k < s.size) : s.data.toList.take (k + 1) = s.data.toList.take k ++ [s[k]] := by
  rw [List.take_succ_eq_append_getElem (by simpa using h)]; rfl
theorem field_snoc (l : List UInt8) (c : UInt8) : fieldOK (l ++ [c]) = (fieldOK l && okN c.toNat) := by
  simp [fieldOK, okB]

set_option maxHeartbeats 400000 in
theorem walk (a0 : ByteArray) (w0 : a0.size ≤ maxLen) (w : World) :
    Calls Try.prog 3 #[.string a0] w fun e w' => e = .returned (.bool true) ∧ Grown w w' := by
  go_enter Try.func3, Try.ntmps3
  go_wp2_with fail
  refine (bytes_any a0 w0 _).mono ?_
  rintro e w' ⟨n, rfl, rfl⟩
  generalize (n == 0) = b
  cases b
  · go_wp2_with fail
    go_ret
    exact ⟨rfl, Grown.refl _⟩
  unfold maxLen at w0
  go_wp2_with fail
  · go_ret
    exact ⟨rfl, Grown.refl _⟩
  go_loop [3, 4] (fun g i => ∃ k : Nat, k ≤ a0.size ∧ i = .int .i64 k ∧ g = .bool (fieldOK (a0.data.toList.take k))) (fun _ i => a0.size - (intOf i).toNat)
  case atStart => exact ⟨0, Nat.zero_le _, rfl, rfl⟩
  case round =>
    obtain ⟨k, hk, rfl, rfl⟩ := hrel
    by_cases hlt : k < a0.size
    · have HS : Hid (fieldOK (a0.data.toList.take (k + 1)) = (fieldOK (a0.data.toList.take k) && okN (a0[k].toNat : Int))) := by
        show fieldOK (a0.data.toList.take (k + 1)) = _
        rw [take_snoc a0 k hlt, field_snoc]
      generalize ho : okN (a0[k].toNat : Int) = ob at HS
      have HO : Hid (okN (a0[k].toNat : Int) = ob) := ho
      clear ho
      go_wp2_with fail
      refine (byteOK_any _ _).mono ?_
      rintro e w' ⟨rfl, rfl⟩
      rw [HO.out]
      cases ob
      all_goals
        go_wp2_with fail
        go_round
        case rel => exact ⟨k + 1, by omega, by go_num, by rw [HS.out]; simp⟩
        case measure => simp [intOf]; omega
    · have e6 : a0.data.toList.take k = a0.data.toList := List.take_of_length_le (by simp; omega)
      rw [e6]
      clear e6
      go_wp2_with fail
      refine (field_any a0 _).mono ?_
      rintro e w1 ⟨rfl, hg⟩
      go_wp2_with fail
      go_ret
      exact ⟨by simp, hg⟩

/-! ### THE ROW's STEP: WRITTEN OUT: LEAVE IT -/
set_option maxRecDepth 100000 in
theorem lifted (os : Os) (started : os.Started) (H : Type) (enc : TypeId × Value → H) :
    ReturnsInHanded {} Try.checked os 3 .any (Rows.fnIsFieldValueIsNoControlByteButTabSpec.pre6 enc Try.prog Try.f3 Rows.fnIsFieldValueIsNoControlByteButTabRow.domain false) (Rows.fnIsFieldValueIsNoControlByteButTabSpec.post enc Try.prog Try.f3 false true false false) := by
  refine returnsInHanded_of_change (C := Try.checked) own started (by kernel_rfl) Try.func3
    (ChangeSpec.witness6 (enc := enc) (C := Try.checked) false ⟨#[], #[.string ByteArray.empty], []⟩ 8 (by kernel_rfl) (by kernel_rfl) (by kernel_rfl) (by kernel_rfl)) ?_
  intro W base args ds gs before hval0 hW hcnd _
  have hval : ∀ (j : Nat) t v, Try.f3.params[j]? = some t → args[j]? = some v → Value.okWide Try.prog W .any base t v := hval0
  have hW' := hW
  obtain ⟨p, q, hA0, hV, rfl, hfz, hnd⟩ := hW
  have hA : DataW.TrodAll enc Try.prog W 0 (fun _ => true) true Try.f3.params.toList args.toList ds p := hA0
  rw [Try.params3] at hA hval
  obtain ⟨v0, vs0, d0, ds0, p0, q0, hargs, rfl, rfl, h0, r0⟩ := trodAll_cons hA
  obtain ⟨rfl, rfl, rfl⟩ := trodAll_nil r0
  obtain rfl : args = #[v0] := by cases args; simp_all
  obtain ⟨rfl, rfl⟩ := trodVars_none hV
  obtain ⟨a0, rfl, rfl, rfl, w0⟩ := open_string Try.underlying9 (hval 0 9 v0 rfl rfl) h0
  clear hA0 hval0
  simp only [List.append_nil] at hW'
  refine (walk a0 w0 W).mono fun e W' ⟨he, hg⟩ => ?_
  subst he
  exact ⟨_, rfl, post_of_same (pa := []) (pv := []) hW' (fun _ _ _ => (trodAll_cons_mk (shut_bool Try.underlying4 _) trodAll_mk0)) (fun sp _ => (trodAll_cons_mk (shut_string Try.underlying9 w0) trodAll_mk0)) (fun _ _ => rfl) rfl
    (hg.frame _) hg.2.1 (ok_one (by kernel_rfl) rfl (okWide_bool_mk Try.underlying4 _))⟩

theorem over : Rows.fnIsFieldValueIsNoControlByteButTabRow.holds Try.pinned (OpenSpec.ofChange Rows.fnIsFieldValueIsNoControlByteButTabSpec) :=
  OpenClaim.holds_of_wide 3 Try.f3 rfl rfl rfl rfl rfl rfl rfl ⟨rfl, rfl, rfl, rfl, rfl⟩ rfl rfl rfl rfl rfl (by kernel_rfl) Try.func3 (by kernel_rfl)
    (of_decide_eq_true (by kernel_rfl)) (by unfold Func.isWrapper; first | (rw [if_pos (by decide +kernel)]; kernel_rfl) | (rw [if_neg (by decide +kernel)]; exact ⟨rfl, rfl⟩))
    (fun os started H enc _ => lifted os started H enc)

/-- ████ THE STATEMENT ████ -/
theorem proved : Rows.FnIsFieldValueIsNoControlByteButTabSaid :=
  over
#print axioms proved
end Go.Proofs.Qxb6612331a.fnIsFieldValueIsNoControlByteButTab
