/-
  AFTER THE SHELL OF A PROOF OF 'Rows.FnIsFieldValueSplicesByteByByteSaid' ('example.com/nonce/nonce/zzlaws_root_b1.FnIsFieldValueSplicesByteByByte'), WRITTEN BY PROGRAM (proof-skeleton.mjs) off the guide's own print for that function. Not trusted: Lean checks it.
  THE HOLES ARE FILLED. ALL ELSE IS THE GUIDE's TEMPLATE (howto/template/XProofs.lean) at this function's number and types: leave it.
-/
import Derived.Test.Qxb6612331aRows
import Derived.Test.Qxb6612331aWalks
import Derived.WalkKit
import Derived.ProofKit
import Derived.OpenShut
import Derived.ShutString
namespace Go.Proofs.Qxb6612331a.fnIsFieldValueSplicesByteByByte
open Go.ChangeShapes Go.WideShapes Go.ChangeAt Go.RowKit
open Go.ChangeMaps (open_string shut_string)
set_option linter.unusedVariables false      -- a walk need not use every 'w<i>' (that an integer argument fits its kind)

theorem own : ownKnob Try.prog.godebug = none := by kernel_rfl

theorem bytes_any (a0 a1 : ByteArray) (a2 : Int) (w0 : a0.size ≤ maxLen) (w1 : a1.size ≤ maxLen) (w : World) :
    Calls Try.prog 8 #[.string a0, .string a1, .int .u8 a2] w fun e w' => ∃ n : Nat, e = .returned (.bool (n == 0)) ∧ w' = w := by
  unfold maxLen at *
  go_enter Try.func8, Try.ntmps8
  go_wp2
  all_goals go_ret
  all_goals first
    | exact ⟨0, rfl, rfl⟩
    | exact ⟨1, rfl, rfl⟩

theorem conv_one (a2 : Int) (w : World) : (convert 25 9 (.slice (some ⟨w.heap.size, 0, none⟩) 1 1)).run Try.prog (w.alloc (.cells #[.int .u8 a2] 5)) =
    .ok (.string ⟨#[UInt8.ofNat a2.toNat]⟩) (w.alloc (.cells #[.int .u8 a2] 5)) := by
  rw [run_convert_bytes_string _ 25 9 5 _ 1 1 Try.underlying25 Try.underlying5 Try.underlying9]
  have h : (loadCells ⟨w.heap.size, 0, none⟩ 1).run Try.prog (w.alloc (.cells #[.int .u8 a2] 5)) = .ok (([a2] : List Int).map (Value.int .u8)).toArray (w.alloc (.cells #[.int .u8 a2] 5)) := by
    simp [go_sem]
  rw [run_bytesToString _ _ 1 1 [a2] h]
  rfl

theorem field_append (a b : List UInt8) : fieldOK (a ++ b) = (fieldOK a && fieldOK b) := by simp [fieldOK]
theorem field_one (a2 : Int) (h0 : 0 ≤ a2) (h1 : a2 < 256) : fieldOK [UInt8.ofNat a2.toNat] = okN a2 := by
  have : ((UInt8.ofNat a2.toNat).toNat : Int) = a2 := by simp; omega
  unfold fieldOK okB
  rw [List.all_cons, List.all_nil, Bool.and_true, this]

set_option maxHeartbeats 400000 in
theorem walk (a0 : ByteArray) (a1 : ByteArray) (a2 : Int) (w0 : a0.size ≤ maxLen) (w1 : a1.size ≤ maxLen) (w2 : (Lit.int .u8 a2).wf = true) (w : World) :
    Calls Try.prog 4 #[.string a0, .string a1, .int .u8 a2] w fun e w' => e = .returned (.bool true) ∧ Grown w w' := by
  have HB := bounds_u8 w2
  have HF : Hid (fieldOK [UInt8.ofNat a2.toNat] = okN a2) := field_one a2 (by omega) (by omega)
  clear w2
  go_enter Try.func4, Try.ntmps4
  go_wp2_with fail
  refine (bytes_any a0 a1 a2 w0 w1 _).mono ?_
  rintro e w' ⟨n, rfl, rfl⟩
  generalize (n == 0) = b
  cases b
  · go_wp2_with fail
    go_ret
    exact ⟨rfl, Grown.refl _⟩
  unfold maxLen at w0 w1
  have hcv := conv_one a2 w'
  obtain ⟨one, hone⟩ : ∃ one : ByteArray, one = ⟨#[UInt8.ofNat a2.toNat]⟩ := ⟨_, rfl⟩
  rw [← hone] at hcv
  have hs1 : one.size ≤ 1 := by rw [hone]; exact Nat.le_refl _
  have H1 : Hid (one.data.toList = [UInt8.ofNat a2.toNat]) := by show one.data.toList = _; rw [hone]
  clear hone
  go_wp2_with fail
  · go_ret
    exact ⟨rfl, Grown.refl _⟩
  · clear hcv
    refine (field_any one _).mono ?_
    rintro e w3 ⟨rfl, hg3⟩
    go_wp2_with fail
    refine (field_any _ _).mono ?_
    rintro e w4 ⟨rfl, hg4⟩
    have e1 : fieldOK ((a0 ++ one ++ a1).data.toList) = (fieldOK a0.data.toList && okN a2 && fieldOK a1.data.toList) := by
      rw [ByteArray.data_append, ByteArray.data_append, Array.toList_append, Array.toList_append, field_append, field_append, H1.out, HF.out]
    rw [e1, H1.out, HF.out]
    clear e1 H1 HF
    generalize hfa : fieldOK a0.data.toList = fa
    have HA : Hid (fieldOK a0.data.toList = fa) := hfa
    generalize hfb : fieldOK a1.data.toList = fb
    have HC : Hid (fieldOK a1.data.toList = fb) := hfb
    generalize hoc : okN a2 = oc
    have HO : Hid (okN a2 = oc) := hoc
    clear hfa hfb hoc
    cases oc <;> cases fa <;> cases fb
    all_goals
      go_wp2_with fail
      refine (byteOK_any _ _).mono ?_
      rintro e w5 ⟨rfl, rfl⟩
      rw [HO.out]
      go_wp2_with fail
      refine (field_any a0 _).mono ?_
      rintro e w6 ⟨rfl, hg6⟩
      rw [HA.out]
      go_wp2_with fail
      first
        | (go_ret
           exact ⟨by simp, grown_trans (grown_trans (grown_trans ((Grown.refl _).alloc _ _) hg3) hg4) hg6⟩)
        | (refine (field_any a1 _).mono ?_
           rintro e w7 ⟨rfl, hg7⟩
           rw [HC.out]
           go_wp2_with fail
           go_ret
           exact ⟨by simp, grown_trans (grown_trans (grown_trans (grown_trans ((Grown.refl _).alloc _ _) hg3) hg4) hg6) hg7⟩)
  · go_ret
    exact ⟨rfl, Grown.refl _⟩

/-! ### THE ROW's STEP: WRITTEN OUT: LEAVE IT -/
set_option maxRecDepth 100000 in
theorem lifted (os : Os) (started : os.Started) (H : Type) (enc : TypeId × Value → H) :
    ReturnsInHanded {} Try.checked os 4 .any (Rows.fnIsFieldValueSplicesByteByByteSpec.pre6 enc Try.prog Try.f4 Rows.fnIsFieldValueSplicesByteByByteRow.domain false) (Rows.fnIsFieldValueSplicesByteByByteSpec.post enc Try.prog Try.f4 false true false false) := by
  refine returnsInHanded_of_change (C := Try.checked) own started (by kernel_rfl) Try.func4
    (ChangeSpec.witness6 (enc := enc) (C := Try.checked) false ⟨#[], #[.string ByteArray.empty, .string ByteArray.empty, .int .u8 0], []⟩ 8 (by kernel_rfl) (by kernel_rfl) (by kernel_rfl) (by kernel_rfl)) ?_
  intro W base args ds gs before hval0 hW hcnd _
  have hval : ∀ (j : Nat) t v, Try.f4.params[j]? = some t → args[j]? = some v → Value.okWide Try.prog W .any base t v := hval0
  have hW' := hW
  obtain ⟨p, q, hA0, hV, rfl, hfz, hnd⟩ := hW
  have hA : DataW.TrodAll enc Try.prog W 0 (fun _ => true) true Try.f4.params.toList args.toList ds p := hA0
  rw [Try.params4] at hA hval
  obtain ⟨v0, vs0, d0, ds0, p0, q0, hargs, rfl, rfl, h0, r0⟩ := trodAll_cons hA
  obtain ⟨v1, vs1, d1, ds1, p1, q1, rfl, rfl, rfl, h1, r1⟩ := trodAll_cons r0
  obtain ⟨v2, vs2, d2, ds2, p2, q2, rfl, rfl, rfl, h2, r2⟩ := trodAll_cons r1
  obtain ⟨rfl, rfl, rfl⟩ := trodAll_nil r2
  obtain rfl : args = #[v0, v1, v2] := by cases args; simp_all
  obtain ⟨rfl, rfl⟩ := trodVars_none hV
  obtain ⟨a0, rfl, rfl, rfl, w0⟩ := open_string Try.underlying9 (hval 0 9 v0 rfl rfl) h0
  obtain ⟨a1, rfl, rfl, rfl, w1⟩ := open_string Try.underlying9 (hval 1 9 v1 rfl rfl) h1
  obtain ⟨a2, rfl, rfl, rfl, w2⟩ := open_int Try.underlying5 (hval 2 5 v2 rfl rfl) h2
  clear hA0 hval0
  simp only [List.append_nil] at hW'
  refine (walk a0 a1 a2 w0 w1 w2 W).mono fun e W' ⟨he, hg⟩ => ?_
  subst he
  exact ⟨_, rfl, post_of_same (pa := []) (pv := []) hW' (fun _ _ _ => (trodAll_cons_mk (shut_bool Try.underlying4 _) trodAll_mk0)) (fun sp _ => (trodAll_cons_mk (shut_string Try.underlying9 w0) (trodAll_cons_mk (shut_string Try.underlying9 w1) (trodAll_cons_mk (shut_int Try.underlying5 w2) trodAll_mk0)))) (fun _ _ => rfl) rfl
    (hg.frame _) hg.2.1 (ok_one (by kernel_rfl) rfl (okWide_bool_mk Try.underlying4 _))⟩

theorem over : Rows.fnIsFieldValueSplicesByteByByteRow.holds Try.pinned (OpenSpec.ofChange Rows.fnIsFieldValueSplicesByteByByteSpec) :=
  OpenClaim.holds_of_wide 4 Try.f4 rfl rfl rfl rfl rfl rfl rfl ⟨rfl, rfl, rfl, rfl, rfl⟩ rfl rfl rfl rfl rfl (by kernel_rfl) Try.func4 (by kernel_rfl)
    (of_decide_eq_true (by kernel_rfl)) (by unfold Func.isWrapper; first | (rw [if_pos (by decide +kernel)]; kernel_rfl) | (rw [if_neg (by decide +kernel)]; exact ⟨rfl, rfl⟩))
    (fun os started H enc _ => lifted os started H enc)

/-- ████ THE STATEMENT ████ -/
theorem proved : Rows.FnIsFieldValueSplicesByteByByteSaid :=
  over
#print axioms proved
end Go.Proofs.Qxb6612331a.fnIsFieldValueSplicesByteByByte
