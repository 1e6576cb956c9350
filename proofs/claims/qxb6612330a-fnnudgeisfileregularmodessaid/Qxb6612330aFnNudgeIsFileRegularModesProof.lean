/-
  AFTER THE SHELL OF A PROOF OF 'Rows.FnNudgeIsFileRegularModesSaid' ('example.com/ripplewake/ripplewake/zzlaws_pkg_nudge_b1.FnNudgeIsFileRegularModes'), WRITTEN BY PROGRAM (proof-skeleton.mjs) off the guide's own print for that function. Not trusted: Lean checks it.
  THE HOLES ARE FILLED. ALL ELSE IS THE GUIDE's TEMPLATE (howto/template/XProofs.lean) at this function's number and types: leave it.
-/
import Derived.Test.Qxb6612330aRows
import Derived.WalkKit
import Derived.ProofKit
import Derived.OpenShut
import Derived.ShutString
import Derived.WalkSpells
import Derived.WalkLawsBesides
namespace Go.Proofs.Qxb6612330a.fnNudgeIsFileRegularModes
open Go.ChangeShapes Go.WideShapes Go.ChangeAt Go.RowKit
open Go.ChangeMaps (open_string shut_string)
set_option linter.unusedVariables false      -- a walk need not use every 'w<i>' (that an integer argument fits its kind)

theorem own : ownKnob Try.prog.godebug = none := by kernel_rfl

theorem i64_and4095 (n : Int) : bits .and .i64 n 4095 = n % 4096 := by
  have h127 : (BitVec.ofInt 64 4095).toNat = 2 ^ 12 - 1 := by decide
  have key : (BitVec.ofInt 64 n &&& BitVec.ofInt 64 4095).toNat = (n % ((2 ^ 64 : Nat) : Int)).toNat % 2 ^ 12 := by
    rw [BitVec.toNat_and, BitVec.toNat_ofInt, h127, Nat.and_two_pow_sub_one_eq_mod]
  show IntKind.i64.wrap ((BitVec.ofInt 64 n &&& BitVec.ofInt 64 4095).toNat : Nat) = n % 4096
  rw [key, IntKind.wrap_i64]
  omega

/-- The value of octal digits. -/
def octv (l : List UInt8) : Int := l.foldl (fun a c => a * 8 + ((c.toNat : Int) - 48)) 0
def octd (c : UInt8) : Bool := decide (48 ≤ c.toNat ∧ c.toNat ≤ 55)

theorem octv_snoc (l : List UInt8) (c : UInt8) : octv (l ++ [c]) = octv l * 8 + ((c.toNat : Int) - 48) := by
  simp [octv]
theorem octd_snoc (l : List UInt8) (c : UInt8) : (l ++ [c]).all octd = (l.all octd && octd c) := by
  simp

theorem list6 (l : List UInt8) (h : l.length = 6) : ∃ a b c d e f, l = [a, b, c, d, e, f] := by
  match l, h with
  | [a, b, c, d, e, f], _ => exact ⟨a, b, c, d, e, f, rfl⟩

theorem byte_eq (c : UInt8) (n : Nat) (hn : n < 256) (h : c.toNat = n) : c = UInt8.ofNat n := by
  apply UInt8.toNat_inj.1
  rw [h]
  simp; omega

theorem octv_reads (l : List UInt8) (h6 : l.length = 6) (ho : l.all octd = true) :
    (octv l = 33188 ↔ l = [49, 48, 48, 54, 52, 52]) ∧ (octv l = 33261 ↔ l = [49, 48, 48, 55, 53, 53]) ∧ 0 ≤ octv l ∧ octv l ≤ 262143 := by
  obtain ⟨a, b, c, d, e, f, rfl⟩ := list6 l h6
  simp [octd] at ho
  have hv : octv [a, b, c, d, e, f] = (((((((a.toNat : Int) - 48) * 8 + ((b.toNat : Int) - 48)) * 8 + ((c.toNat : Int) - 48)) * 8 + ((d.toNat : Int) - 48)) * 8 + ((e.toNat : Int) - 48)) * 8 + ((f.toNat : Int) - 48)) := by
    simp [octv]
  rw [hv]
  obtain ⟨⟨_, _⟩, ⟨_, _⟩, ⟨_, _⟩, ⟨_, _⟩, ⟨_, _⟩, ⟨_, _⟩⟩ := ho
  refine ⟨⟨fun hh => ?_, fun hh => ?_⟩, ⟨fun hh => ?_, fun hh => ?_⟩, by omega, by omega⟩
  · rw [byte_eq a 49 (by omega) (by omega), byte_eq b 48 (by omega) (by omega), byte_eq c 48 (by omega) (by omega), byte_eq d 54 (by omega) (by omega), byte_eq e 52 (by omega) (by omega), byte_eq f 52 (by omega) (by omega)]
    decide
  · simp at hh
    obtain ⟨rfl, rfl, rfl, rfl, rfl, rfl⟩ := hh
    decide
  · rw [byte_eq a 49 (by omega) (by omega), byte_eq b 48 (by omega) (by omega), byte_eq c 48 (by omega) (by omega), byte_eq d 55 (by omega) (by omega), byte_eq e 53 (by omega) (by omega), byte_eq f 53 (by omega) (by omega)]
    decide
  · simp at hh
    obtain ⟨rfl, rfl, rfl, rfl, rfl, rfl⟩ := hh
    decide

theorem pref_bound (l : List UInt8) (ho : l.all octd = true) (hl : l.length ≤ 6) : 0 ≤ octv l ∧ octv l ≤ 262143 := by
  have key : ∀ (l : List UInt8), l.all octd = true → ∀ a : Int, 0 ≤ a → 0 ≤ l.foldl (fun a c => a * 8 + ((c.toNat : Int) - 48)) a ∧ l.foldl (fun a c => a * 8 + ((c.toNat : Int) - 48)) a + 1 ≤ (a + 1) * 8 ^ l.length := by
    intro l
    induction l with
    | nil => intro _ a ha; simp; omega
    | cons c t ih =>
      intro ho a ha
      simp only [List.all_cons, Bool.and_eq_true] at ho
      have hc : 48 ≤ c.toNat ∧ c.toNat ≤ 55 := by simpa [octd] using ho.1
      have := ih ho.2 (a * 8 + ((c.toNat : Int) - 48)) (by omega)
      simp only [List.foldl_cons, List.length_cons]
      refine ⟨this.1, Int.le_trans this.2 ?_⟩
      rw [Int.pow_succ, Int.mul_comm (8 ^ t.length) 8, ← Int.mul_assoc]
      exact Int.mul_le_mul_of_nonneg_right (by omega) (Int.pow_nonneg (by decide))
  have h := key l ho 0 (by decide)
  refine ⟨h.1, ?_⟩
  have h8 : (8 : Int) ^ l.length ≤ 262144 := by
    have : l.length = 0 ∨ l.length = 1 ∨ l.length = 2 ∨ l.length = 3 ∨ l.length = 4 ∨ l.length = 5 ∨ l.length = 6 := by omega
    rcases this with h | h | h | h | h | h | h <;> rw [h] <;> decide
  unfold octv
  omega

theorem take_snoc (s : ByteArray) (k : Nat) (h : k < s.size) : s.data.toList.take (k + 1) = s.data.toList.take k ++ [s[k]] := by
  rw [List.take_succ_eq_append_getElem (by simpa using h)]; rfl

/-- What the helper answers. -/
def Reads (l : List UInt8) (v : Int) (ok : Bool) : Prop :=
  (ok = true → (v = 33188 ↔ l = [49, 48, 48, 54, 52, 52]) ∧ (v = 33261 ↔ l = [49, 48, 48, 55, 53, 53])) ∧ (ok = false → l ≠ [49, 48, 48, 54, 52, 52] ∧ l ≠ [49, 48, 48, 55, 53, 53])

theorem reads_len (l : List UInt8) (h : l.length ≠ 6) : Reads l 0 false :=
  ⟨fun h => by simp at h, fun _ => ⟨fun e => h (by rw [e]; rfl), fun e => h (by rw [e]; rfl)⟩⟩
theorem reads_bad (l : List UInt8) (c : UInt8) (hm : c ∈ l) (h : ¬ (48 ≤ c.toNat ∧ c.toNat ≤ 55)) : Reads l 0 false := by
  refine ⟨fun h => by simp at h, fun _ => ⟨fun e => h ?_, fun e => h ?_⟩⟩ <;>
  · rw [e] at hm
    simp at hm
    rcases hm with rfl | rfl | rfl | rfl <;> decide
theorem reads_good (l : List UInt8) (h6 : l.length = 6) (ho : l.all octd = true) : Reads l (octv l) true :=
  ⟨fun _ => ⟨(octv_reads l h6 ho).1, (octv_reads l h6 ho).2.1⟩, fun h => by simp at h⟩

/-- The end of the helper. -/
def OctPost (m : ByteArray) (w : World) (e : Ending) (w' : World) : Prop := ∃ v ok, e = .returned (.tuple #[.int .i64 v, .bool ok]) ∧ 0 ≤ v ∧ v ≤ 262143 ∧ Reads m.data.toList v ok ∧ w' = w
theorem OctPost.mk {m : ByteArray} {w : World} {v : Int} {ok : Bool} (h0 : 0 ≤ v) (h1 : v ≤ 262143) (h2 : Reads m.data.toList v ok) : OctPost m w (.returned (.tuple #[.int .i64 v, .bool ok])) w :=
  ⟨v, ok, rfl, h0, h1, h2, rfl⟩

set_option maxHeartbeats 400000 in
theorem octal_any (m : ByteArray) (w : World) (hw : m.size ≤ maxLen) : Calls Try.prog 6 #[.string m] w (OctPost m w) := by
  unfold maxLen at hw
  by_cases h6 : m.size = 6
  · have h6' : ((m.size : Int) != 6) = false := by rw [h6]; rfl
    have H6 : Hid (m.size = 6) := h6
    clear h6
    go_enter Try.func6, Try.ntmps6
    go_wp2
    go_loop [4, 5, 6] (fun v i _ => ∃ k : Nat, k ≤ 6 ∧ i = .int .i64 k ∧ (m.data.toList.take k).all octd = true ∧ v = .int .i64 (octv (m.data.toList.take k))) (fun _ i _ => 6 - (intOf i).toNat)
    case atStart => exact ⟨0, Nat.zero_le _, rfl, rfl, rfl⟩
    case round =>
      obtain ⟨k, hk, rfl, ho, rfl⟩ := hrel
      have hb := pref_bound _ ho (Nat.le_trans (List.length_take_le _ _) hk)
      by_cases hlt : k < 6
      · have hlt' : k < m.size := by have := H6.out; omega
        have HS : Hid (m.data.toList.take (k + 1) = m.data.toList.take k ++ [m[k]]) := take_snoc m k hlt'
        have hmem : m[k] ∈ m.data.toList := by
          have h1 : m[k] ∈ m.data.toList.take (k + 1) := by rw [HS.out]; simp
          exact List.mem_of_mem_take h1
        have HO : Hid ((m.data.toList.take k).all octd = true) := ho
        clear ho
        go_wp2
        case roundEnd =>
          refine ⟨⟨k + 1, by omega, by go_num, ?_, ?_⟩, by simp [intOf]; omega⟩
          · rw [HS.out, octd_snoc, HO.out]
            simp [octd]
            omega
          · rw [HS.out, octv_snoc]
        all_goals
          go_ret2
          exact OctPost.mk (by decide) (by decide) (reads_bad _ _ hmem (by omega))
      · obtain rfl : k = 6 := by omega
        have e6 : m.data.toList.take 6 = m.data.toList := List.take_of_length_le (by have := H6.out; simp; omega)
        rw [e6] at ho hb ⊢
        go_wp2
        go_ret2
        exact OctPost.mk hb.1 hb.2 (reads_good _ (by have := H6.out; simpa using this) ho)
  · have h6' : ((m.size : Int) != 6) = true := by rw [bne_iff_ne]; omega
    go_enter Try.func6, Try.ntmps6
    go_wp2
    go_ret2
    exact OctPost.mk (by decide) (by decide) (reads_len _ (by simpa using h6))

theorem bytes_any (a0 a1 a2 a3 : ByteArray) (w0 : a0.size ≤ maxLen) (w1 : a1.size ≤ maxLen) (w2 : a2.size ≤ maxLen) (w3 : a3.size ≤ maxLen) (w : World) :
    Calls Try.prog 4 #[.string a0, .string a1, .string a2, .string a3] w fun e w' => ∃ n : Nat, e = .returned (.bool (n == 0)) ∧ w' = w := by
  unfold maxLen at *
  go_enter Try.func4, Try.ntmps4
  go_wp2
  all_goals go_ret
  all_goals first
    | exact ⟨0, rfl, rfl⟩
    | exact ⟨1, rfl, rfl⟩

def isFileB (m t : ByteArray) : Bool := (t.data.toList == [98, 108, 111, 98]) && (m.data.toList == [49, 48, 48, 54, 52, 52] || m.data.toList == [49, 48, 48, 55, 53, 53])
theorem toList_data (s : ByteArray) : s.toList = s.data.toList := ByteArray.toList_eq s
set_option maxHeartbeats 400000 in
theorem isFile_any (m t o p : ByteArray) (w : World) :
    Calls Try.prog 5 #[.agg #[.string m, .string t, .string o, .string p]] w fun e w' => e = .returned (.bool (isFileB m t)) ∧ Grown w w' := by
  unfold isFileB
  rw [← toList_data, ← toList_data]
  go_enter Try.func5, Try.ntmps5
  go_wp2
  all_goals go_ret
  all_goals
    refine ⟨?_, by repeat (first | exact Grown.refl _ | apply Grown.drew | apply Grown.alloc)⟩
    simp_all

/-- The plain law: the six octal digits and the two names say the same. -/
theorem law (m t : ByteArray) (v : Int) (ok : Bool) (h0 : 0 ≤ v) (h1 : v ≤ 262143) (h : Reads m.data.toList v ok) :
    isFileB m t = (ok && t.toList == [98, 108, 111, 98] && v / 4096 == 8 && (v % 4096 == 420 || v % 4096 == 493)) := by
  unfold isFileB
  rw [toList_data]
  generalize t.data.toList = tl
  obtain ⟨hy, hn⟩ := h
  by_cases ht : tl = [98, 108, 111, 98]
  · cases ok
    · obtain ⟨n1, n2⟩ := hn rfl
      simp [n1, n2]
    · obtain ⟨y1, y2⟩ := hy rfl
      have e1 : (v / 4096 == 8 && (v % 4096 == 420 || v % 4096 == 493)) = (v == 33188 || v == 33261) := by
        rw [Bool.eq_iff_iff]
        simp
        omega
      rw [Bool.and_assoc, e1, ht]
      rw [Bool.eq_iff_iff]
      simp [y1, y2]
  · have hf : (tl == [98, 108, 111, 98]) = false := beq_eq_false_iff_ne.2 ht
    rw [hf]
    simp

set_option maxHeartbeats 400000 in
theorem walk (a0 : ByteArray) (a1 : ByteArray) (a2 : ByteArray) (a3 : ByteArray) (w0 : a0.size ≤ maxLen) (w1 : a1.size ≤ maxLen) (w2 : a2.size ≤ maxLen) (w3 : a3.size ≤ maxLen) (w : World) :
    Calls Try.prog 3 #[.string a0, .string a1, .string a2, .string a3] w fun e w' => e = .returned (.bool true) ∧ Grown w w' := by
  go_enter Try.func3, Try.ntmps3
  go_wp2_with fail
  refine (bytes_any a0 a1 a2 a3 w0 w1 w2 w3 _).mono ?_
  rintro e w' ⟨n, rfl, rfl⟩
  generalize (n == 0) = b
  cases b
  · go_wp2_with fail
    go_ret
    exact ⟨rfl, Grown.refl _⟩
  have HW0 : Hid (a0.size ≤ maxLen) := w0
  unfold maxLen at w0 w1 w2 w3
  go_wp2_with fail
  iterate 4 (· go_ret; exact ⟨rfl, Grown.refl _⟩)
  refine (isFile_any a0 a1 a2 a3 _).mono ?_
  rintro e w1 ⟨rfl, hg⟩
  generalize hib : isFileB a0 a1 = ib
  have HB : Hid (isFileB a0 a1 = ib) := hib
  clear hib
  go_wp2_with fail
  refine (octal_any a0 _ HW0.out).mono ?_
  rintro e w2 ⟨v, ok, rfl, hv0, hv1, hr, rfl⟩
  have HL : Hid (ib = (ok && a1.toList == [98, 108, 111, 98] && v / 4096 == 8 && (v % 4096 == 420 || v % 4096 == 493))) := by
    have := law a0 a1 v ok hv0 hv1 hr
    rw [HB.out] at this
    exact this
  clear hr HB
  go_wp2_with fail
  all_goals
    go_ret
    refine ⟨?_, hg⟩
    have hl := HL.out
    clear HL
    simp_all [i64_and4095]

/-! ### THE ROW's STEP: WRITTEN OUT: LEAVE IT -/
set_option maxRecDepth 100000 in
theorem lifted (os : Os) (started : os.Started) (H : Type) (enc : TypeId × Value → H) :
    ReturnsInHanded {} Try.checked os 3 .any (Rows.fnNudgeIsFileRegularModesSpec.pre6 enc Try.prog Try.f3 Rows.fnNudgeIsFileRegularModesRow.domain false) (Rows.fnNudgeIsFileRegularModesSpec.post enc Try.prog Try.f3 false true false false) := by
  refine returnsInHanded_of_change (C := Try.checked) own started (by kernel_rfl) Try.func3
    (ChangeSpec.witness6 (enc := enc) (C := Try.checked) false ⟨#[], #[.string ByteArray.empty, .string ByteArray.empty, .string ByteArray.empty, .string ByteArray.empty], []⟩ 8 (by kernel_rfl) (by kernel_rfl) (by kernel_rfl) (by kernel_rfl)) ?_
  intro W base args ds gs before hval0 hW hcnd _
  have hval : ∀ (j : Nat) t v, Try.f3.params[j]? = some t → args[j]? = some v → Value.okWide Try.prog W .any base t v := hval0
  have hW' := hW
  obtain ⟨p, q, hA0, hV, rfl, hfz, hnd⟩ := hW
  have hA : DataW.TrodAll enc Try.prog W 0 (fun _ => true) true Try.f3.params.toList args.toList ds p := hA0
  rw [Try.params3] at hA hval
  obtain ⟨v0, vs0, d0, ds0, p0, q0, hargs, rfl, rfl, h0, r0⟩ := trodAll_cons hA
  obtain ⟨v1, vs1, d1, ds1, p1, q1, rfl, rfl, rfl, h1, r1⟩ := trodAll_cons r0
  obtain ⟨v2, vs2, d2, ds2, p2, q2, rfl, rfl, rfl, h2, r2⟩ := trodAll_cons r1
  obtain ⟨v3, vs3, d3, ds3, p3, q3, rfl, rfl, rfl, h3, r3⟩ := trodAll_cons r2
  obtain ⟨rfl, rfl, rfl⟩ := trodAll_nil r3
  obtain rfl : args = #[v0, v1, v2, v3] := by cases args; simp_all
  obtain ⟨rfl, rfl⟩ := trodVars_none hV
  obtain ⟨a0, rfl, rfl, rfl, w0⟩ := open_string Try.underlying9 (hval 0 9 v0 rfl rfl) h0
  obtain ⟨a1, rfl, rfl, rfl, w1⟩ := open_string Try.underlying9 (hval 1 9 v1 rfl rfl) h1
  obtain ⟨a2, rfl, rfl, rfl, w2⟩ := open_string Try.underlying9 (hval 2 9 v2 rfl rfl) h2
  obtain ⟨a3, rfl, rfl, rfl, w3⟩ := open_string Try.underlying9 (hval 3 9 v3 rfl rfl) h3
  clear hA0 hval0
  simp only [List.append_nil] at hW'
  refine (walk a0 a1 a2 a3 w0 w1 w2 w3 W).mono fun e W' ⟨he, hg⟩ => ?_
  subst he
  exact ⟨_, rfl, post_of_same (pa := []) (pv := []) hW' (fun _ _ _ => (trodAll_cons_mk (shut_bool Try.underlying4 _) trodAll_mk0)) (fun sp _ => (trodAll_cons_mk (shut_string Try.underlying9 w0) (trodAll_cons_mk (shut_string Try.underlying9 w1) (trodAll_cons_mk (shut_string Try.underlying9 w2) (trodAll_cons_mk (shut_string Try.underlying9 w3) trodAll_mk0))))) (fun _ _ => rfl) rfl
    (hg.frame _) hg.2.1 (ok_one (by kernel_rfl) rfl (okWide_bool_mk Try.underlying4 _))⟩

theorem over : Rows.fnNudgeIsFileRegularModesRow.holds Try.pinned (OpenSpec.ofChange Rows.fnNudgeIsFileRegularModesSpec) :=
  OpenClaim.holds_of_wide 3 Try.f3 rfl rfl rfl rfl rfl rfl rfl ⟨rfl, rfl, rfl, rfl, rfl⟩ rfl rfl rfl rfl rfl (by kernel_rfl) Try.func3 (by kernel_rfl)
    (of_decide_eq_true (by kernel_rfl)) (by unfold Func.isWrapper; first | (rw [if_pos (by decide +kernel)]; kernel_rfl) | (rw [if_neg (by decide +kernel)]; exact ⟨rfl, rfl⟩))
    (fun os started H enc _ => lifted os started H enc)

/-- ████ THE STATEMENT ████ -/
theorem proved : Rows.FnNudgeIsFileRegularModesSaid :=
  over
#print axioms proved
end Go.Proofs.Qxb6612330a.fnNudgeIsFileRegularModes
