/-
  The law on modeTable.valid: its callees' contracts, the walk, the row's step (after the guide's shell for slices).
-/
import Derived.Test.Qxb6612390aRows
import Derived.WalkKit
import Derived.ProofKit
import Derived.OpenShut
import Derived.ShutString
import Derived.WalkSpells
import Derived.WalkLawsBesides
import Derived.ChangeOld
import Derived.Below
import Derived.Deep.Strs
import Derived.Laws.CopyRow
import Derived.Laws.MakeOwn
import Derived.Laws.CopyOwn
namespace Go.Proofs.Qxb6612390a.fnModeTableValidCountsTheNames
open Go.ChangeShapes Go.WideShapes Go.ChangeAt Go.RowKit
set_option linter.unusedVariables false

/-- Some bool, the world as it was. -/
def RetBool (w : World) (e : Ending) (w' : World) : Prop := ∃ b : Bool, e = .returned (.bool b) ∧ w' = w
theorem RetBool.mk {w : World} (b : Bool) : RetBool w (.returned (.bool b)) w := ⟨b, rfl, rfl⟩
/-- Some int, the world as it was. -/
def RetInt (w : World) (e : Ending) (w' : World) : Prop := ∃ n : Int, e = .returned (.int .i64 n) ∧ w' = w
theorem RetInt.mk {w : World} (n : Int) : RetInt w (.returned (.int .i64 n)) w := ⟨n, rfl, rfl⟩

/-- A slice of strings that came in: its first cells. -/
def Strs (w : World) (a : Option Addr) (len : Nat) (S : Nat → ByteArray) : Prop :=
  ∀ i, i < len → ∃ b off, a = some ⟨b, off, none⟩ ∧ w.cell? ⟨b, off + i, none⟩ = some (.string (S i)) ∧ (S i).size ≤ maxLen

theorem Strs.at {w : World} {a : Option Addr} {len : Nat} {S : Nat → ByteArray} (h : Strs w a len S) (h0 : 0 < len) :
    ∃ b off, a = some ⟨b, off, none⟩ ∧ ∀ i, i < len → w.cell? ⟨b, off + i, none⟩ = some (.string (S i)) ∧ (S i).size ≤ maxLen := by
  obtain ⟨b, off, rfl, h1⟩ := h 0 h0
  refine ⟨b, off, rfl, fun i hi => ?_⟩
  obtain ⟨b', off', he, hc⟩ := h i hi
  simp at he
  obtain ⟨rfl, rfl⟩ := he
  exact hc

set_option maxHeartbeats 400000 in
theorem bytes_any (a : Option Addr) (len cap : Nat) (S : Nat → ByteArray) (w : World) (hl : len ≤ maxLen) (h : Strs w a len S) :
    Calls Try.prog 7 #[.slice a len cap] w (RetBool w) := by
  unfold maxLen at hl
  by_cases hb : len ≤ 1048576
  · go_enter Try.func7, Try.ntmps7
    go_wp2
    go_loop [3, 4] (fun n i => ∃ (k m : Nat), k ≤ len ∧ i = .int .i64 k ∧ n = .int .i64 m ∧ m ≤ 1048576) (fun _ i => len - (intOf i).toNat)
    case atStart => exact ⟨0, len, Nat.zero_le _, rfl, rfl, hb⟩
    case round =>
      obtain ⟨k, m, hk, rfl, rfl, hm⟩ := hrel
      by_cases hlt : k < len
      · obtain ⟨b, off, rfl, hc⟩ := h.at (by omega)
        obtain ⟨hc1, hs⟩ := hc k hlt
        generalize S k = s at hc1 hs
        unfold maxLen at hs
        clear hc h
        go_wp2
        case roundEnd => exact ⟨⟨k + 1, m + s.size, by omega, by go_num, by go_num, by omega⟩, by simp [intOf]; omega⟩
        all_goals
          go_ret
          exact RetBool.mk _
      · go_wp2
        go_ret
        exact RetBool.mk _
  · go_enter Try.func7, Try.ntmps7
    go_wp2
    go_ret
    exact RetBool.mk _

set_option maxHeartbeats 400000 in
theorem namesBytes_any (a : Option Addr) (len cap : Nat) (S : Nat → ByteArray) (w : World) (hl : len ≤ 65536) (h : Strs w a len S) :
    Calls Try.prog 8 #[.slice a len cap] w (RetInt w) := by
  go_enter Try.func8, Try.ntmps8
  go_wp2
  go_loop [3, 4] (fun n i => ∃ (k m : Nat), k ≤ len ∧ i = .int .i64 k ∧ n = .int .i64 m ∧ m ≤ 1048576) (fun _ i => len - (intOf i).toNat)
  case atStart => exact ⟨0, 0, Nat.zero_le _, rfl, rfl, by omega⟩
  case round =>
    obtain ⟨k, m, hk, rfl, rfl, hm⟩ := hrel
    by_cases hlt : k < len
    · obtain ⟨b, off, rfl, hc⟩ := h.at (by omega)
      obtain ⟨hc1, hs⟩ := hc k hlt
      generalize S k = s at hc1 hs
      unfold maxLen at hs
      clear hc h
      go_wp2
      case roundEnd => exact ⟨⟨k + 1, m + (16 + s.size), by omega, by go_num, by go_num, by omega⟩, by simp [intOf]; omega⟩
      all_goals
        go_ret
        exact RetInt.mk _
    · go_wp2
      go_ret
      exact RetInt.mk _

theorem info9 : (Try.prog.info? 9).map (fun i => (i.zero, i.size, i.bytes)) = some (some (.string ByteArray.empty), 1, 16) := by kernel_rfl
theorem size9 : (Try.prog.info? 9).map (·.size) = some 1 := by kernel_rfl

/-- A slice of that length, nothing old turned. -/
def RetLen (len : Nat) (w : World) (e : Ending) (w' : World) : Prop := ∃ (a' : Option Addr) (c' : Nat), e = .returned (.slice a' len c') ∧ Below w.heap.size w w'
theorem RetLen.mk {len : Nat} {w w' : World} {a' : Option Addr} {c' : Nat} (h : Below w.heap.size w w') : RetLen len w (.returned (.slice a' len c')) w' := ⟨a', c', rfl, h⟩

set_option maxHeartbeats 400000 in
theorem clone_any (a : Option Addr) (len cap : Nat) (S : Nat → ByteArray) (w : World) (hl : len ≤ 65536) (hn : a = none → len = 0) (h : Strs w a len S) :
    Calls Try.prog 9 #[.slice a len cap] w (RetLen len w) := by
  have heq := fun (W : World) => Lib.run_eql_slice_nil (P := Try.prog) W 22 9 a len cap 0 0 Try.underlying22
  obtain ⟨i0, hi, hz0, hz1, hz2⟩ := info_parts info9
  have hmk : ∀ W : World, (Instr.makeSlice 22 (.int .i64 (len : Int)) (.int .i64 (len : Int))).run Try.prog W = .ok (.slice (some ⟨W.heap.size, 0, none⟩) len len) (W.alloc (.cells (madeCells #[.string ByteArray.empty] len) 9)) := by
    intro W
    have := run_make (P := Try.prog) (w := W) 22 9 i0 _ Try.underlying22 hi hz0 .i64 .i64 (len : Int) (len : Int) (by omega) (by omega) (by rw [hz2]; omega) (by omega)
    rw [this, hz1]
    simp [Value.cells]
  cases a with
  | none =>
    have := hn rfl
    subst this
    go_enter Try.func9, Try.ntmps9
    go_wp2
    go_ret
    exact RetLen.mk (Below.refl _ _)
  | some x =>
    simp only [Option.isNone_some] at heq
    have hcp : ∃ W', (Builtin.copy_ #[22, 22] 3 #[.slice (some ⟨w.heap.size, 0, none⟩) len len, .slice (some x) len cap]).run Try.prog (w.alloc (.cells (madeCells #[.string ByteArray.empty] len) 9)) = .ok (goInt len) W' ∧ Below w.heap.size w W' := by
      have hcs : ((List.range len).map fun i => Value.string (S i)).length = len := by simp
      refine ⟨_, (run_copy_row Try.prog _ 22 22 3 9 w.heap.size 0 len len x len cap (madeCells #[.string ByteArray.empty] len) 9 ((List.range len).map fun i => Value.string (S i)) Try.underlying22 size9 ?_ ?_ ?_ ?_ ?_).trans (by rw [hcs]), ?_⟩
      · exact (MapKept.heap_alloc w _).1
      · simp
      · intro j v hj
        have hjl : j < len := by
          have := (List.getElem?_eq_some_iff.1 hj).1
          simpa using this
        obtain ⟨b, off, he, hc⟩ := h.at (by omega)
        simp at he
        subst he
        simp [hjl] at hj
        subst hj
        rw [add_plain]
        exact Lib.cell?_alloc_some _ (hc j hjl).1
      · rw [hcs, size_madeCells]; omega
      · intro v hv
        simp at hv
        obtain ⟨i, _, rfl⟩ := hv
        rfl
      · exact below_setRow ((Below.refl _ _).alloc (Nat.le_refl _) _) (Nat.le_refl _) _
    obtain ⟨W', hcp, hb⟩ := hcp
    clear hi hz0 hz1 hz2
    go_enter Try.func9, Try.ntmps9
    go_wp2
    go_ret
    exact RetLen.mk hb

/-- A new mode table: its first field is the slice. -/
def RetTable (v : Value) (w : World) (e : Ending) (w' : World) : Prop := ∃ b, e = .returned (.pointer (some ⟨b, 0, none⟩)) ∧ w'.cell? ⟨b, 0, none⟩ = some v ∧ Below w.heap.size w w'
theorem RetTable.mk {v : Value} {w w' : World} {b : Nat} (h : w'.cell? ⟨b, 0, none⟩ = some v) (hb : Below w.heap.size w w') : RetTable v w (.returned (.pointer (some ⟨b, 0, none⟩))) w' := ⟨b, rfl, h, hb⟩

set_option maxHeartbeats 400000 in
theorem newTable_any (a : Option Addr) (len cap : Nat) (w : World) : Calls Try.prog 10 #[.slice a len cap] w (RetTable (.slice a len cap) w) := by
  go_enter Try.func10, Try.ntmps10
  go_wp2
  go_ret
  exact RetTable.mk (by simp) ((Below.refl _ _).alloc (Nat.le_refl _) _)

theorem valid_any (b : Nat) (a : Option Addr) (len cap : Nat) (m : Int) (w : World) (hc : w.cell? ⟨b, 0, none⟩ = some (.slice a len cap)) (h0 : 0 ≤ m) (h1 : m ≤ 255) (hl : len ≤ 65536) :
    Calls Try.prog 11 #[.pointer (some ⟨b, 0, none⟩), .int .u8 m] w fun e w' => e = .returned (.bool (decide (0 < m ∧ m ≤ len))) ∧ w' = w := by
  by_cases hm : m = 0
  · subst hm
    go_enter Try.func11, Try.ntmps11
    go_wp2
    go_ret
    exact ⟨rfl, rfl⟩
  · have hm1 : (m != 0) = true := by rw [bne_iff_ne]; exact hm
    have hp : 0 < m := by omega
    by_cases hle : m ≤ len
    · go_enter Try.func11, Try.ntmps11
      go_wp2
      go_ret
      exact ⟨by simp [hle, hp], rfl⟩
    · go_enter Try.func11, Try.ntmps11
      go_wp2
      go_ret
      exact ⟨by simp [hle], rfl⟩

/-- The count of the valid modes below k. -/
def cnt (len k : Nat) : Nat := min (k - 1) len
theorem cnt_yes (len k : Nat) (h0 : 0 < k) (h1 : k ≤ len) : cnt len (k + 1) = cnt len k + 1 := by unfold cnt; omega
theorem cnt_no (len k : Nat) (h : ¬ (0 < k ∧ k ≤ len)) : cnt len (k + 1) = cnt len k := by unfold cnt; omega
theorem cnt_le (len k : Nat) : cnt len k ≤ k := by unfold cnt; omega

set_option maxRecDepth 100000 in
set_option maxHeartbeats 1000000 in
theorem walk (a : Option Addr) (len cap : Nat) (S : Nat → ByteArray) (w : World) (hm : len ≤ maxLen) (hn : a = none → len = 0) (h : Strs w a len S) :
    Calls Try.prog 3 #[.slice a len cap] w fun e w' => e = .returned (.bool true) ∧ Below w.heap.size w w' := by
  go_enter Try.func3, Try.ntmps3
  go_wp2_with fail
  refine (bytes_any a len cap S w hm h).mono ?_
  rintro e w' ⟨b, rfl, rfl⟩
  unfold maxLen at hm
  cases b
  · go_wp2_with fail
    go_ret
    exact ⟨rfl, Below.refl _ _⟩
  go_wp2_with fail
  · go_ret
    exact ⟨rfl, Below.refl _ _⟩
  have hl : len ≤ 65536 := by omega
  refine (namesBytes_any a len cap S _ hl h).mono ?_
  rintro e w1 ⟨n, rfl, rfl⟩
  go_wp2_with fail
  · go_ret
    exact ⟨rfl, Below.refl _ _⟩
  refine (clone_any a len cap S _ hl hn h).mono ?_
  rintro e w2 ⟨a', c', rfl, hb2⟩
  clear h hn
  go_wp2_with fail
  refine (newTable_any a' len c' _).mono ?_
  rintro e w3 ⟨b, rfl, hc, hb3⟩
  have hb := hb2.trans (hb3.mono hb2.size)
  clear hb2 hb3
  go_wp2_with fail
  go_loop [4, 5] (fun n i => ∃ k : Nat, k ≤ 256 ∧ i = .int .i64 k ∧ n = .int .i64 (cnt len k)) (fun _ i => 256 - (intOf i).toNat)
  case atStart => exact ⟨0, by omega, rfl, by simp [cnt]⟩
  case round =>
    obtain ⟨k, hk, rfl, rfl⟩ := hrel
    have hcl := cnt_le len k
    by_cases hlt : k < 256
    · by_cases hv : 0 < k ∧ k ≤ len
      · have hy := cnt_yes len k hv.1 hv.2
        have HY : Hid (cnt len (k + 1) = cnt len k + 1) := hy
        clear hy
        obtain ⟨hv0, hv1⟩ := hv
        have hk0 : ((k : Int) == 0) = false := beq_eq_false_iff_ne.2 (by omega)
        have hd1 : decide (0 < (k : Int) ∧ (k : Int) ≤ len) = true := decide_eq_true (by omega)
        go_wp2_with fail
        refine (valid_any b a' len c' _ _ hc (by omega) (by omega) hl).mono ?_
        rintro e w' ⟨rfl, rfl⟩
        rw [hd1]
        by_cases hk2 : 2 ≤ k
        · have hd2 : decide (0 < (k : Int) - 1 ∧ (k : Int) - 1 ≤ len) = true := decide_eq_true (by omega)
          go_wp2_with fail
          refine (valid_any b a' len c' _ _ hc (by omega) (by omega) hl).mono ?_
          rintro e w' ⟨rfl, rfl⟩
          rw [hd2]
          go_wp2_with fail
          go_round
          case rel => exact ⟨k + 1, by omega, by go_num, by rw [HY.out]; go_num⟩
          case measure => simp [intOf]; omega
        · go_wp2_with fail
          go_round
          case rel => exact ⟨k + 1, by omega, by go_num, by rw [HY.out]; go_num⟩
          case measure => simp [intOf]; omega
      · have HY : Hid (cnt len (k + 1) = cnt len k) := cnt_no len k hv
        have hd1 : decide (0 < (k : Int) ∧ (k : Int) ≤ len) = false := decide_eq_false (by omega)
        go_wp2_with fail
        refine (valid_any b a' len c' _ _ hc (by omega) (by omega) hl).mono ?_
        rintro e w' ⟨rfl, rfl⟩
        rw [hd1]
        go_wp2_with fail
        go_round
        case rel => exact ⟨k + 1, by omega, by go_num, by rw [HY.out]⟩
        case measure => simp [intOf]; omega
    · obtain rfl : k = 256 := by omega
      by_cases h255 : 255 < len
      · have e1 : cnt len 256 = 255 := by unfold cnt; omega
        rw [e1]
        clear e1 hcl
        go_wp2_with fail
        go_ret
        exact ⟨rfl, hb⟩
      · have e1 : cnt len 256 = len := by unfold cnt; omega
        rw [e1]
        clear e1 hcl
        go_wp2_with fail
        go_ret
        exact ⟨by simp, hb⟩

theorem own : ownKnob Try.prog.godebug = none := by kernel_rfl
theorem laidOut : laidOutB Try.prog = true := by kernel_rfl
theorem cells9 : Try.prog.cellsOf 9 = 1 := by kernel_rfl

theorem strs_of {H : Type} {enc : TypeId × Value → H} {W : World} {a : Option Addr} {len cap : Nat} {d : DataW H} {p : List MemPlace}
    (h : DataW.Trod enc Try.prog W 0 (fun _ => true) true 22 (.slice a len cap) d p) : ∃ S, len ≤ maxLen ∧ (a = none → len = 0) ∧ Strs W a len S := by
  obtain ⟨fuel, hf⟩ := h
  rcases Go.Deep.open_strs Try.underlying22 Try.underlying9 cells9 hf with ⟨hcs, _⟩ | ⟨x, l, c, m, Sx, hcs, _, hl, hm, hmm, _, hcell⟩
  · simp [Value.cells] at hcs
    obtain ⟨rfl, rfl, rfl⟩ := hcs
    exact ⟨fun _ => ByteArray.empty, by unfold maxLen; omega, fun _ => rfl, fun i hi => by omega⟩
  · simp [Value.cells] at hcs
    obtain ⟨rfl, rfl, rfl⟩ := hcs
    simp at hmm
    subst hmm
    refine ⟨Sx, by omega, fun h => by simp at h, fun i hi => ?_⟩
    obtain ⟨h1, h2⟩ := hcell i (by omega)
    obtain ⟨b, off, spot⟩ := x
    have hspot : spot = none := by simpa [Addr.add] using World.cell?_spot (hcell 0 (by omega)).1
    subst hspot
    rw [add_plain] at h1
    exact ⟨b, off, rfl, h1, h2⟩

set_option maxRecDepth 100000 in
theorem lifted (os : Os) (started : os.Started) (H : Type) (enc : TypeId × Value → H) :
    ReturnsInHanded {} Try.checked os 3 .any (Rows.fnModeTableValidCountsTheNamesSpec.pre6 enc Try.prog Try.f3 Rows.fnModeTableValidCountsTheNamesRow.domain false) (Rows.fnModeTableValidCountsTheNamesSpec.post enc Try.prog Try.f3 false true false false) := by
  refine returnsInHanded_of_change (C := Try.checked) own started (by kernel_rfl) Try.func3
    (ChangeSpec.witness6 (enc := enc) (C := Try.checked) false ⟨#[], #[.slice none 0 0], []⟩ 8 (by kernel_rfl) (by kernel_rfl) (by kernel_rfl) (by kernel_rfl)) ?_
  intro W base args ds gs before hval0 hW hcnd _
  have hval : ∀ (j : Nat) t v, Try.f3.params[j]? = some t → args[j]? = some v → Value.okWide Try.prog W .any base t v := hval0
  have hW' := hW
  obtain ⟨p, q, hA0, hV, rfl, hfz, hnd⟩ := hW
  have hA : DataW.TrodAll enc Try.prog W 0 (fun _ => true) true Try.f3.params.toList args.toList ds p := hA0
  rw [Try.params3] at hA hval
  obtain ⟨v0, vs0, d0, ds0, p0, q0, hargs, rfl, rfl, h0, r0⟩ := trodAll_cons hA
  obtain ⟨rfl, rfl, rfl⟩ := trodAll_nil r0
  obtain rfl : args = #[v0] := by cases args; simp_all
  obtain ⟨rfl, rfl⟩ := trodVars_none hV
  obtain ⟨a0, len0, cap0, rfl⟩ := okWide_slice Try.underlying22 (hval 0 22 v0 rfl rfl)
  have k0 := h0
  have lt0 : ∀ x ∈ p0, x.block < W.heap.size := by obtain ⟨m, hm⟩ := k0; exact DataW.trod_lt m _ _ _ hm
  obtain ⟨S, hm, hn, hS⟩ := strs_of h0
  clear hA0 hval0
  refine (walk a0 len0 cap0 S W hm hn hS).mono fun e W' ⟨he, bel⟩ => ?_
  subst he
  exact ⟨_, rfl, _, _, _, [], _, [], hW', trodAll_mk1 (shut_bool Try.underlying4 _), (trodAll_cons_mk (Below.trod laidOut (by kernel_rfl) (of_decide_eq_true (by kernel_rfl)) k0 bel lt0) trodAll_mk0), rfl, bel.frame _, fun h => by cases h⟩

theorem over : Rows.fnModeTableValidCountsTheNamesRow.holds Try.pinned (OpenSpec.ofChange Rows.fnModeTableValidCountsTheNamesSpec) :=
  OpenClaim.holds_of_wide 3 Try.f3 rfl rfl rfl rfl rfl rfl rfl ⟨rfl, rfl, rfl, rfl, rfl⟩ rfl rfl rfl rfl rfl (by kernel_rfl) Try.func3 (by kernel_rfl)
    (of_decide_eq_true (by kernel_rfl)) (by unfold Func.isWrapper; first | (rw [if_pos (by decide +kernel)]; kernel_rfl) | (rw [if_neg (by decide +kernel)]; exact ⟨rfl, rfl⟩))
    (fun os started H enc _ => lifted os started H enc)

/-- ████ THE STATEMENT ████ -/
theorem proved : Rows.FnModeTableValidCountsTheNamesSaid := over
#print axioms proved
end Go.Proofs.Qxb6612390a.fnModeTableValidCountsTheNames
