/-
  The script of setQueue calls: queuedListIsExact.
-/
import Derived.Test.Qxb6612390aScript
import Derived.Deep.CutBlock
import Derived.BigQuiet
namespace Go.Proofs.Qxb6612390a.fnSetQueueScriptKeepsQueuedListExact
open Go.ChangeShapes Go.WideShapes Go.ChangeAt Go.RowKit
set_option linter.unusedVariables false

theorem info78 : (Try.prog.info? 78).map (fun i => i.size) = some 17 := by kernel_rfl
theorem info92 : (Try.prog.info? 92).map (fun i => i.size) = some 18 := by kernel_rfl
theorem size_of {P : Program} {t : TypeId} {n : Nat} (h : (P.info? t).map (fun i => i.size) = some n) : ∃ j, P.info? t = some j ∧ j.size = n := by
  cases hq : P.info? t with
  | none => simp [hq] at h
  | some j => exact ⟨j, rfl, by simpa [hq] using h⟩
theorem neq34 {w : World} {b : Nat} (h : Cel w b) : (binOp .neq 34 (.pointer (some ⟨b, 0, none⟩)) (.pointer (some ⟨b, 0, none⟩))).run Try.prog w = .ok (.bool false) w := by
  obtain ⟨j, hj, hs⟩ := size_of info78
  have := run_neq_ptr (P := Try.prog) (t := 34) Try.underlying34 hj (by omega) w b b h h
  simpa using this
theorem neq36 {w : World} {b : Nat} (h : Cel w b) : (binOp .neq 36 (.pointer (some ⟨b, 0, none⟩)) (.pointer (some ⟨b, 0, none⟩))).run Try.prog w = .ok (.bool false) w := by
  obtain ⟨j, hj, hs⟩ := size_of info92
  have := run_neq_ptr (P := Try.prog) (t := 36) Try.underlying36 hj (by omega) w b b h h
  simpa using this

theorem own_cell {w : World} {base N : Nat} {ua : Option Addr} {uc : Nat} {L : List Nat} (h : w.ownsRow base 36 1 (.slice ua N uc) N (L.map ptr)) {k b : Nat} (hb : L[k]? = some b) (hk : k < N) : ∃ x, ua = some ⟨x, 0, none⟩ ∧ w.cell? ⟨x, k, none⟩ = some (ptr b) := by
  obtain ⟨ub, rfl⟩ := own_some' h (by omega)
  obtain ⟨cur, _, hcu, _, _, _, htk⟩ := own_get h
  refine ⟨ub, rfl, ?_⟩
  rw [cell_of hcu]
  have : (cur.toList.take N)[k]? = (L.map ptr)[k]? := by rw [htk]
  rw [List.getElem?_take, if_pos hk] at this
  simpa [hb] using this

def RetDrew (v : Value) (w : World) (e : Ending) (w' : World) : Prop := e = .returned v ∧ ∃ m, w' = w.drewN m

set_option maxRecDepth 100000 in
set_option maxHeartbeats 1000000 in
theorem exact_any {tb rsb lb nres : Nat} {Ln Qa : Nat → Nat} {L : List Nat} {w : World} {ua : Option Addr} {uc : Nat} (h : Sc tb rsb nres Ln Qa L w) (hl : Lens w lb nres Ln) (hn : nres ≤ 4096) (hown : w.ownsRow (rsb + 1) 36 1 (.slice ua L.length uc) L.length (L.map ptr)) :
    Calls Try.prog 23 #[.slice ua L.length uc, .slice (some ⟨rsb, 0, none⟩) nres nres, .slice (some ⟨lb, 0, none⟩) nres nres] w (RetDrew (.bool true) w) := by
  have hcl : ∀ k, cnt Ln k ≤ k := cnt_le Ln
  obtain ⟨N, hN⟩ : ∃ x, x = L.length := ⟨_, rfl⟩
  have hcn := h.cn
  rw [← hN] at hown hcn ⊢
  have HCN : Hid (N = cnt Ln nres) := hcn
  have hN4 : N ≤ 4096 := by have := hcl nres; omega
  have HL : Hid (∀ j, j < nres → w.cell? ⟨lb, j, none⟩ = some (.int .i64 (Ln j : Nat))) := fun j hj => hl.cell hj
  have HCL : Hid (∀ k, cnt Ln k ≤ k) := hcl
  have HSM : Hid (∀ j, j < nres → Ln j ≤ 65536) := h.small
  have HQ : Hid (∀ k, k < N → ∃ b q, (∃ x, ua = some ⟨x, 0, none⟩ ∧ w.cell? ⟨x, k, none⟩ = some (ptr b)) ∧ 0 < Ln q ∧ Ln q ≤ 65536 ∧ ∃ a c, Res w b (.slice a (Ln q) c) (k : Nat) 0) := fun k hk => by
    obtain ⟨b, hb⟩ : ∃ b, L[k]? = some b := ⟨_, List.getElem?_eq_getElem (by omega)⟩
    obtain ⟨j, hj, rfl, hp, rfl⟩ := h.bwd k b hb
    exact ⟨_, j, own_cell hown hb hk, hp, h.small j hj, h.res j hj⟩
  have HR : Hid (∀ j, j < nres → w.cell? ⟨rsb, j, none⟩ = some (ptr (rsb + 1 + j)) ∧ (∃ a c, Res w (rsb + 1 + j) (.slice a (Ln j) c) (Qa j : Nat) 0) ∧ (0 < Ln j → Qa j < N ∧ ∃ x, ua = some ⟨x, 0, none⟩ ∧ w.cell? ⟨x, Qa j, none⟩ = some (ptr (rsb + 1 + j)))) := fun j hj => by
    refine ⟨h.rs.cell hj, h.res j hj, fun hp => ?_⟩
    have hf := h.fwd j hj hp
    have hlt := (List.getElem?_eq_some_iff.1 hf).1
    exact ⟨by omega, own_cell hown hf (by omega)⟩
  clear h hl hown hcl hN hcn
  go_enter Try.func23, Try.ntmps23
  go_upto_block 0 with fail
  go_cut [7] from 12 to 24 (fun v wx => v = .int .i64 (N : Nat) ∧ w = wx)
  case first =>
    go_wp2_with fail
    go_loopw [7, 8] (fun c i wr => ∃ k : Nat, k ≤ nres ∧ c = .int .i64 (cnt Ln k : Nat) ∧ i = .int .i64 k ∧ w = wr) (fun _ i _ => nres - (intOf i).toNat)
    case atStart => exact ⟨0, by omega, rfl, rfl, rfl⟩
    case round =>
      obtain ⟨k, hk, rfl, rfl, rfl⟩ := hrel
      have hck := HCL.out k
      by_cases hlt : k < nres
      · have hc := HL.out k hlt
        have hs := HSM.out k hlt
        have hc1 : cnt Ln (k + 1) = cnt Ln k + if 0 < Ln k then 1 else 0 := rfl
        by_cases hp : 0 < Ln k
        · rw [if_pos hp] at hc1
          have HC1 : Hid (cnt Ln (k + 1) = cnt Ln k + 1) := hc1
          clear hc1
          go_wp2_with fail
          go_roundw
          case rel => exact ⟨k + 1, by omega, by rw [HC1.out]; go_num, by go_num, by trivial⟩
          case measure => simp [intOf]; omega
        · rw [if_neg hp] at hc1
          have HC1 : Hid (cnt Ln (k + 1) = cnt Ln k + 0) := hc1
          clear hc1
          go_wp2_with fail
          go_roundw
          case rel => exact ⟨k + 1, by omega, by rw [HC1.out]; rfl, by go_num, by trivial⟩
          case measure => simp [intOf]; omega
      · obtain rfl : k = nres := by omega
        go_wp2_with fail
        go_meet
        case rel => exact ⟨by rw [HCN.out], rfl⟩
  obtain ⟨rfl, rfl⟩ := hcut
  go_upto_block 2 with fail
  go_cut [7] from 29 to 55 (fun v wx => v = .int .i64 (N : Nat) ∧ w = wx)
  case first =>
    go_wp2_with fail
    go_loopw [9] (fun i wr => ∃ k : Nat, k ≤ N ∧ i = .int .i64 k ∧ w = wr) (fun i _ => N - (intOf i).toNat)
    case atStart => exact ⟨0, by omega, rfl, rfl⟩
    case round =>
      obtain ⟨k, hk, rfl, rfl⟩ := hrel
      by_cases hlt : k < N
      · obtain ⟨b, q, ⟨x, rfl, hcx⟩, hq1, hq2, a, c, hrb⟩ := HQ.out k hlt
        have h21 := resAt_any hrb
        have h17 := resQueue_any hrb
        unfold ptr at hcx h21 h17
        have H21 : Hid (Calls Try.prog 21 #[.pointer (some ⟨b, 0, none⟩)] w fun e w' => e = .returned (.int .i64 (k : Nat)) ∧ w' = w) := h21
        have H17 : Hid (Calls Try.prog 17 #[.pointer (some ⟨b, 0, none⟩)] w fun e w' => e = .returned (.slice a (Ln q) c) ∧ w' = w) := h17
        generalize Ln q = lq at *
        clear h21 h17 hrb
        go_wp2_with (first | (go_at_call 21; refine Calls.mono H21.out ?_; rintro e wz ⟨rfl, hz⟩; rw [hz]; clear hz) | (go_at_call 17; refine Calls.mono H17.out ?_; rintro e wz ⟨rfl, hz⟩; rw [hz]; clear hz))
        go_roundw
        case rel => exact ⟨k + 1, by omega, by go_num, by trivial⟩
        case measure => simp [intOf]; omega
      · obtain rfl : k = N := by omega
        go_wp2_with fail
        go_meet
        case rel => exact ⟨rfl, rfl⟩
  obtain ⟨rfl, rfl⟩ := hcut
  clear HQ HCN HCL
  go_upto_block 4 with fail
  go_cut [7] from 56 to 90 (fun v wx => v = .int .i64 (N : Nat) ∧ ∃ m, wx = w.drewN m)
  case first =>
    go_wp2_with fail
    go_loopw [10] (fun i wr => ∃ k m : Nat, k ≤ nres ∧ i = .int .i64 k ∧ wr = w.drewN m) (fun i _ => nres - (intOf i).toNat)
    case atStart => exact ⟨0, 0, by omega, rfl, rfl⟩
    case round =>
      obtain ⟨k, m, hk, rfl, rfl⟩ := hrel
      by_cases hlt : k < nres
      · have hc := HL.out k hlt
        have hs := HSM.out k hlt
        obtain ⟨hcr, ⟨a, c, hrb⟩, hqp⟩ := HR.out k hlt
        by_cases hp : 0 < Ln k
        · obtain ⟨hql, x, rfl, hcx⟩ := hqp hp
          have hcel : Cel w (rsb + 1 + k) := ⟨_, _, hrb⟩
          have hneq := fun m => neq36 (w := w.drewN m) (b := rsb + 1 + k) hcel
          have h21 := fun m => resAt_any (w := w.drewN m) (b := rsb + 1 + k) (q := .slice a (Ln k) c) (qa := (Qa k : Nat)) (wk := 0) hrb
          obtain ⟨g, hg⟩ : ∃ x, x = rsb + 1 + k := ⟨_, rfl⟩
          unfold ptr at hcx h21 hcr
          simp only [← hg] at hcx hcr hneq h21
          generalize Qa k = qk at *
          generalize Ln k = lk at *
          have H21 : Hid (∀ m, Calls Try.prog 21 #[.pointer (some ⟨g, 0, none⟩)] (w.drewN m) fun e w' => e = .returned (.int .i64 (qk : Nat)) ∧ w' = w.drewN m) := h21
          have hli : (k : Int) < (nres : Int) := by omega
          have hqi : (qk : Int) < (N : Int) := by omega
          have hd0 : decide ((qk : Int) < 0) = false := decide_eq_false (by omega)
          have hd1 : decide ((N : Int) ≤ (qk : Int)) = false := decide_eq_false (by omega)
          clear h21 hrb hqp hcel hg
          go_upto_region 21 with (go_at_call 21; refine Calls.mono (H21.out _) ?_; rintro e wz ⟨rfl, hz⟩; rw [hz]; clear hz)
          go_quiet (fail)
          go_wp2_with fail
          go_roundw
          case rel => exact ⟨k + 1, _, by omega, by go_num, rfl⟩
          case measure => simp [intOf]; omega
        · have hz : Ln k = 0 := by omega
          rw [hz] at hc
          clear hrb hqp hz hp hs
          go_wp2_with fail
          go_roundw
          case rel => exact ⟨k + 1, _, by omega, by go_num, rfl⟩
          case measure => simp [intOf]; omega
      · obtain rfl : k = nres := by omega
        go_wp2_with fail
        go_meet
        case rel => exact ⟨rfl, _, rfl⟩
  obtain ⟨rfl, m, rfl⟩ := hcut
  go_wp2_with fail
  go_ret
  exact ⟨rfl, _, rfl⟩
end Go.Proofs.Qxb6612390a.fnSetQueueScriptKeepsQueuedListExact
