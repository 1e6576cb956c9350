/-
  The law of one call of setQueue: the walk of the law itself where its tests pass.
-/
import Derived.Test.Qxb6612390aWant
import Derived.Deep.CutBlock
import Derived.BigQuiet
namespace Go.Proofs.Qxb6612390a.fnSetQueueSetsIndexesAndQueuedList
open Go.ChangeShapes Go.WideShapes Go.ChangeAt Go.RowKit
set_option linter.unusedVariables false

theorem info78 : (Try.prog.info? 78).map (fun i => i.size) = some 17 := by kernel_rfl
theorem info92 : (Try.prog.info? 92).map (fun i => i.size) = some 18 := by kernel_rfl
theorem size_of {P : Program} {t : TypeId} {n : Nat} (h : (P.info? t).map (fun i => i.size) = some n) : ∃ j, P.info? t = some j ∧ j.size = n := by
  cases hq : P.info? t with
  | none => simp [hq] at h
  | some j => exact ⟨j, rfl, by simpa [hq] using h⟩
theorem neq34 {w : World} {b : Nat} (h : Cel w b) : (binOp .neq 34 (.pointer (some ⟨b, 0, none⟩)) (.pointer (some ⟨b, 0, none⟩))).run Try.prog w = .ok (.bool false) w := by
  obtain ⟨j, hj, hs⟩ := size_of info78
  have := run_neq_ptr (P := Try.prog) (t := 34) Try.underlying34 hj (by omega) w b b h h
  simpa using this
theorem neq36 {w : World} {b : Nat} (h : Cel w b) : (binOp .neq 36 (.pointer (some ⟨b, 0, none⟩)) (.pointer (some ⟨b, 0, none⟩))).run Try.prog w = .ok (.bool false) w := by
  obtain ⟨j, hj, hs⟩ := size_of info92
  have := run_neq_ptr (P := Try.prog) (t := 36) Try.underlying36 hj (by omega) w b b h h
  simpa using this

theorem own_cell {w : World} {base N : Nat} {ua : Option Addr} {uc : Nat} {L : List Nat} (h : w.ownsRow base 36 1 (.slice ua N uc) N (L.map ptr)) {k b : Nat} (hb : L[k]? = some b) (hk : k < N) : ∃ x, ua = some ⟨x, 0, none⟩ ∧ w.cell? ⟨x, k, none⟩ = some (ptr b) := by
  obtain ⟨ub, rfl⟩ := own_some h (by omega)
  obtain ⟨cur, _, hcu, _, _, _, htk⟩ := own_get h
  refine ⟨ub, rfl, ?_⟩
  rw [cell_of hcu]
  have : (cur.toList.take N)[k]? = (L.map ptr)[k]? := by rw [htk]
  rw [List.getElem?_take, if_pos hk] at this
  simpa [hb] using this

def Done (w : World) (e : Ending) (w' : World) : Prop := e = .returned (.bool true) ∧ Below w.heap.size w w'

set_option maxRecDepth 100000 in
set_option maxHeartbeats 4000000 in
theorem walk_in (a0 : Option Addr) (lo c0 : Nat) (Z0 : Nat → Int) (a1 : Option Addr) (la c1 : Nat) (Z1 : Nat → Int) (from_ n pos : Nat) (wk : Int) (w : World)
    (h0 : NumsI w a0 lo Z0) (h1 : NumsI w a1 la Z1) (hlo : lo ≤ 65536) (hla : la ≤ 65536) (hn : n ≤ 65536) (hsum : 8 * (lo + la + n) ≤ 1048576) (hfr : (from_ : Int) ≤ 9223372036854775807) (hp : pos ≤ n) (hlm : lo ≤ maxLen) (ham : la ≤ maxLen) :
    Calls Try.prog 4 #[.slice a0 lo c0, .slice a1 la c1, .int .i64 from_, .int .i64 n, .int .i64 pos, .int .u64 wk] w (Done w) := by
  have hm1 := mk33 lo (by omega)
  go_enter Try.func4, Try.ntmps4
  go_wp2_with fail
  refine (bytes_any a0 lo c0 a1 la c1 _ _ _ _ _ hlm ham).mono ?_
  rintro e w' ⟨b, rfl, hw⟩
  rw [hw]
  clear hw
  cases b
  · go_wp2_with fail
    go_ret
    exact ⟨rfl, Below.refl _ _⟩
  clear hlm ham
  obtain ⟨was, hwas⟩ : ∃ b : Bool, b = decide (0 < lo) := ⟨_, rfl⟩
  obtain ⟨is_, his⟩ : ∃ b : Bool, b = decide (0 < la) := ⟨_, rfl⟩
  have HWS : Hid (was = decide (0 < lo)) := hwas
  have HIS : Hid (is_ = decide (0 < la)) := his
  clear hwas his
  go_upto_region 15 with fail
  go_cut [13, 14, 15] from 34 to 82 (fun a b q wx => a = .bool was ∧ b = .bool is_ ∧ q = .slice (some ⟨w.heap.size, 0, none⟩) lo lo ∧ wx = w.alloc (.cells (madeCells #[.pointer none] lo) 34))
  case first =>
    go_wp2_with fail
    go_meet
    case rel => exact ⟨by rw [HWS.out], by rw [HIS.out], rfl, rfl⟩
  obtain ⟨rfl, rfl, rfl, rfl⟩ := hcut
  clear hm1
  go_upto_block 0 with fail
  go_cut [15] from 83 to 96 (fun q wx => q = .slice (some ⟨w.heap.size, 0, none⟩) lo lo ∧ MadeQ w.heap.size lo Z0 lo w wx)
  case first =>
    go_wp2_with fail
    go_loopw [16] (fun i wr => ∃ k : Nat, k ≤ lo ∧ i = .int .i64 k ∧ MadeQ w.heap.size lo Z0 k w wr) (fun i _ => lo - (intOf i).toNat)
    case atStart => exact ⟨0, by omega, rfl, MadeQ.start lo Z0 w⟩
    case round =>
      obtain ⟨k, hk, rfl, hmd⟩ := hrel
      by_cases hlt : k < lo
      · obtain ⟨b, off, rfl, hc⟩ := h0 k hlt
        have hbn := cell_lt' hc
        have hcr : wr.cell? ⟨b, off + k, none⟩ = some (.int .i64 (Z0 k)) := (hmd.bel.cell (p := ⟨b, off + k, none⟩) hbn).trans hc
        have hbr : b < wr.heap.size := Nat.lt_of_lt_of_le hbn hmd.bel.size
        have hst := hmd.step hlt
        obtain ⟨c, hcc, hcs, _⟩ := hmd.arr
        have hqr := heap_lt hcc
        have hcw : wr.cell? ⟨w.heap.size, k, none⟩ = some (c[k]'(by omega)) := by rw [cell_of hcc]; simp [hcs, hlt]
        have hfw : wr.frozen? ⟨w.heap.size, k, none⟩ = false := by simp [World.frozen?, hcc]
        generalize c[k]'(by omega) = v0 at hcw
        unfold ptr at hst
        clear hmd hcc hcs hc h0 h1
        go_wp2_with (go_at_call 13; refine (newRequest_any _ _).mono ?_; rintro e w' ⟨rfl, rfl⟩; unfold ptr)
        go_roundw
        case rel => exact ⟨k + 1, by omega, by go_num, hst⟩
        case measure => simp [intOf]; omega
      · obtain rfl : k = lo := by omega
        clear h0 h1
        go_wp2_with fail
        go_meet
        case rel => exact ⟨rfl, hmd⟩
  obtain ⟨rfl, hmq⟩ := hcut
  obtain ⟨wq, hwq⟩ : ∃ x, x = wc := ⟨_, rfl⟩
  rw [← hwq] at hmq ⊢
  clear hwq
  have hm2 := mk38 n n (Nat.le_refl _) (by omega)
  have hm3 : ∀ W : World, (Instr.makeSlice 38 (.int .i64 0) (.int .i64 ((n : Int) + 1))).run Try.prog W = .ok (.slice (some ⟨W.heap.size, 0, none⟩) 0 (n + 1)) (W.alloc (.cells (madeCells #[.pointer none] (n + 1)) 36)) := fun W => by
    have := mk38 0 (n + 1) (by omega) (by omega) W
    simpa using this
  go_upto_block 2 with (go_at_call 14; refine (newResource_any _ _ _ _ _ _).mono ?_; rintro e w' ⟨rfl, rfl⟩; unfold ptr)
  obtain ⟨rb, hrb⟩ : ∃ x, x = wq.heap.size := ⟨_, rfl⟩
  have HRB : Hid (rb = wq.heap.size) := hrb
  rw [← hrb]
  clear hrb
  obtain ⟨o0, ho0⟩ : ∃ x, x = rb + 1 := ⟨_, rfl⟩
  have HO0 : Hid (o0 = rb + 1) := ho0
  rw [← ho0]
  have hro : rb < o0 := by omega
  clear ho0
  obtain ⟨w2, hw2⟩ : ∃ x, x = wq.alloc (.cells (rsC (.slice (some ⟨w.heap.size, 0, none⟩) lo lo) pos wk) 92) := ⟨_, rfl⟩
  have HW2 : Hid (w2 = wq.alloc (.cells (rsC (.slice (some ⟨w.heap.size, 0, none⟩) lo lo) pos wk) 92)) := hw2
  rw [← hw2]
  clear hw2 hm2 hm3
  have hmq1 : ∀ W : World, (Instr.makeSlice 33 (.int .i64 1) (.int .i64 1)).run Try.prog W = .ok (.slice (some ⟨W.heap.size, 0, none⟩) 1 1) (W.alloc (.cells #[.pointer none] 34)) := fun W => by
    have := mk33 1 (by omega) W
    rw [made1] at this
    simpa using this
  have hsz : rb + 1 ≤ w2.heap.size := by
    rw [HW2.out, size_alloc, HRB.out]; omega
  go_cut [19] from 97 to 146 (fun uv wx => ∃ Ol : List Nat, Ol.length = n ∧ (∃ ua l uc, uv = .slice ua l uc) ∧ Oth rb o0 n pos was w2 Ol (ins was pos rb Ol) uv wx)
  case first =>
    go_wp2_with fail
    go_loopw [19, 20] (fun uv i wr => ∃ (k : Nat) (Ol : List Nat) (ua : Option Addr) (uc : Nat), k ≤ n ∧ i = .int .i64 k ∧ Ol.length = k ∧ uv = .slice ua (ins was pos rb Ol).length uc ∧ Oth rb o0 n pos was w2 Ol (ins was pos rb Ol) uv wr) (fun _ i _ => n - (intOf i).toNat)
    case atStart =>
      refine ⟨0, [], some ⟨o0 + 1, 0, none⟩, n + 1, by omega, rfl, rfl, by simp [ins], ?_⟩
      have e1 : w2.heap.size = o0 := by rw [HW2.out, size_alloc, HO0.out, HRB.out]
      have hbel : Below (rb + 1) w2 ((w2.alloc (.cells (madeCells #[.pointer none] n) 36)).alloc (.cells (madeCells #[.pointer none] (n + 1)) 36)) := ((Below.refl _ _).alloc hsz _).alloc (by rw [size_alloc]; omega) _
      have harr := heap_new w2 (.cells (madeCells #[.pointer none] n) 36)
      rw [e1] at harr
      have hown := World.ownsRow_made (base := o0 + 1) (e := 36) (size := 1) (w2.alloc (.cells (madeCells #[.pointer none] n) 36)) (madeCells #[.pointer none] (n + 1)) (n + 1) (by rw [size_alloc]; omega) (by unfold maxLen; omega) (by rw [size_madeCells]; omega)
      rw [size_alloc, e1] at hown
      exact ⟨hbel, ⟨_, heap_old harr _, size_madeCells _ _, fun j hj => by simp at hj⟩, by simpa [ins] using hown, fun j b hj => by simp at hj, by simp, fun b hb => by simp at hb⟩
    case round =>
      obtain ⟨k, Ol, ua, uc, hk, rfl, hOl, rfl, hoth⟩ := hrel
      by_cases hlt : k < n
      · go_upto_region 26 with fail
        go_cut [116] from 106 to 116 (fun t wx => ∃ tb : Bool, t = .bool tb ∧ tb = (was && decide (k = pos)) ∧ wr = wx)
        case first =>
          cases was
          · go_wp2_with fail
            go_meet
            case rel => exact ⟨_, rfl, rfl, rfl⟩
          · go_wp2_with fail
            go_meet
            case rel => exact ⟨_, rfl, by rw [Bool.eq_iff_iff]; simp; omega, rfl⟩
        obtain ⟨tb, rfl, htb, rfl⟩ := hcut
        have HTB : Hid (tb = (was && decide (k = pos))) := htb
        clear htb
        go_upto_if 116 with fail
        go_cut [19] from 117 to 120 (fun uv wx => ∃ ua' uc', uv = .slice ua' (insM was pos rb Ol).length uc' ∧ Oth rb o0 n pos was w2 Ol (insM was pos rb Ol) uv wx)
        case first =>
          cases tb
          · have he : insM was pos rb Ol = ins was pos rb Ol := insM_miss (fun hh => by
              have := HTB.out
              rw [hh.1, ← hOl, hh.2] at this
              simp at this)
            have HO : Hid (Oth rb o0 n pos was w2 Ol (insM was pos rb Ol) (.slice ua (insM was pos rb Ol).length uc) wr) := by rw [he]; exact hoth
            have HE : Hid (insM was pos rb Ol = ins was pos rb Ol) := he
            clear he hoth
            go_wp2_with fail
            go_meet
            case rel => exact ⟨ua, uc, by rw [HE.out], by rw [← HE.out]; exact HO.out⟩
          · have hh : was = true ∧ Ol.length = pos := by
              have := HTB.out
              cases was
              · simp at this
              · simp at this; exact ⟨rfl, by omega⟩
            obtain ⟨rfl, hop⟩ := hh
            have he : insM true pos rb Ol = ins true pos rb Ol ++ [rb] := insM_hit hop
            have hown := hoth.own.alloc (.cells #[.pointer (some ⟨rb, 0, none⟩)] 36)
            have hpush := fun (v' : Value) (w' : World) => Oth.push (x := rb) (v' := v') (w' := w') hoth hsz hro
            have hbb : o0 + 1 ≤ wr.heap.size + 1 := by
              obtain ⟨c, hc, _⟩ := hoth.arr
              have := heap_lt hc
              omega
            have hle : (ins true pos rb Ol).length ≤ 100000 := by
              unfold ins
              split
              · simp; omega
              · omega
            have HE : Hid (insM true pos rb Ol = ins true pos rb Ol ++ [rb]) := he
            have HP : Hid _ := hpush
            have HO : Hid _ := hown
            clear he hoth hpush hown
            obtain ⟨nq, hnq⟩ : ∃ x, x = (ins true pos rb Ol).length := ⟨_, rfl⟩
            rw [← hnq] at hle ⊢
            have HNQ : Hid (nq = (ins true pos rb Ol).length) := hnq
            clear hnq
            go_wp2_with (at_builtin; refine wpList_push rfl (.tmp 117) (.tmp 119) rfl (o0 + 1) ua nq uc _ _ rb rfl rfl (by rw [HNQ.out]; exact HO.out) (by simp [ptr]) (by omega) (by rw [size_alloc]; exact hbb) ?_; intro ua' uc' w5 hown' hf')
            go_meet
            case rel =>
              have hx := HP.out (.slice ua' (nq + 1) uc') w5 (((Fr.refl _ _).alloc _).trans (by rw [HNQ.out] at hf'; exact hf')) (by rw [← HNQ.out]; exact hown')
              refine ⟨ua', uc', ?_, by rw [HE.out]; exact hx⟩
              rw [HE.out, HNQ.out]
              simp
        obtain ⟨ua, uc, rfl, hoth⟩ := hcut
        obtain ⟨wx, rfl⟩ : ∃ x, x = wc := ⟨_, rfl⟩
        go_upto_region 31 with (go_at_call 13; refine (newRequest_any _ _).mono ?_; rintro e w' ⟨rfl, rfl⟩; unfold ptr)
        obtain ⟨wy, hwy⟩ : ∃ x, x = ((wx.alloc (.cells #[.pointer (some ⟨wx.heap.size + 1, 0, none⟩)] 34)).alloc (.cells (rqC 0) 78)) := ⟨_, rfl⟩
        rw [← hwy]
        have HWY : Hid (wy = ((wx.alloc (.cells #[.pointer (some ⟨wx.heap.size + 1, 0, none⟩)] 34)).alloc (.cells (rqC 0) 78))) := hwy
        clear hwy
        go_cut [131] from 121 to 131 (fun t wz => ∃ tc : Bool, t = .bool tc ∧ tc = (was && decide (pos ≤ k)) ∧ wy = wz)
        case first =>
          cases was
          · go_wp2_with fail
            go_meet
            case rel => exact ⟨_, rfl, rfl, rfl⟩
          · go_wp2_with fail
            go_meet
            case rel => exact ⟨_, rfl, by rw [Bool.eq_iff_iff]; simp, rfl⟩
        obtain ⟨tc, rfl, htc, rfl⟩ := hcut
        have HTC : Hid (tc = (was && decide (pos ≤ k))) := htc
        clear htc
        go_upto_if 131 with fail
        go_cut [22] from 132 to 133 (fun v wz => v = .int .i64 (if was = true ∧ pos ≤ Ol.length then (Ol.length : Int) + 1 else Ol.length) ∧ wy = wz)
        case first =>
          cases tc
          · go_wp2_with fail
            go_meet
            case rel =>
              refine ⟨?_, rfl⟩
              have hh : ¬ (was = true ∧ pos ≤ Ol.length) := fun hh => by
                have := HTC.out
                rw [hh.1, ← hOl] at this
                simp at this
                omega
              rw [if_neg hh, hOl]
          · go_wp2_with fail
            go_meet
            case rel =>
              refine ⟨?_, rfl⟩
              have hh : was = true ∧ pos ≤ Ol.length := by
                have := HTC.out
                cases was
                · simp at this
                · simp at this; exact ⟨rfl, by omega⟩
              rw [if_pos hh, hOl]
        obtain ⟨rfl, rfl⟩ := hcut
        obtain ⟨atv, hatv⟩ : ∃ x : Int, x = if was = true ∧ pos ≤ Ol.length then (Ol.length : Int) + 1 else Ol.length := ⟨_, rfl⟩
        rw [← hatv]
        have hmore := fun (o1 o2 : Obj) (a : Option Addr) (l c : Nat) => oth_more3 hoth hsz hro (by omega) o1 o2 a l c atv hatv
        rw [HWY.out]
        clear HWY
        obtain ⟨d, hd, hds, _⟩ := hoth.arr
        have hdl := heap_lt hd
        have hdw : wx.cell? ⟨o0, k, none⟩ = some (d[k]'(by omega)) := by rw [cell_of hd]; simp [hds, hlt]
        have hdf : wx.frozen? ⟨o0, k, none⟩ = false := by simp [World.frozen?, hd]
        generalize d[k]'(by omega) = v0 at hdw
        have hd1 : o0 < wx.heap.size + 1 := by omega
        have hd2 : o0 < wx.heap.size + 1 + 1 := by omega
        have hd3 : o0 < wx.heap.size + 1 + 1 + 1 := by omega
        have HM : Hid _ := hmore
        have hle : (insM was pos rb Ol).length ≤ 100000 := by
          unfold insM
          split
          · simp; omega
          · omega
        have HSN : Hid (ins was pos rb (Ol ++ [wx.heap.size + 1 + 1]) = insM was pos rb Ol ++ [wx.heap.size + 1 + 1]) := ins_snoc _ _ _ _ _
        obtain ⟨nq, hnq⟩ : ∃ x, x = (insM was pos rb Ol).length := ⟨_, rfl⟩
        rw [← hnq] at hle ⊢
        have HNQ : Hid (nq = (insM was pos rb Ol).length) := hnq
        clear hmore hatv hoth hd hds hnq
        go_wp2_with (first | (go_at_call 14; refine (newResource_any _ _ _ _ _ _).mono ?_; rintro e w' ⟨rfl, rfl⟩; unfold ptr) | (at_builtin; refine wpList_push rfl (.tmp 140) (.tmp 145) rfl (o0 + 1) ua nq uc ((insM was pos rb Ol).map ptr) _ (wx.heap.size + 1 + 1) rfl rfl ?own ?cell (by omega) ?hb ?_))
        case own =>
          rw [HNQ.out]
          refine World.ownsRow.alloc ?_ _
          have := (HM.out (.cells #[.pointer (some ⟨wx.heap.size + 1, 0, none⟩)] 34) (.cells (rqC 0) 78) (some ⟨wx.heap.size, 0, none⟩) 1 1).own
          rw [hOl] at this
          exact this
        case cell => exact cell_top _ _ (by simp only [size_alloc, size_setCell]) _ _
        case hb =>
          simp only [size_alloc, size_setCell]
          omega
        intro ua' uc' w5 hown' hf'
        go_wp2_with fail
        go_roundw
        case rel =>
          have h4 := HM.out (.cells #[.pointer (some ⟨wx.heap.size + 1, 0, none⟩)] 34) (.cells (rqC 0) 78) (some ⟨wx.heap.size, 0, none⟩) 1 1
          rw [hOl, ← HNQ.out] at h4
          have h5 := h4.push (x := wx.heap.size + 1 + 1) (v' := .slice ua' (nq + 1) uc') (w' := w5) hsz hro (((Fr.refl _ _).alloc _).trans hf') (by rw [← HNQ.out]; exact hown')
          refine ⟨k + 1, Ol ++ [wx.heap.size + 1 + 1], ua', uc', by omega, by go_num, by simp; omega, ?_, ?_⟩
          · rw [HSN.out, HNQ.out]; simp
          · rw [HSN.out]; exact h5
        case measure => simp [intOf]; omega
      · obtain rfl : k = n := by omega
        go_wp2_with fail
        go_meet
        case rel => exact ⟨Ol, hOl, ⟨_, _, _, rfl⟩, hoth⟩
  obtain ⟨Ol, hOl, ⟨ua, ul, uc, rfl⟩, hoth⟩ := hcut
  have hul : ul = (ins was pos rb Ol).length := by
    rcases hoth.own.2 with ⟨hh, hz⟩ | ⟨g, cap, cur, hh, _⟩
    · simp at hh
      omega
    · simp at hh
      exact hh.2.1
  subst hul
  obtain ⟨w3, hw3⟩ : ∃ x, x = wc := ⟨_, rfl⟩
  rw [← hw3] at hoth ⊢
  clear hw3
  go_upto_region 35 with fail
  go_cut [152] from 147 to 152 (fun t wx => ∃ tb : Bool, t = .bool tb ∧ tb = (was && decide (pos = n)) ∧ w3 = wx)
  case first =>
    cases was
    · go_wp2_with fail
      go_meet
      case rel => exact ⟨_, rfl, rfl, rfl⟩
    · go_wp2_with fail
      go_meet
      case rel => exact ⟨_, rfl, by rw [Bool.eq_iff_iff]; simp; omega, rfl⟩
  obtain ⟨tb, rfl, htb, rfl⟩ := hcut
  have HTB : Hid (tb = (was && decide (pos = n))) := htb
  clear htb
  go_upto_if 152 with fail
  go_cut [19] from 153 to 156 (fun uv wx => ∃ ua' uc', uv = .slice ua' (insM was pos rb Ol).length uc' ∧ Oth rb o0 n pos was w2 Ol (insM was pos rb Ol) uv wx)
  case first =>
    cases tb
    · have he : insM was pos rb Ol = ins was pos rb Ol := insM_miss (fun hh => by
        have := HTB.out
        rw [hh.1, ← hOl, hh.2] at this
        simp at this)
      have HE : Hid (insM was pos rb Ol = ins was pos rb Ol) := he
      have HO : Hid (Oth rb o0 n pos was w2 Ol (ins was pos rb Ol) (.slice ua (ins was pos rb Ol).length uc) w3) := hoth
      clear he hoth
      go_wp2_with fail
      go_meet
      case rel => exact ⟨ua, uc, by rw [HE.out], by rw [HE.out]; exact HO.out⟩
    · have hh : was = true ∧ Ol.length = pos := by
        have := HTB.out
        cases was
        · simp at this
        · simp at this; exact ⟨rfl, by omega⟩
      obtain ⟨rfl, hop⟩ := hh
      have he : insM true pos rb Ol = ins true pos rb Ol ++ [rb] := insM_hit hop
      have hown := hoth.own.alloc (.cells #[.pointer (some ⟨rb, 0, none⟩)] 36)
      have hpush := fun (v' : Value) (w' : World) => Oth.push (x := rb) (v' := v') (w' := w') hoth hsz hro
      have hbb : o0 + 1 ≤ w3.heap.size + 1 := by
        obtain ⟨c, hc, _⟩ := hoth.arr
        have := heap_lt hc
        omega
      have hle : (ins true pos rb Ol).length ≤ 100000 := by
        unfold ins
        split
        · simp; omega
        · omega
      have HE : Hid (insM true pos rb Ol = ins true pos rb Ol ++ [rb]) := he
      have HP : Hid _ := hpush
      have HO : Hid _ := hown
      clear he hoth hpush hown
      obtain ⟨nq, hnq⟩ : ∃ x, x = (ins true pos rb Ol).length := ⟨_, rfl⟩
      rw [← hnq] at hle ⊢
      have HNQ : Hid (nq = (ins true pos rb Ol).length) := hnq
      clear hnq
      go_wp2_with (at_builtin; refine wpList_push rfl (.tmp 153) (.tmp 155) rfl (o0 + 1) ua nq uc _ _ rb rfl rfl (by rw [HNQ.out]; exact HO.out) (by simp [ptr]) (by omega) (by rw [size_alloc]; exact hbb) ?_; intro ua' uc' w5 hown' hf')
      go_meet
      case rel =>
        have hx := HP.out (.slice ua' (nq + 1) uc') w5 (((Fr.refl _ _).alloc _).trans (by rw [HNQ.out] at hf'; exact hf')) (by rw [← HNQ.out]; exact hown')
        refine ⟨ua', uc', ?_, by rw [HE.out]; exact hx⟩
        rw [HE.out, HNQ.out]
        simp
  obtain ⟨ua, uc, rfl, hoth⟩ := hcut
  obtain ⟨w4, hw4⟩ : ∃ x, x = wc := ⟨_, rfl⟩
  rw [← hw4] at hoth ⊢
  clear hw4 hmq1
  have hm4 := mk33 la (by omega)
  go_wp2_with fail
  refine (newTable_any _ _ _ _).mono ?_
  rintro e w5 ⟨rfl, htab, hb5, hs5⟩
  unfold ptr
  have hB5 : Below w.heap.size w w5 := by
    have hq := hmq.size
    have b2 : Below wq.heap.size wq w2 := by rw [HW2.out]; exact (Below.refl _ _).alloc (Nat.le_refl _) _
    have hz2 : w2.heap.size = rb + 1 := by rw [HW2.out, size_alloc, HRB.out]
    have hrq := HRB.out
    have h4 := hoth.bel.size
    exact hmq.bel.trans ((b2.mono (by omega)).trans ((hoth.bel.mono (by omega)).trans (hb5.mono (by omega))))
  clear hs5
  go_upto_block 4 with fail
  go_cut [24] from 157 to 175 (fun q wx => q = .slice (some ⟨w5.heap.size, 0, none⟩) la la ∧ MadeQ w5.heap.size la Z1 la w5 wx)
  case first =>
    go_wp2_with fail
    go_loopw [25] (fun i wr => ∃ k : Nat, k ≤ la ∧ i = .int .i64 k ∧ MadeQ w5.heap.size la Z1 k w5 wr) (fun i _ => la - (intOf i).toNat)
    case atStart => exact ⟨0, by omega, rfl, MadeQ.start la Z1 w5⟩
    case round =>
      obtain ⟨k, hk, rfl, hmd⟩ := hrel
      by_cases hlt : k < la
      · obtain ⟨b, off, rfl, hc⟩ := h1 k hlt
        have hbn := cell_lt' hc
        have hbw : Below w.heap.size w wr := hB5.trans (hmd.bel.mono hB5.size)
        have hcr : wr.cell? ⟨b, off + k, none⟩ = some (.int .i64 (Z1 k)) := (hbw.cell (p := ⟨b, off + k, none⟩) hbn).trans hc
        have hbr : b < wr.heap.size := Nat.lt_of_lt_of_le hbn hbw.size
        have hst := hmd.step hlt
        obtain ⟨c, hcc, hcs, _⟩ := hmd.arr
        have hqr := heap_lt hcc
        have hcw : wr.cell? ⟨w5.heap.size, k, none⟩ = some (c[k]'(by omega)) := by rw [cell_of hcc]; simp [hcs, hlt]
        have hfw : wr.frozen? ⟨w5.heap.size, k, none⟩ = false := by simp [World.frozen?, hcc]
        generalize c[k]'(by omega) = v0 at hcw
        unfold ptr at hst
        clear hmd hcc hcs hc h0 h1 hm4 hbw hoth htab hb5 hB5 hmq
        go_wp2_with (go_at_call 13; refine (newRequest_any _ _).mono ?_; rintro e w' ⟨rfl, rfl⟩; unfold ptr)
        go_roundw
        case rel => exact ⟨k + 1, by omega, by go_num, hst⟩
        case measure => simp [intOf]; omega
      · obtain rfl : k = la := by omega
        clear h0 h1 hm4
        go_wp2_with fail
        go_meet
        case rel => exact ⟨rfl, hmd⟩
  obtain ⟨rfl, hmn⟩ := hcut
  obtain ⟨w6, hw6⟩ : ∃ x, x = wc := ⟨_, rfl⟩
  rw [← hw6] at hmn ⊢
  have hpre := pre_of hmq HRB.out HW2.out hoth htab rfl hb5 hmn
  obtain ⟨tb, htb⟩ : ∃ x, x = w4.heap.size := ⟨_, rfl⟩
  obtain ⟨nb, hnb⟩ : ∃ x, x = w5.heap.size := ⟨_, rfl⟩
  rw [← htb, ← hnb] at hpre ⊢
  clear hw6 hmq hoth htab hb5 hmn hB5 hm4 htb hnb HRB HW2 HTB HO0
  have hca := call_after from_ hpre hOl hp hn hlo hla hfr HWS.out HIS.out hro
  unfold ptr at hca
  have HCA : Hid _ := hca
  clear hca hpre hoth
  go_upto_region 44 with (go_at_call 16; refine Calls.mono HCA.out ?_; rintro e w7 ⟨rfl, haf⟩)
  go_cut [26] from 176 to 187 (fun q wx => q = .slice (some ⟨nb, 0, none⟩) la la ∧ w7 = wx)
  case first =>
    have hrq := resQueue_any haf.res
    unfold ptr at hrq
    have HRQ : Hid _ := hrq
    clear hrq haf
    go_wp2_with (go_at_call 17; refine Calls.mono HRQ.out ?_; rintro e w' ⟨rfl, rfl⟩)
    go_meet
    case rel => exact ⟨rfl, rfl⟩
  obtain ⟨rfl, rfl⟩ := hcut
  go_upto_block 6 with fail
  go_cut [26] from 183 to 217 (fun q wx => q = .slice (some ⟨nb, 0, none⟩) la la ∧ After w lo Z0 rb pos o0 n was is_ Ol tb nb la from_ Z1 wx)
  case first =>
    go_wp2_with fail
    go_loopw [27] (fun i wr => ∃ k : Nat, k ≤ la ∧ i = .int .i64 k ∧ After w lo Z0 rb pos o0 n was is_ Ol tb nb la from_ Z1 wr) (fun i _ => la - (intOf i).toNat)
    case atStart => exact ⟨0, by omega, rfl, haf⟩
    case round =>
      clear haf HCA
      obtain ⟨k, hk, rfl, haf⟩ := hrel
      by_cases hlt : k < la
      · obtain ⟨b, off, rfl, hc⟩ := h1 k hlt
        have hbn := cell_lt' hc
        have hcr : wr.cell? ⟨b, off + k, none⟩ = some (.int .i64 (Z1 k)) := (haf.bel.cell (p := ⟨b, off + k, none⟩) hbn).trans hc
        have hcq : wr.cell? ⟨nb, k, none⟩ = some (ptr (nb + 1 + k)) := haf.narr.cell hlt
        have hrq : Req wr (nb + 1 + k) (newAt from_ Z1 k) := haf.nreq k hlt
        have hcel : Cel wr (nb + 1 + k) := ⟨_, _, hrq⟩
        have hneq := fun m => neq34 (w := wr.drewN m) (b := nb + 1 + k) hcel
        obtain ⟨g, hg⟩ : ∃ x, x = nb + 1 + k := ⟨_, rfl⟩
        simp only [← hg] at hcq hrq hneq
        unfold ptr at hcq
        have hli : (k : Int) < (la : Int) := by omega
        have hra := fun m => reqAt_any (w := wr.drewN m) (b := g) (at_ := newAt from_ Z1 k) hrq
        unfold ptr at hra
        have HRA : Hid (∀ m, Calls Try.prog 18 #[.pointer (some ⟨g, 0, none⟩)] (wr.drewN m) fun e w' => e = .returned (.int .i64 (newAt from_ Z1 k)) ∧ w' = wr.drewN m) := hra
        have HAF : Hid (After w lo Z0 rb pos o0 n was is_ Ol tb nb la from_ Z1 wr) := haf
        clear hra hcel hc hrq h0 h1 haf hg
        go_upto_region 50 with fail
        go_quiet (fail)
        by_cases hfk : from_ ≤ k
        · have hna : newAt from_ Z1 k = k := by unfold newAt; rw [if_pos hfk]
          rw [hna] at HRA
          have hfi : ¬ ((k : Int) < (from_ : Int)) := by omega
          go_wp2_with (go_at_call 18; refine Calls.mono (HRA.out _) ?_; rintro e w' ⟨rfl, rfl⟩)
          go_roundw
          case rel => exact ⟨k + 1, by omega, by go_num, HAF.out.drewN _⟩
          case measure => simp [intOf]; omega
        · have hna : newAt from_ Z1 k = Z1 k := by unfold newAt; rw [if_neg hfk]
          rw [hna] at HRA
          have hfi : ((k : Int) < (from_ : Int)) := by omega
          go_wp2_with (go_at_call 18; refine Calls.mono (HRA.out _) ?_; rintro e w' ⟨rfl, rfl⟩)
          go_roundw
          case rel => exact ⟨k + 1, by omega, by go_num, HAF.out.drewN _⟩
          case measure => simp [intOf]; omega
      · obtain rfl : k = la := by omega
        clear h0 h1
        go_wp2_with fail
        go_meet
        case rel => exact ⟨rfl, haf⟩
  obtain ⟨rfl, haf⟩ := hcut
  go_upto_block 8 with fail
  go_cut [15] from 218 to 233 (fun q wx => q = .slice (some ⟨w.heap.size, 0, none⟩) lo lo ∧ After w lo Z0 rb pos o0 n was is_ Ol tb nb la from_ Z1 wx)
  case first =>
    go_wp2_with fail
    go_loopw [29] (fun i wr => ∃ k : Nat, k ≤ lo ∧ i = .int .i64 k ∧ After w lo Z0 rb pos o0 n was is_ Ol tb nb la from_ Z1 wr) (fun i _ => lo - (intOf i).toNat)
    case atStart => exact ⟨0, by omega, rfl, haf⟩
    case round =>
      clear haf
      obtain ⟨k, hk, rfl, haf⟩ := hrel
      by_cases hlt : k < lo
      · obtain ⟨b, off, rfl, hc⟩ := h0 k hlt
        have hbn := cell_lt' hc
        have hcr : wr.cell? ⟨b, off + k, none⟩ = some (.int .i64 (Z0 k)) := (haf.bel.cell (p := ⟨b, off + k, none⟩) hbn).trans hc
        have hcq : wr.cell? ⟨w.heap.size, k, none⟩ = some (ptr (w.heap.size + 1 + k)) := haf.oarr.cell hlt
        have hrq : Req wr (w.heap.size + 1 + k) (Z0 k) := haf.oreq k hlt
        obtain ⟨g, hg⟩ : ∃ x, x = w.heap.size + 1 + k := ⟨_, rfl⟩
        simp only [← hg] at hcq hrq
        unfold ptr at hcq
        have hli : (k : Int) < (lo : Int) := by omega
        have hra := fun m => reqAt_any (w := wr.drewN m) (b := g) (at_ := Z0 k) hrq
        unfold ptr at hra
        have HRA : Hid (∀ m, Calls Try.prog 18 #[.pointer (some ⟨g, 0, none⟩)] (wr.drewN m) fun e w' => e = .returned (.int .i64 (Z0 k)) ∧ w' = wr.drewN m) := hra
        have HAF : Hid (After w lo Z0 rb pos o0 n was is_ Ol tb nb la from_ Z1 wr) := haf
        clear hra hc hrq h0 h1 haf hg
        go_upto_region 60 with fail
        go_quiet (first | (go_at_call 18; exact Calls.quiet_of_same (HRA.out _)))
        go_wp2_with fail
        go_roundw
        case rel => exact ⟨k + 1, by omega, by go_num, HAF.out.drewN _⟩
        case measure => simp [intOf]; omega
      · obtain rfl : k = lo := by omega
        clear h0 h1
        go_wp2_with fail
        go_meet
        case rel => exact ⟨rfl, haf⟩
  obtain ⟨rfl, haf⟩ := hcut
  obtain ⟨w8, hw8⟩ : ∃ x, x = wc := ⟨_, rfl⟩
  rw [← hw8] at haf ⊢
  clear hw8
  have hrw := resWalk_any haf.res
  unfold ptr at hrw
  have HRW : Hid (Calls Try.prog 19 #[.pointer (some ⟨rb, 0, none⟩)] w8 fun e w' => e = .returned (.int .u64 0) ∧ w' = w8) := hrw
  clear hrw
  have hm3 : ∀ W : World, (Instr.makeSlice 38 (.int .i64 0) (.int .i64 ((n : Int) + 1))).run Try.prog W = .ok (.slice (some ⟨W.heap.size, 0, none⟩) 0 (n + 1)) (W.alloc (.cells (madeCells #[.pointer none] (n + 1)) 36)) := fun W => by
    have := mk38 0 (n + 1) (by omega) (by omega) W
    simpa using this
  go_upto_block 10 with (go_at_call 19; refine Calls.mono HRW.out ?_; rintro e wz ⟨rfl, hz⟩; rw [hz]; clear hz)
  have hws := Wnt.start w8 (n + 1) (by omega)
  have hotl : o0 < w8.heap.size := by
    obtain ⟨c, hc, _⟩ := haf.others
    exact heap_lt hc
  have hoc : ∀ j y, Ol[j]? = some y → w8.cell? ⟨o0, j, none⟩ = some (ptr y) := fun j y hj => by
    obtain ⟨c, hc, _, hcj⟩ := haf.others
    rw [cell_of hc, hcj j (List.getElem?_eq_some_iff.1 hj).1, hj]
    rfl
  clear hm3 HRW
  have HAF : Hid (After w lo Z0 rb pos o0 n was is_ Ol tb nb la from_ Z1 w8) := haf
  have HOC : Hid (∀ j y, Ol[j]? = some y → w8.cell? ⟨o0, j, none⟩ = some (ptr y)) := hoc
  clear haf hoc
  generalize w8.alloc (.cells (madeCells #[.pointer none] (n + 1)) 36) = w9 at hws ⊢
  generalize (Value.slice (some ⟨w8.heap.size, 0, none⟩) 0 (n + 1)) = v9 at hws ⊢
  go_cut [30, 31] from 241 to 308 (fun v p wx => p = .int .i64 (wantAt was is_ pos n : Nat) ∧ Wnt w8 (wantL was is_ pos rb Ol) v wx)
  case first =>
    have hall : ∀ j y, Ol[j]? = some y → w8.cell? ⟨o0, 0 + j, none⟩ = some (ptr y) := fun j y hj => by rw [Nat.zero_add]; exact HOC.out j y hj
    have HALL : Hid (∀ j y, Ol[j]? = some y → w8.cell? ⟨o0, 0 + j, none⟩ = some (ptr y)) := hall
    have HTK : Hid (∀ j y, (Ol.take pos)[j]? = some y → w8.cell? ⟨o0, 0 + j, none⟩ = some (ptr y)) := fun j y hj => by
      rw [List.getElem?_take] at hj
      split at hj
      · exact hall j y hj
      · cases hj
    clear hall
    cases was <;> cases is_
    · go_wp2_with (at_builtin; refine wpList_rows rfl (.tmp 241) (.tmp 242) rfl hws o0 0 n n rfl rfl hOl hotl HALL.out (by simp; omega) ?_; intro v1 w1 hw1)
      go_meet
      case rel => exact ⟨by simp [wantAt], by simpa [wantL] using hw1⟩
    · go_wp2_with (first | (at_builtin; refine wpList_rows rfl (.tmp 250) (.tmp 251) rfl hws o0 0 n n rfl rfl hOl hotl HALL.out (by simp; omega) ?_; intro v1 w1 hw1) | (at_builtin; refine wpList_one rfl (.tmp 253) (.tmp 255) rfl rb hw1 rfl rfl (by simp; omega) ?_; intro v2 w2 hw2))
      go_meet
      case rel => exact ⟨by simp [wantAt], by simpa [wantL] using hw2⟩
    · by_cases hlt : pos < n
      · have hs0 := sl_h o0 n pos hp
        have hs1 := sl_lh o0 n pos hlt
        obtain ⟨m, hm⟩ : ∃ m, Ol[n - 1]? = some m := ⟨_, List.getElem?_eq_getElem (by omega)⟩
        have hcm := HOC.out _ _ hm
        unfold ptr at hcm
        have HM : Hid (Ol[n - 1]? = some m) := hm
        have HDR : Hid (∀ j y, ((Ol.take (n - 1)).drop pos)[j]? = some y → w8.cell? ⟨o0, pos + j, none⟩ = some (ptr y)) := fun j y hj => by
          rw [List.getElem?_drop, List.getElem?_take] at hj
          split at hj
          · exact HOC.out _ y hj
          · cases hj
        clear hm
        have hn1 : (0 : Int) < (n : Int) := by omega
        have hpi : (pos : Int) < (n : Int) := by omega
        go_wp2_with (first | (at_builtin; refine wpList_rows rfl (.tmp 267) (.tmp 270) rfl hws o0 0 pos n rfl rfl (by simp; omega) hotl HTK.out (by simp; omega) ?_; intro v1 w1 hw1; have hc1 := hw1.cell hcm) | (at_builtin; refine wpList_one rfl (.tmp 272) (.tmp 278) rfl m hw1 rfl rfl (by simp; omega) ?_; intro v2 w2 hw2) | (at_builtin; refine wpList_rows rfl (.tmp 280) (.tmp 285) rfl hw2 o0 pos (n - 1 - pos) (n - pos) rfl rfl (by simp; omega) hotl HDR.out (by simp; omega) ?_; intro v3 w3 hw3))
        go_meet
        case rel =>
          refine ⟨by simp [wantAt], ?_⟩
          have hg : Ol.getD (Ol.length - 1) 0 = m := by
            rw [List.getD_eq_getElem?_getD, hOl, HM.out]
            rfl
          unfold wantL
          simp only [hOl, if_pos hlt]
          rw [hOl] at hg
          rw [hg]
          simpa using hw3
      · have hpi : ¬ (pos : Int) < (n : Int) := by omega
        go_wp2_with (at_builtin; refine wpList_rows rfl (.tmp 287) (.tmp 288) rfl hws o0 0 n n rfl rfl hOl hotl HALL.out (by simp; omega) ?_; intro v1 w1 hw1)
        go_meet
        case rel =>
          refine ⟨by simp [wantAt], ?_⟩
          unfold wantL
          simp only [hOl, if_neg hlt]
          simpa using hw1
    · have hs0 := sl_h o0 n pos hp
      obtain ⟨pd, hpd, hs1⟩ := sl_l o0 n pos hp
      have HDR : Hid (∀ j y, (Ol.drop pos)[j]? = some y → w8.cell? ⟨o0, pd + j, none⟩ = some (ptr y)) := fun j y hj => by
        rw [List.getElem?_drop] at hj
        have hlt := (List.getElem?_eq_some_iff.1 hj).1
        rw [hpd (by omega)]
        exact HOC.out _ y hj
      clear hpd
      go_wp2_with (first | (at_builtin; refine wpList_rows rfl (.tmp 295) (.tmp 298) rfl hws o0 0 pos n rfl rfl (by simp; omega) hotl HTK.out (by simp; omega) ?_; intro v1 w1 hw1) | (at_builtin; refine wpList_one rfl (.tmp 300) (.tmp 302) rfl rb hw1 rfl rfl (by simp; omega) ?_; intro v2 w2 hw2) | (at_builtin; refine wpList_rows rfl (.tmp 304) (.tmp 307) rfl hw2 o0 pd (n - pos) (n - pos) rfl rfl (by simp; omega) hotl HDR.out (by simp; omega) ?_; intro v3 w3 hw3))
      go_meet
      case rel => exact ⟨by simp [wantAt], by simpa [wantL] using hw3⟩
  obtain ⟨rfl, hwn⟩ := hcut
  have haf := HAF.out.below hwn.2.2
  clear HAF HOC hws
  obtain ⟨ta, tc, htab, hown⟩ := haf.tab
  obtain ⟨⟨va, vc, rfl⟩, hown2, _⟩ := hwn
  have hN : (wantL was is_ pos rb Ol).length ≤ 100000 := by
    unfold wantL
    cases was <;> cases is_
    · simp only; omega
    · simp; omega
    · simp only
      split
      · simp; omega
      · omega
    · simp; omega
  have heach := haf.each
  have hres := haf.res
  have hbel := haf.bel
  obtain ⟨w10, hw10⟩ : ∃ x, x = wc := ⟨_, rfl⟩
  rw [← hw10] at htab hown hown2 heach hres hbel ⊢
  clear hw10 haf
  generalize wantL was is_ pos rb Ol = L at *
  generalize wantAt was is_ pos n = wat at *
  obtain ⟨N, hNL⟩ : ∃ x, x = L.length := ⟨_, rfl⟩
  rw [← hNL] at htab hown hown2 hN ⊢
  have hget : ∀ k, k < N → ∃ b, (∃ x, ta = some ⟨x, 0, none⟩ ∧ w10.cell? ⟨x, k, none⟩ = some (ptr b)) ∧ (∃ y, va = some ⟨y, 0, none⟩ ∧ w10.cell? ⟨y, k, none⟩ = some (ptr b)) ∧ ∃ q wk, Res w10 b q (k : Nat) wk := fun k hk => by
    obtain ⟨b, hb⟩ : ∃ b, L[k]? = some b := ⟨_, List.getElem?_eq_getElem (by omega)⟩
    exact ⟨b, own_cell hown hb hk, own_cell hown2 hb hk, heach k b hb⟩
  have htq := tabQueued_any htab
  unfold ptr at htq
  have HTQ : Hid (Calls Try.prog 20 #[.pointer (some ⟨tb, 0, none⟩)] w10 fun e w' => e = .returned (.slice ta N tc) ∧ w' = w10) := htq
  have HGET : Hid _ := hget
  have HRES : Hid (Res w10 rb (.slice (some ⟨nb, 0, none⟩) la la) (wat : Nat) 0) := hres
  have HBEL : Hid (Below w.heap.size w w10) := hbel
  clear htq hget hres hbel heach hown hown2 htab hNL h0 h1
  go_upto_block 11 with (go_at_call 20; refine Calls.mono HTQ.out ?_; rintro e wz ⟨rfl, hz⟩; rw [hz]; clear hz)
  go_cut [32] from 309 to 337 (fun q wx => q = .slice ta N tc ∧ ∃ m, wx = w10.drewN m)
  case first =>
    go_wp2_with fail
    go_loopw [33] (fun i wr => ∃ k m : Nat, k ≤ N ∧ i = .int .i64 k ∧ wr = w10.drewN m) (fun i _ => N - (intOf i).toNat)
    case atStart => exact ⟨0, 0, by omega, rfl, rfl⟩
    case round =>
      obtain ⟨k, m, hk, rfl, rfl⟩ := hrel
      by_cases hlt : k < N
      · obtain ⟨b, ⟨x, rfl, hcx⟩, ⟨y, rfl, hcy⟩, q, wkb, hrb⟩ := HGET.out k hlt
        have hcel : Cel w10 b := ⟨_, _, hrb⟩
        have hneq := fun m => neq36 (w := w10.drewN m) (b := b) hcel
        have hra := fun m => resAt_any (w := w10.drewN m) (b := b) (q := q) (qa := (k : Nat)) (wk := wkb) hrb
        unfold ptr at hcx hcy hra
        have HRA : Hid (∀ m, Calls Try.prog 21 #[.pointer (some ⟨b, 0, none⟩)] (w10.drewN m) fun e w' => e = .returned (.int .i64 (k : Nat)) ∧ w' = w10.drewN m) := hra
        have hli : (k : Int) < (N : Int) := by omega
        clear hra hcel hrb
        go_upto_region 87 with fail
        go_quiet (fail)
        go_wp2_with (go_at_call 21; refine Calls.mono (HRA.out _) ?_; rintro e wz ⟨rfl, hz⟩; rw [hz]; clear hz)
        go_roundw
        case rel => exact ⟨k + 1, _, by omega, by go_num, rfl⟩
        case measure => simp [intOf]; omega
      · obtain rfl : k = N := by omega
        go_wp2_with fail
        go_meet
        case rel => exact ⟨rfl, _, rfl⟩
  obtain ⟨rfl, m, rfl⟩ := hcut
  have hra := resAt_any (w := w10.drewN m) HRES.out
  unfold ptr at hra
  have HRA : Hid (Calls Try.prog 21 #[.pointer (some ⟨rb, 0, none⟩)] (w10.drewN m) fun e w' => e = .returned (.int .i64 (wat : Nat)) ∧ w' = w10.drewN m) := hra
  clear hra
  go_wp2_with (go_at_call 21; refine Calls.mono HRA.out ?_; rintro e wz ⟨rfl, hz⟩; rw [hz]; clear hz)
  go_ret
  exact ⟨rfl, ⟨HBEL.out.os, HBEL.out.tape, HBEL.out.output, HBEL.out.size, HBEL.out.block⟩⟩
end Go.Proofs.Qxb6612390a.fnSetQueueSetsIndexesAndQueuedList
