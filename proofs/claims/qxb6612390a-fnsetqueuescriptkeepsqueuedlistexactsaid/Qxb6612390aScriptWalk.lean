/-
  The script of setQueue calls: the law's walk where its first tests pass.
-/
import Derived.Test.Qxb6612390aExact
namespace Go.Proofs.Qxb6612390a.fnSetQueueScriptKeepsQueuedListExact
open Go.ChangeShapes Go.WideShapes Go.ChangeAt Go.RowKit
set_option linter.unusedVariables false

def RetBool (w : World) (e : Ending) (w' : World) : Prop := ∃ b : Bool, e = .returned (.bool b) ∧ w' = w
theorem RetBool.mk {w : World} (b : Bool) : RetBool w (.returned (.bool b)) w := ⟨b, rfl, rfl⟩
set_option maxHeartbeats 400000 in
theorem bytes_any (x : Int) (a1 : Option Addr) (l1 c1 : Nat) (w : World) (hl1 : l1 ≤ maxLen) :
    Calls Try.prog 22 #[.int .i64 x, .slice a1 l1 c1] w (RetBool w) := by
  unfold maxLen at hl1
  go_enter Try.func22, Try.ntmps22
  go_wp2
  all_goals
    go_ret
    exact RetBool.mk _

/-- The steps that came in. -/
def StepsI (w : World) (a : Option Addr) (len : Nat) (S : Nat → Int × Int) : Prop :=
  ∀ i, i < len → ∃ b off, a = some ⟨b, off, none⟩ ∧ w.cell? ⟨b, off + i * 2, none⟩ = some (.int .i64 (S i).1) ∧ w.cell? ⟨b, off + i * 2 + 1, none⟩ = some (.int .i64 (S i).2) ∧
    (-9223372036854775808 ≤ (S i).1 ∧ (S i).1 ≤ 9223372036854775807) ∧ (-9223372036854775808 ≤ (S i).2 ∧ (S i).2 ≤ 9223372036854775807)
def Valid (nres : Nat) (S : Nat → Int × Int) (k : Nat) : Prop := ∀ j, j < k → 0 ≤ (S j).1 ∧ (S j).1 < nres ∧ 0 ≤ (S j).2 ∧ (S j).2 ≤ 65536
theorem cell_lt' {w : World} {b i : Nat} {v : Value} (h : w.cell? ⟨b, i, none⟩ = some v) : b < w.heap.size := by
  apply Decidable.byContradiction
  intro hn
  have : w.heap[b]? = none := by simp; omega
  simp [World.cell?, this] at h
theorem info3 : (Try.prog.info? 3).map (fun i => (i.zero, i.size, i.bytes)) = some (some (.int .i64 0), 1, 8) := by kernel_rfl
theorem mk30 (n : Nat) (hn : n ≤ 100000) (W : World) : (Instr.makeSlice 30 (.int .i64 (n : Int)) (.int .i64 (n : Int))).run Try.prog W = .ok (.slice (some ⟨W.heap.size, 0, none⟩) n n) (W.alloc (.cells (madeCells #[.int .i64 0] n) 3)) := by
  obtain ⟨i0, hi, hz0, hz1, hz2⟩ := info_parts info3
  have := run_make (P := Try.prog) (w := W) 30 3 i0 _ Try.underlying30 hi hz0 .i64 .i64 (n : Int) (n : Int) (by omega) (by omega) (by rw [hz2]; omega) (by omega)
  rw [this, hz1]
  simp [Value.cells]

theorem Sc.drewN {tb rsb nres : Nat} {Ln Qa : Nat → Nat} {L : List Nat} {w : World} (h : Sc tb rsb nres Ln Qa L w) (m : Nat) : Sc tb rsb nres Ln Qa L (w.drewN m) := ⟨h.tab, h.rs, h.res, h.small, h.cn, h.fwd, h.bwd⟩
theorem below_drewN {B : Nat} {w w' : World} (h : Below B w w') (m : Nat) : Below B w (w'.drewN m) := ⟨h.os, h.tape, h.output, h.size, h.block⟩

/-- All that lies there behind the call and the store of the length. -/
structure Lay (w : World) (tb rsb lb nres : Nat) (Ln' Qa' : Nat → Nat) (L' : List Nat) (sb r l qb : Nat) (w7 : World) : Prop where
  sc : Sc tb rsb nres Ln' Qa' L' w7
  lens : Lens w7 lb nres Ln'
  res : Res w7 (rsb + 1 + r) (.slice (some ⟨qb, 0, none⟩) l l) (Qa' r : Nat) 0
  reqs : Reqs w7 l (fun j => qb + 1 + j) (fun j : Nat => (j : Int))
  arr : Arr w7 34 qb l (fun j => qb + 1 + j)
  s : w7.heap[sb]? = some (.cells #[.int .i64 r, .int .i64 l] 50 (0, 0))
  bel : Below w.heap.size w w7

theorem lay_of {w w5 w6 : World} {tb rsb lb nres : Nat} {Ln : Nat → Nat} {sb r l qb : Nat} {e : Ending} (h : ScP tb rsb nres Ln r qb l w.heap.size w5 e w6) (hr : r < nres) (hl : Lens w5 lb nres Ln) (ha : Arr w5 34 qb l (fun j => qb + 1 + j)) (hs : w5.heap[sb]? = some (.cells #[.int .i64 r, .int .i64 l] 50 (0, 0))) (hb : Below w.heap.size w w5) (hlb : w.heap.size ≤ lb) :
    ∃ Qa' L', Lay w tb rsb lb nres (upd Ln r l) Qa' L' sb r l qb (w6.setCell ⟨lb, r, none⟩ (.int .i64 (l : Nat))) := by
  obtain ⟨_, ⟨Qa', L', k1, k2⟩, k3, k4, k5⟩ := h
  have hl6 := hl.tags k4
  have hs6 := k4 _ _ _ hs (by decide) (by decide) (by decide) (by decide)
  obtain ⟨c, hc, hcj⟩ := ha
  have ha6 := k4 _ _ _ hc (by decide) (by decide) (by decide) (by decide)
  have hf := fr1 w6 lb r (.int .i64 (l : Nat))
  obtain ⟨d, hd, hd2⟩ := hl6
  have hne : ∀ {b : Nat} {c : Array Value} {t : TypeId}, w6.heap[b]? = some (.cells c t (0, 0)) → t ≠ 3 → ¬ (b = lb) := fun hb ht e => ne_tag hb hd ht e
  refine ⟨Qa', L', ⟨?_, Lens.set ⟨d, hd, hd2⟩ hr l, k2.fr hf (hne k2 (by decide)), k3.fr hf (fun j hj => hne (k3 j hj) (by decide)), ⟨c, (hf.block _ (heap_lt ha6) (hne ha6 (by decide))).trans ha6, hcj⟩, (hf.block _ (heap_lt hs6) (hne hs6 (by decide))).trans hs6, hb.trans (k5.trans (hf.below (by have := k5.size; have := hb.size; omega) (fun b hb e => by omega)))⟩⟩
  obtain ⟨⟨ua, uc, h1, h2⟩, h3, h4, h5, h6, h7, h8⟩ := k1
  refine ⟨⟨ua, uc, h1.fr hf ?_, own_fr h2 hf ?_⟩, h3.fr hf ?_, fun j hj => ?_, h5, h6, h7, h8⟩
  · obtain ⟨x, hx, _⟩ := h1
    exact hne hx (by decide)
  · intro g hg
    obtain ⟨x, hx⟩ := own_tag h2 hg
    exact hne hx (by decide)
  · obtain ⟨x, hx, _⟩ := h3
    exact hne hx (by decide)
  · obtain ⟨a, c, hr⟩ := h4 j hj
    exact ⟨a, c, hr.fr hf (hne hr (by decide))⟩

def Done (w : World) (e : Ending) (w' : World) : Prop := e = .returned (.bool true) ∧ Below w.heap.size w w'

set_option maxRecDepth 100000 in
set_option maxHeartbeats 4000000 in
theorem walk_in (nres : Nat) (a : Option Addr) (len cap : Nat) (S : Nat → Int × Int) (w : World) (hS : StepsI w a len S) (hlen : len ≤ 4096) (hn1 : 1 ≤ nres) (hn : nres ≤ 4096) (hlm : len ≤ maxLen) :
    Calls Try.prog 5 #[.int .i64 nres, .slice a len cap] w (Done w) := by
  go_enter Try.func5, Try.ntmps5
  go_wp2_with fail
  refine (bytes_any _ a len cap _ hlm).mono ?_
  rintro e w' ⟨b, rfl, hw⟩
  rw [hw]
  clear hw
  cases b
  · go_wp2_with fail
    go_ret
    exact ⟨rfl, Below.refl _ _⟩
  clear hlm
  go_upto_block 0 with fail
  go_cut [1] from 30 to 73 (fun q wx => q = .slice a len cap ∧ w = wx ∧ Valid nres S len)
  case first =>
    go_wp2_with fail
    go_loopw [5, 6] (fun t i wr => ∃ k tn : Nat, k ≤ len ∧ tn ≤ 65536 ∧ t = .int .i64 tn ∧ i = .int .i64 k ∧ Valid nres S k ∧ w = wr) (fun _ i _ => len - (intOf i).toNat)
    case atStart => exact ⟨0, 0, by omega, by omega, rfl, rfl, fun j hj => by omega, rfl⟩
    case round =>
      obtain ⟨k, tn, hk, htn, rfl, rfl, hv, rfl⟩ := hrel
      have HV : Hid (Valid nres S k) := hv
      clear hv
      by_cases hlt : k < len
      · obtain ⟨b, off, rfl, hc0, hc1, ⟨x0, x1⟩, y0, y1⟩ := hS k hlt
        have HS : Hid (∀ x y, (S k).1 = x → (S k).2 = y → 0 ≤ x → x < nres → 0 ≤ y → y ≤ 65536 → Valid nres S (k + 1)) := fun x y e1 e2 h1 h2 h3 h4 j hj => by
          by_cases e : j = k
          · subst e
            rw [e1, e2]
            exact ⟨h1, h2, h3, h4⟩
          · exact HV.out j (by omega)
        generalize hx : (S k).1 = x at *
        generalize hy : (S k).2 = y at *
        have HX : Hid ((S k).1 = x) := hx
        have HY : Hid ((S k).2 = y) := hy
        clear hx hy hS
        by_cases v1 : 0 ≤ x
        case neg =>
          go_wp2_with fail
          go_ret
          exact ⟨rfl, Below.refl _ _⟩
        by_cases v2 : x < nres
        case neg =>
          go_wp2_with fail
          go_ret
          exact ⟨rfl, Below.refl _ _⟩
        by_cases v3 : 0 ≤ y
        case neg =>
          go_wp2_with fail
          go_ret
          exact ⟨rfl, Below.refl _ _⟩
        by_cases v4 : y ≤ 65536
        case neg =>
          go_wp2_with fail
          go_ret
          exact ⟨rfl, Below.refl _ _⟩
        obtain ⟨yn, rfl⟩ := Int.eq_ofNat_of_zero_le v3
        by_cases v5 : (tn : Int) + (yn : Int) ≤ 65536
        case neg =>
          go_wp2_with fail
          go_ret
          exact ⟨rfl, Below.refl _ _⟩
        go_wp2_with fail
        go_roundw
        case rel => exact ⟨k + 1, tn + yn, by omega, by omega, by go_num, by go_num, HS.out _ _ rfl rfl v1 v2 v3 v4, by trivial⟩
        case measure => simp [intOf]; omega
      · obtain rfl : k = len := by omega
        clear hS
        go_wp2_with fail
        go_meet
        case rel => exact ⟨rfl, rfl, HV.out⟩
  obtain ⟨rfl, rfl, hval⟩ := hcut
  have HVAL : Hid (Valid nres S len) := hval
  clear hval
  have hm2 := mk38 nres nres (Nat.le_refl _) (by omega)
  go_upto_region 19 with (go_at_call 15; refine (newTable_any _ _ _ _).mono ?_; rintro e w1 ⟨rfl, htab, hb1, hs1⟩; unfold ptr)
  obtain ⟨tb, htb⟩ : ∃ x, x = w.heap.size := ⟨_, rfl⟩
  rw [← htb] at htab ⊢
  have HTB : Hid (tb = w.heap.size) := htb
  clear htb hs1
  go_upto_block 2 with fail
  go_cut [8] from 77 to 85 (fun q wx => q = .slice (some ⟨w1.heap.size, 0, none⟩) nres nres ∧ MadeR w1.heap.size nres nres w1 wx)
  case first =>
    clear hm2 hS
    go_wp2_with fail
    go_loopw [9] (fun i wr => ∃ k : Nat, k ≤ nres ∧ i = .int .i64 k ∧ MadeR w1.heap.size nres k w1 wr) (fun i _ => nres - (intOf i).toNat)
    case atStart => exact ⟨0, by omega, rfl, MadeR.start nres w1⟩
    case round =>
      obtain ⟨k, hk, rfl, hmd⟩ := hrel
      by_cases hlt : k < nres
      · have hst := hmd.step hlt
        obtain ⟨c, hcc, hcs, _⟩ := hmd.arr
        have hqr := heap_lt hcc
        have hcw : wr.cell? ⟨w1.heap.size, k, none⟩ = some (c[k]'(by omega)) := by rw [cell_of hcc]; simp [hcs, hlt]
        have hfw : wr.frozen? ⟨w1.heap.size, k, none⟩ = false := by simp [World.frozen?, hcc]
        generalize c[k]'(by omega) = v0 at hcw
        unfold ptr at hst
        clear hmd hcc hcs
        go_wp2_with (go_at_call 14; refine (newResource_any _ _ _ _ _ _).mono ?_; rintro e w' ⟨rfl, rfl⟩; unfold ptr)
        go_roundw
        case rel => exact ⟨k + 1, by omega, by go_num, hst⟩
        case measure => simp [intOf]; omega
      · obtain rfl : k = nres := by omega
        go_wp2_with fail
        go_meet
        case rel => exact ⟨rfl, hmd⟩
  obtain ⟨rfl, hmr⟩ := hcut
  clear hm2
  have hm3 := mk30 nres (by omega)
  go_upto_block 4 with fail
  have hsc0 : Sc tb w1.heap.size nres (fun _ => 0) (fun _ => 0) [] (wc.alloc (.cells (madeCells #[.int .i64 0] nres) 3)) := Sc.start hmr htab rfl ((Below.refl _ _).alloc (Nat.le_refl _) _)
  have hln0 := Lens.zero wc nres
  have hbel0 : Below w.heap.size w (wc.alloc (.cells (madeCells #[.int .i64 0] nres) 3)) := by
    have := hb1.size
    have := hmr.size
    exact hb1.trans ((hmr.bel.mono (by omega)).trans ((Below.refl _ _).alloc (by omega) _))
  have hw1 : w.heap.size ≤ w1.heap.size := hb1.size
  obtain ⟨rsb, hrsb⟩ : ∃ x, x = w1.heap.size := ⟨_, rfl⟩
  obtain ⟨lb, hlb⟩ : ∃ x, x = wc.heap.size := ⟨_, rfl⟩
  rw [← hrsb] at hsc0 hw1 ⊢
  rw [← hlb] at hln0 ⊢
  generalize wc.alloc (.cells (madeCells #[.int .i64 0] nres) 3) = w3 at hsc0 hln0 hbel0 ⊢
  have hlbw : w.heap.size ≤ lb := by
    have := hmr.size
    omega
  clear hrsb hlb hmr htab hb1 hm3
  have htbw : w.heap.size ≤ tb := by rw [HTB.out]; omega
  clear HTB
  go_wp2_with fail
  go_loopw [11] (fun i wr => ∃ (k : Nat) (Ln Qa : Nat → Nat) (L : List Nat), k ≤ len ∧ i = .int .i64 k ∧ Sc tb rsb nres Ln Qa L wr ∧ Lens wr lb nres Ln ∧ Below w.heap.size w wr) (fun i _ => len - (intOf i).toNat)
  case atStart => exact ⟨0, _, _, _, by omega, rfl, hsc0, hln0, hbel0⟩
  case round =>
    clear hsc0 hln0 hbel0
    obtain ⟨k, Ln, Qa, L, hk, rfl, hsc, hln, hbel⟩ := hrel
    by_cases hlt : k < len
    · obtain ⟨b, off, rfl, hc0, hc1, _, _⟩ := hS k hlt
      obtain ⟨v1, v2, v3, v4⟩ := HVAL.out k hlt
      obtain ⟨r, hr⟩ := Int.eq_ofNat_of_zero_le v1
      obtain ⟨l, hl⟩ := Int.eq_ofNat_of_zero_le v3
      rw [hr] at hc0 v2
      rw [hl] at hc1 v4
      have hbn := cell_lt' hc0
      have hd0 : wr.cell? ⟨b, off + k * 2, none⟩ = some (.int .i64 r) := (hbel.cell (p := ⟨b, off + k * 2, none⟩) hbn).trans hc0
      have hd1 : wr.cell? ⟨b, off + k * 2 + 1, none⟩ = some (.int .i64 l) := (hbel.cell (p := ⟨b, off + k * 2 + 1, none⟩) hbn).trans hc1
      clear hc0 hc1 v1 v3 hr hl hS
      have hm4 := mk33 l (by omega)
      go_upto_block 6 with fail
      obtain ⟨sb, hsb⟩ : ∃ x, x = wr.heap.size := ⟨_, rfl⟩
      obtain ⟨qb, hqb⟩ : ∃ x, x = sb + 1 := ⟨_, rfl⟩
      have hw4s := heap_new wr (.cells #[.int .i64 r, .int .i64 l] 50)
      have hb4 : Below wr.heap.size wr (wr.alloc (.cells #[.int .i64 r, .int .i64 l] 50)) := (Below.refl _ _).alloc (Nat.le_refl _) _
      have hz4 : (wr.alloc (.cells #[.int .i64 r, .int .i64 l] 50)).heap.size = qb := by rw [size_alloc, hqb, hsb]
      rw [← hsb] at hw4s ⊢
      rw [← hqb]
      generalize wr.alloc (.cells #[.int .i64 r, .int .i64 l] 50) = w4 at hw4s hb4 hz4 ⊢
      have hsq : sb < qb := by omega
      have hwq : wr.heap.size ≤ qb := by omega
      have hst0 := MadeQ.start l (fun _ => -1) w4
      rw [hz4] at hst0
      have HZ4 : Hid (w4.heap.size = qb) := hz4
      clear hqb hsb hz4
      go_cut [13] from 101 to 110 (fun q wx => q = .slice (some ⟨qb, 0, none⟩) l l ∧ MadeQ qb l (fun _ => -1) l w4 wx)
      case first =>
        clear hsc hln hbel
        go_wp2_with fail
        go_loopw [14] (fun i wx => ∃ j : Nat, j ≤ l ∧ i = .int .i64 j ∧ MadeQ qb l (fun _ => -1) j w4 wx) (fun i _ => l - (intOf i).toNat)
        case atStart => exact ⟨0, by omega, rfl, hst0⟩
        case round =>
          obtain ⟨j, hj, rfl, hmd⟩ := hrel
          have hs1 : wr.cell? ⟨sb, 1, none⟩ = some (.int .i64 l) := by
            rw [cell_of ((hmd.bel.block sb hsq).trans hw4s)]; rfl
          clear hw4s hb4 hst0 hd0 hd1
          by_cases hjl : j < l
          · have hst := hmd.step hjl
            obtain ⟨c, hcc, hcs, _⟩ := hmd.arr
            have hqr := heap_lt hcc
            have hcw : wr.cell? ⟨qb, j, none⟩ = some (c[j]'(by omega)) := by rw [cell_of hcc]; simp [hcs, hjl]
            have hfw : wr.frozen? ⟨qb, j, none⟩ = false := by simp [World.frozen?, hcc]
            generalize c[j]'(by omega) = v0 at hcw
            unfold ptr at hst
            clear hmd hcc hcs
            go_wp2_with (go_at_call 13; refine (newRequest_any _ _).mono ?_; rintro e w' ⟨rfl, rfl⟩; unfold ptr)
            go_roundw
            case rel => exact ⟨j + 1, by omega, by go_num, hst⟩
            case measure => simp [intOf]; omega
          · obtain rfl : j = l := by omega
            go_wp2_with fail
            go_meet
            case rel => exact ⟨rfl, hmd⟩
      obtain ⟨rfl, hmq⟩ := hcut
      obtain ⟨w5, hw5⟩ : ∃ x, x = wc := ⟨_, rfl⟩
      rw [← hw5] at hmq ⊢
      have hrn : r < nres := by omega
      have h45 : Below wr.heap.size wr w5 := hb4.trans (hmq.bel.mono hwq)
      have hsc5 := hsc.fr h45
      have hln5 := hln.below h45
      have hbel5 : Below w.heap.size w w5 := hbel.trans (h45.mono hbel.size)
      obtain ⟨harr, hreq⟩ := hmq.below (Below.refl _ w5)
      have hs5 : w5.heap[sb]? = some (.cells #[.int .i64 r, .int .i64 l] 50 (0, 0)) := (hmq.bel.block sb hsq).trans hw4s
      have hcall := call_step hsc5 hrn hn (by omega : l ≤ 65536) _ harr hreq hbel5.size (Nat.le_trans hbel.size hwq) hw1 htbw
      have hlay := fun e w6 (h : ScP tb rsb nres Ln r qb l w.heap.size w5 e w6) => lay_of h hrn hln5 harr hs5 hbel5 hlbw
      have hlt6 := fun e w6 (h : ScP tb rsb nres Ln r qb l w.heap.size w5 e w6) => And.intro (h.2.2.2.1 _ _ _ hs5 (by decide) (by decide) (by decide) (by decide)) (hln5.tags h.2.2.2.1)
      have c0 : w5.cell? ⟨sb, 0, none⟩ = some (.int .i64 r) := by rw [cell_of hs5]; rfl
      have c1 : w5.cell? ⟨rsb, r, none⟩ = some (ptr (rsb + 1 + r)) := hsc5.rs.cell hrn
      obtain ⟨g, hg⟩ : ∃ x, x = rsb + 1 + r := ⟨_, rfl⟩
      rw [← hg] at c1 hcall
      unfold ptr at hcall c1
      have HCALL : Hid (Calls Try.prog 16 #[.pointer (some ⟨tb, 0, none⟩), .pointer (some ⟨g, 0, none⟩), .slice (some ⟨qb, 0, none⟩) l l, .int .i64 0] w5 (ScP tb rsb nres Ln r qb l w.heap.size w5)) := hcall
      have HLAY : Hid _ := hlay
      have HLT6 : Hid _ := hlt6
      have HG : Hid (g = rsb + 1 + r) := hg
      clear hw5 hmq h45 hsc5 hln5 hbel5 harr hreq hs5 hcall hlay hlt6 hsc hln hbel hst0 hw4s hb4 hd0 hd1 hm4 hg
      have hri : (r : Int) < (nres : Int) := by omega
      go_upto_region 35 with (go_at_call 16; refine Calls.mono HCALL.out ?_; rintro e w6 hscp; have he := hscp.1; subst he)
      obtain ⟨Qa', L', hlay⟩ := HLAY.out _ _ hscp
      obtain ⟨hs6, hl6⟩ := HLT6.out _ _ hscp
      have d0 : w6.cell? ⟨sb, 0, none⟩ = some (.int .i64 r) := by rw [cell_of hs6]; rfl
      have d1 : w6.cell? ⟨sb, 1, none⟩ = some (.int .i64 l) := by rw [cell_of hs6]; rfl
      have dl := hl6.cell hrn
      have fl := hl6.free r
      clear hscp hs6 hl6 HLAY HLT6 HCALL c0 c1 HZ4 hsq hwq
      generalize Ln r = lnr at dl
      go_upto_region 36 with fail
      generalize w6.setCell ⟨lb, r, none⟩ (.int .i64 (l : Nat)) = w7 at hlay ⊢
      have e0 : w7.cell? ⟨sb, 0, none⟩ = some (.int .i64 r) := by rw [cell_of hlay.s]; rfl
      have e1 : w7.cell? ⟨sb, 1, none⟩ = some (.int .i64 l) := by rw [cell_of hlay.s]; rfl
      have e2 : w7.cell? ⟨rsb, r, none⟩ = some (ptr (rsb + 1 + r)) := hlay.sc.rs.cell hrn
      have h17 := resQueue_any hlay.res
      rw [← HG.out] at e2 h17
      unfold ptr at e2 h17
      have H17 : Hid (Calls Try.prog 17 #[.pointer (some ⟨g, 0, none⟩)] w7 fun e w' => e = .returned (.slice (some ⟨qb, 0, none⟩) l l) ∧ w' = w7) := h17
      clear h17 d0 d1 dl fl
      go_upto_block 8 with (go_at_call 17; refine Calls.mono H17.out ?_; rintro e wz ⟨rfl, hz⟩; rw [hz]; clear hz)
      go_cut [15] from 119 to 159 (fun q wx => q = .slice (some ⟨qb, 0, none⟩) l l ∧ ∃ m, wx = w7.drewN m)
      case first =>
        clear e0 e1 e2
        go_wp2_with fail
        go_loopw [16] (fun i wx => ∃ j m : Nat, j ≤ l ∧ i = .int .i64 j ∧ wx = w7.drewN m) (fun i _ => l - (intOf i).toNat)
        case atStart => exact ⟨0, 0, by omega, rfl, rfl⟩
        case round =>
          obtain ⟨j, m, hj, rfl, rfl⟩ := hrel
          by_cases hjl : j < l
          · have hcq : w7.cell? ⟨qb, j, none⟩ = some (ptr (qb + 1 + j)) := hlay.arr.cell hjl
            have hrq : Req w7 (qb + 1 + j) (j : Nat) := hlay.reqs j hjl
            have hcel : Cel w7 (qb + 1 + j) := ⟨_, _, hrq⟩
            have hcq' : (w7.drewN m).cell? ⟨qb, j, none⟩ = some (ptr (qb + 1 + j)) := hcq
            have hneq := fun n => neq34 (w := (w7.drewN m).drewN n) (b := qb + 1 + j) hcel
            have h18 := fun n => reqAt_any (w := (w7.drewN m).drewN n) (b := qb + 1 + j) (at_ := (j : Nat)) hrq
            obtain ⟨wy, hwy⟩ : ∃ x, x = w7.drewN m := ⟨_, rfl⟩
            simp only [← hwy] at hcq' hneq h18
            rw [← hwy]
            have HWY : Hid (wy = w7.drewN m) := hwy
            clear hcq hwy
            obtain ⟨x, hx⟩ : ∃ x, x = qb + 1 + j := ⟨_, rfl⟩
            unfold ptr at hcq' h18
            simp only [← hx] at hcq' hneq h18
            have H18 : Hid (∀ m, Calls Try.prog 18 #[.pointer (some ⟨x, 0, none⟩)] (wy.drewN m) fun e w' => e = .returned (.int .i64 (j : Nat)) ∧ w' = wy.drewN m) := h18
            have hji : (j : Int) < (l : Int) := by omega
            clear h18 hrq hcel hx hlay
            go_upto_region 42 with fail
            go_quiet (first | (go_at_call 18; exact Calls.quiet_of_same (H18.out _)))
            go_wp2_with fail
            go_roundw
            case rel => exact ⟨j + 1, _, by omega, by go_num, by rw [HWY.out, World.drewN_drewN]⟩
            case measure => simp [intOf]; omega
          · obtain rfl : j = l := by omega
            go_wp2_with fail
            go_meet
            case rel => exact ⟨rfl, _, rfl⟩
      obtain ⟨rfl, m, rfl⟩ := hcut
      obtain ⟨ta, tc, htab, hown⟩ := hlay.sc.tab
      have h20 := tabQueued_any (w := w7.drewN m) htab
      have h23 := exact_any (hlay.sc.drewN m) (lb := lb) hlay.lens hn hown
      unfold ptr at h20
      generalize hN : L'.length = N at h20 h23
      have H20 : Hid (Calls Try.prog 20 #[.pointer (some ⟨tb, 0, none⟩)] (w7.drewN m) fun e w' => e = .returned (.slice ta N tc) ∧ w' = w7.drewN m) := h20
      have H23 : Hid (Calls Try.prog 23 #[.slice ta N tc, .slice (some ⟨rsb, 0, none⟩) nres nres, .slice (some ⟨lb, 0, none⟩) nres nres] (w7.drewN m) (RetDrew (.bool true) (w7.drewN m))) := h23
      clear h20 h23 htab hown hN e0 e1 e2
      go_wp2_with (first | (go_at_call 20; refine Calls.mono H20.out ?_; rintro e wz ⟨rfl, hz⟩; rw [hz]; clear hz) | (go_at_call 23; refine Calls.mono H23.out ?_; rintro e wz ⟨rfl, m2, hz⟩; rw [hz]; clear hz))
      go_roundw
      case rel => exact ⟨k + 1, _, _, _, by omega, by go_num, hlay.sc.drewN _, hlay.lens, below_drewN hlay.bel _⟩
      case measure => simp [intOf]; omega
    · obtain rfl : k = len := by omega
      clear hS
      go_wp2_with fail
      go_ret
      exact ⟨rfl, hbel⟩
end Go.Proofs.Qxb6612390a.fnSetQueueScriptKeepsQueuedListExact
