/-
  Rows of outcomes and of numbers that the law itself reads and makes: sumOf, lastWindow, readOuts, rotationIs.
-/
import Derived.Test.Qxb6612353aFig
import Derived.BigRegion
import Derived.Laws.StructEq
namespace Go.Proofs.Qxb6612353a
open Go.ChangeShapes Go.WideShapes Go.ChangeAt Go.RowKit
set_option linter.unusedVariables false
set_option linter.unusedSimpArgs false

/-- The cells of a row of outcomes. -/
def Outs (w : World) (a : Option Addr) (os : List Oc) : Prop := ∀ i o, os[i]? = some o → ∃ b off, a = some ⟨b, off, none⟩ ∧ w.cell? ⟨b, off + i * 3, none⟩ = some (.int .i64 o.st) ∧ w.cell? ⟨b, off + i * 3 + 1, none⟩ = some (.bool o.tm) ∧ w.cell? ⟨b, off + i * 3 + 2, none⟩ = some (.int .i64 o.lt)
theorem Outs.new {w w' : World} {a : Option Addr} {os : List Oc} (h : Outs w a os) (hn : New w w') : Outs w' a os := fun i o ho => by
  obtain ⟨b, off, h1, h2, h3, h4⟩ := h i o ho
  exact ⟨b, off, h1, hn.cell h2 (fun h => h), hn.cell h3 (fun h => h), hn.cell h4 (fun h => h)⟩
theorem NumsL.new {w w' : World} {a : Option Addr} {xs : List Int} (h : NumsL w a xs) (hn : New w w') : NumsL w' a xs := fun i x hx => by
  obtain ⟨b, off, h1, h2⟩ := h i x hx
  exact ⟨b, off, h1, hn.cell h2 (fun h => h)⟩

theorem take_succ_get {α : Type} {xs : List α} {k : Nat} {x : α} (h : xs[k]? = some x) : xs.take (k + 1) = xs.take k ++ [x] := by
  rw [List.take_add_one, h]
  rfl

def Is (v : Value) (w : World) (e : Ending) (w' : World) : Prop := e = .returned v ∧ w' = w

set_option maxRecDepth 100000 in
set_option maxHeartbeats 1000000 in
theorem sumOf_any (a : Option Addr) (c : Nat) (xs : List Int) (w : World) (hx : NumsL w a xs) (hn : xs.length ≤ 65536) :
    Calls Try.prog 31 #[.slice a xs.length c] w (Is (.int .i64 (wrap64 (sumZ xs))) w) := by
  obtain ⟨n, hnn⟩ : ∃ x, x = xs.length := ⟨_, rfl⟩
  rw [← hnn] at hn ⊢
  have HN : Hid (n = xs.length) := hnn
  have HX : Hid (∀ k, k < n → ∃ x, xs[k]? = some x ∧ ∃ b off, a = some ⟨b, off, none⟩ ∧ w.cell? ⟨b, off + k, none⟩ = some (.int .i64 x)) := fun k hk =>
    ⟨_, List.getElem?_eq_getElem (by omega), hx k _ (List.getElem?_eq_getElem (by omega))⟩
  clear hnn hx
  go_enter Try.func31, Try.ntmps31
  go_wp2_with fail
  go_loopw [3, 4] (fun s i wr => ∃ k : Nat, i = .int .i64 k ∧ s = .int .i64 (wrap64 (sumZ (xs.take k))) ∧ k ≤ n ∧ w = wr) (fun s i _ => n - (intOf i).toNat)
  case atStart => exact ⟨0, rfl, by simp [sumZ, wrap64], by omega, rfl⟩
  case round =>
    obtain ⟨k, rfl, rfl, hk, rfl⟩ := hrel
    by_cases hlt : k < n
    · obtain ⟨x, hxk, b, off, rfl, hc⟩ := HX.out k hlt
      have HXK : Hid (xs[k]? = some x) := hxk
      clear hxk
      obtain ⟨s, hs⟩ : ∃ s, s = wrap64 (sumZ (xs.take k)) := ⟨_, rfl⟩
      rw [← hs]
      have HS : Hid (s = wrap64 (sumZ (xs.take k))) := hs
      clear hs
      go_wp2_with fail
      go_roundw
      case rel =>
        refine ⟨k + 1, by go_num, ?_, by omega, by trivial⟩
        rw [take_succ_get HXK.out, sumZ_append, HS.out]
        simp [sumZ]
        unfold wrap64
        omega
      case measure => simp [intOf]; omega
    · obtain rfl : k = n := by omega
      have hl := HN.out
      rw [hl, List.take_length]
      rw [← hl]
      go_wp2_with fail
      go_ret
      exact ⟨rfl, rfl⟩

def LastP (hist : List Oc) (w : World) (e : Ending) (w' : World) : Prop := ∃ la lc, e = .returned (.slice la (hist.drop (hist.length - 1000)).length lc) ∧ Outs w la (hist.drop (hist.length - 1000)) ∧ w' = w

theorem size25 (w : World) : (Go.sizeOf 25).run Try.prog w = .ok 3 w := by kernel_rfl
set_option maxRecDepth 100000 in
set_option maxHeartbeats 1000000 in
theorem lastWindow_any (a : Option Addr) (c : Nat) (hist : List Oc) (w : World) (hx : Outs w a hist) (hn : hist.length ≤ 4096) (hc : hist.length ≤ c) :
    Calls Try.prog 24 #[.slice a hist.length c] w (LastP hist w) := by
  by_cases hl : 1000 < hist.length
  case neg =>
    have e : hist.drop (hist.length - 1000) = hist := by
      rw [Nat.sub_eq_zero_of_le (by omega)]
      rfl
    unfold LastP
    rw [e]
    generalize hist.length = n at *
    go_enter Try.func24, Try.ntmps24
    go_wp2_with fail
    go_ret
    exact ⟨a, c, rfl, hx, rfl⟩
  case pos =>
    obtain ⟨b, off, rfl, hz⟩ := hx 0 _ (List.getElem?_eq_getElem (by omega))
    clear hz
    have h25 := size25
    have H : Hid (∀ k, hist.length = k + 1000 → LastP hist w (.returned (.slice (some ⟨b, off + k * 3, none⟩) 1000 (c - k))) w) := fun k hk => by
      have hd : hist.drop (hist.length - 1000) = hist.drop k := by rw [hk]; simp
      unfold LastP
      rw [hd]
      refine ⟨some ⟨b, off + k * 3, none⟩, c - k, by rw [List.length_drop, hk]; simp, fun i o ho => ?_, rfl⟩
      rw [List.getElem?_drop] at ho
      obtain ⟨b', off', h1, h2, h3, h4⟩ := hx _ o ho
      simp at h1
      obtain ⟨rfl, rfl⟩ := h1
      refine ⟨b, off + k * 3, rfl, ?_, ?_, ?_⟩
      · rw [← h2]; congr 2; omega
      · rw [← h3]; congr 2; omega
      · rw [← h4]; congr 2; omega
    obtain ⟨k, hk⟩ : ∃ k, hist.length = k + 1000 := ⟨hist.length - 1000, by omega⟩
    have h := H.out k hk
    have HF : Hid (LastP hist w (.returned (.slice (some ⟨b, off + k * 3, none⟩) 1000 (c - k))) w) := h
    clear h hx H
    generalize LastP hist w = Q at HF ⊢
    generalize hist.length = n at *
    subst hk
    have hk1 : 0 < k := by omega
    clear hl
    go_enter Try.func24, Try.ntmps24
    go_wp2_with fail
    exact HF.out

theorem info25 : (Try.prog.info? 25).map (fun i => (i.zero, i.size, i.bytes)) = some (some (.agg #[.int .i64 0, .bool false, .int .i64 0]), 3, 24) := by kernel_rfl
theorem mk22 (n : Nat) (hn : n ≤ 100000) (W : World) : ∃ c, c.size = n * 3 ∧ (Instr.makeSlice 22 (.int .i64 (n : Int)) (.int .i64 (n : Int))).run Try.prog W = .ok (.slice (some ⟨W.heap.size, 0, none⟩) n n) (W.alloc (.cells c 25)) := by
  obtain ⟨i0, hi, hz0, hz1, hz2⟩ := info_parts info25
  have := run_make (P := Try.prog) (w := W) 22 25 i0 _ Try.underlying22 hi hz0 .i64 .i64 (n : Int) (n : Int) (by omega) (by omega) (by rw [hz2]; omega) (by omega)
  rw [Int.toNat_natCast, hz1] at this
  exact ⟨_, size_madeCells _ _, this⟩

/-- A row in the making: the first k are written. -/
def Mk (w : World) (qb n : Nat) (os : List Oc) (k : Nat) : Prop := ∃ c : Array Value, w.heap[qb]? = some (.cells c 25 (0, 0)) ∧ c.size = n * 3 ∧ ∀ j o, j < k → os[j]? = some o → c[j * 3]? = some (.int .i64 o.st) ∧ c[j * 3 + 1]? = some (.bool o.tm) ∧ c[j * 3 + 2]? = some (.int .i64 o.lt)
theorem Mk.step {w : World} {qb n : Nat} {os : List Oc} {k : Nat} (h : Mk w qb n os k) (hk : k < n) {o : Oc} (ho : os[k]? = some o) :
    Mk (((w.setCell ⟨qb, k * 3, none⟩ (.int .i64 o.st)).setCell ⟨qb, k * 3 + 1, none⟩ (.bool o.tm)).setCell ⟨qb, k * 3 + 2, none⟩ (.int .i64 o.lt)) qb n os (k + 1) := by
  obtain ⟨c, h1, h2, h3⟩ := h
  refine ⟨_, heap_setCell (heap_setCell (heap_setCell h1 _ _) _ _) _ _, by simpa using h2, fun j p hj hp => ?_⟩
  simp only [Array.getElem?_setIfInBounds, Array.size_setIfInBounds]
  by_cases e : j = k
  · subst e
    rw [ho] at hp
    cases hp
    refine ⟨?_, ?_, ?_⟩
    · rw [if_neg (by omega), if_neg (by omega), if_pos rfl, if_pos (by omega)]
    · rw [if_neg (by omega), if_pos rfl, if_pos (by omega)]
    · rw [if_pos rfl, if_pos (by omega)]
  · obtain ⟨q1, q2, q3⟩ := h3 j p (by omega) hp
    refine ⟨?_, ?_, ?_⟩
    · rw [if_neg (by omega), if_neg (by omega), if_neg (by omega)]; exact q1
    · rw [if_neg (by omega), if_neg (by omega), if_neg (by omega)]; exact q2
    · rw [if_neg (by omega), if_neg (by omega), if_neg (by omega)]; exact q3
theorem Mk.drewN {w : World} {qb n : Nat} {os : List Oc} {k : Nat} (h : Mk w qb n os k) (m : Nat) : Mk (w.drewN m) qb n os k := h
theorem Mk.drew {w : World} {qb n : Nat} {os : List Oc} {k : Nat} (h : Mk w qb n os k) : Mk w.drew qb n os k := h
theorem Mk.outs {w : World} {qb n : Nat} {os : List Oc} (h : Mk w qb n os n) (hn : n = os.length) : Outs w (some ⟨qb, 0, none⟩) os := fun i o ho => by
  obtain ⟨c, h1, h2, h3⟩ := h
  have hl := (List.getElem?_eq_some_iff.1 ho).1
  obtain ⟨q1, q2, q3⟩ := h3 i o (by omega) ho
  refine ⟨qb, 0, rfl, ?_, ?_, ?_⟩
  · rw [cell_of h1, Nat.zero_add]; exact q1
  · rw [cell_of h1, Nat.zero_add]; exact q2
  · rw [cell_of h1, Nat.zero_add]; exact q3

def ReadP (os : List Oc) (w : World) (e : Ending) (w' : World) : Prop := ∃ qa qc, e = .returned (.slice qa os.length qc) ∧ Outs w' qa os ∧ New w w'

set_option maxRecDepth 100000 in
set_option maxHeartbeats 1000000 in
theorem readOuts_any (a : Option Addr) (c : Nat) (os : List Oc) (w : World) (hx : Outs w a os) (hn : os.length ≤ 1000) :
    Calls Try.prog 16 #[.slice a os.length c] w (ReadP os w) := by
  obtain ⟨n, hnn⟩ : ∃ x, x = os.length := ⟨_, rfl⟩
  rw [← hnn] at hn ⊢
  have HN : Hid (n = os.length) := hnn
  have HX : Hid (∀ w', New w w' → ∀ k, k < n → ∃ o, os[k]? = some o ∧ ∃ b off, a = some ⟨b, off, none⟩ ∧ b < w.heap.size ∧ w'.cell? ⟨b, off + k * 3, none⟩ = some (.int .i64 o.st) ∧ w'.cell? ⟨b, off + k * 3 + 1, none⟩ = some (.bool o.tm) ∧ w'.cell? ⟨b, off + k * 3 + 2, none⟩ = some (.int .i64 o.lt)) := fun w' hw k hk => by
    have hg : os[k]? = some os[k] := List.getElem?_eq_getElem (by omega)
    obtain ⟨b, off, h1, h2⟩ := hx.new hw k _ hg
    obtain ⟨b', off', h1', h2'⟩ := hx k _ hg
    rw [h1] at h1'
    cases h1'
    exact ⟨_, hg, b, off, h1, cell_lt' h2'.1, h2⟩
  obtain ⟨c0, hc0, hmk⟩ := mk22 n (by omega) w
  have hM : Mk (w.alloc (.cells c0 25)) w.heap.size n os 0 := ⟨c0, heap_new w _, hc0, fun j o hj => by omega⟩
  have hF : New w (w.alloc (.cells c0 25)) := (Fr.refl _ _).alloc _
  have HM : Hid (Mk (w.alloc (.cells c0 25)) w.heap.size n os 0) := hM
  have HF : Hid (New w (w.alloc (.cells c0 25))) := hF
  clear hnn hx hM hF hc0
  go_enter Try.func16, Try.ntmps16
  go_wp2_with fail
  obtain ⟨qb, hqb⟩ : ∃ x, x = w.heap.size := ⟨_, rfl⟩
  rw [← hqb] at HM HX ⊢
  have HQ : Hid (qb = w.heap.size) := hqb
  clear hqb
  generalize w.alloc (.cells c0 25) = w1 at HM HF ⊢
  go_loopw [4] (fun i wr => ∃ k : Nat, i = .int .i64 k ∧ k ≤ n ∧ Mk wr qb n os k ∧ New w wr) (fun i _ => n - (intOf i).toNat)
  case atStart => exact ⟨0, rfl, by omega, HM.out, HF.out⟩
  case round =>
    obtain ⟨k, rfl, hk, hm, hf⟩ := hrel
    by_cases hlt : k < n
    · obtain ⟨o, hok, b, off, rfl, hb, c1, c2, c3⟩ := HX.out wr hf k hlt
      have HO : Hid (os[k]? = some o) := hok
      have HK : Hid (Mk wr qb n os k) := hm
      have HG : Hid (New w wr) := hf
      have hbq : b ≠ qb := by omega
      obtain ⟨d, hd, hds, hd3⟩ := hm
      clear hd3
      have g0 : wr.cell? ⟨qb, k * 3, none⟩ = some d[k * 3] := by rw [cell_of hd]; exact Array.getElem?_eq_getElem (by omega)
      have g1 : wr.cell? ⟨qb, k * 3 + 1, none⟩ = some d[k * 3 + 1] := by rw [cell_of hd]; exact Array.getElem?_eq_getElem (by omega)
      have g2 : wr.cell? ⟨qb, k * 3 + 2, none⟩ = some d[k * 3 + 2] := by rw [cell_of hd]; exact Array.getElem?_eq_getElem (by omega)
      have z0 : wr.frozen? ⟨qb, k * 3, none⟩ = false := by simp [World.frozen?, hd]
      have z1 : wr.frozen? ⟨qb, k * 3 + 1, none⟩ = false := by simp [World.frozen?, hd]
      have z2 : wr.frozen? ⟨qb, k * 3 + 2, none⟩ = false := by simp [World.frozen?, hd]
      generalize d[k * 3] = d0 at g0
      generalize d[k * 3 + 1] = d1 at g1
      generalize d[k * 3 + 2] = d2 at g2
      obtain ⟨s, t, l⟩ := o
      simp only at c1 c2 c3
      clear hok hf hd hds d
      go_upto_block 1 with fail

      have hqb0 : w.heap.size ≤ qb := Nat.le_of_eq HQ.out.symm
      clear HN HX HM HF HQ hmk hb
      go_cut [4] from 8 to 32 (fun i wx => i = .int .i64 k ∧ wx = (((wr.setCell ⟨qb, k * 3, none⟩ (.int .i64 s)).setCell ⟨qb, k * 3 + 1, none⟩ (.bool t)).setCell ⟨qb, k * 3 + 2, none⟩ (.int .i64 l)).drew)
      case first =>
        clear HO HK HG
        go_upto_region 5 with fail
        go_region
        all_goals
          go_wp2_with fail
          go_meet
          case rel => exact ⟨rfl, rfl⟩
      obtain ⟨rfl, rfl⟩ := hcut
      have hM2 := (HK.out.step hlt HO.out).drew
      have hG2 : New w _ := (((HG.out.setCell ⟨qb, k * 3, none⟩ (.inr hqb0) (.int .i64 s)).setCell ⟨qb, k * 3 + 1, none⟩ (.inr hqb0) (.bool t)).setCell ⟨qb, k * 3 + 2, none⟩ (.inr hqb0) (.int .i64 l)).drew
      generalize (((wr.setCell ⟨qb, k * 3, none⟩ (.int .i64 s)).setCell ⟨qb, k * 3 + 1, none⟩ (.bool t)).setCell ⟨qb, k * 3 + 2, none⟩ (.int .i64 l)).drew = wy at hM2 hG2 ⊢
      clear HO HK HG c1 c2 c3 g0 g1 g2 z0 z1 z2
      have HM2 : Hid (Mk wy qb n os (k + 1)) := hM2
      have HG2 : Hid (New w wy) := hG2
      clear hM2 hG2
      go_wp2_with fail
      go_roundw
      case rel => exact ⟨k + 1, by go_num, by omega, HM2.out, HG2.out⟩
      case measure => simp [intOf]; omega
    · obtain rfl : k = n := by omega

      have hout := hm.outs HN.out
      have hl := HN.out
      have HP : Hid (ReadP os w (.returned (.slice (some ⟨qb, 0, none⟩) k k)) wr) := ⟨_, k, by rw [hl], hout, hf⟩
      clear hout hf hm hl
      go_wp2_with fail
      go_ret
      exact HP.out

set_option maxRecDepth 100000 in
set_option maxHeartbeats 1000000 in
theorem rotationIs_any (ga la : Option Addr) (gc lc nx : Nat) (os last : List Oc) (w : World) (hg : Outs w ga os) (hl : Outs w la last) (hn : last.length ≤ 1000) (hnx : nx ≤ 1000) (he : os.length = last.length)
    (hrot : ∀ j, j < last.length → os[(nx + j) % last.length]? = last[j]?) :
    Calls Try.prog 15 #[.slice ga os.length gc, .int .i64 nx, .slice la last.length lc] w (RetNew (.bool true) w) := by
  rw [he]
  have HX : Hid (∀ w', New w w' → ∀ k, k < last.length → ∃ o : Oc, (∃ b off, ga = some ⟨b, off, none⟩ ∧ w'.cell? ⟨b, off + (nx + k) % last.length * 3, none⟩ = some (.int .i64 o.st) ∧ w'.cell? ⟨b, off + (nx + k) % last.length * 3 + 1, none⟩ = some (.bool o.tm) ∧ w'.cell? ⟨b, off + (nx + k) % last.length * 3 + 2, none⟩ = some (.int .i64 o.lt)) ∧
      ∃ b off, la = some ⟨b, off, none⟩ ∧ w'.cell? ⟨b, off + k * 3, none⟩ = some (.int .i64 o.st) ∧ w'.cell? ⟨b, off + k * 3 + 1, none⟩ = some (.bool o.tm) ∧ w'.cell? ⟨b, off + k * 3 + 2, none⟩ = some (.int .i64 o.lt)) := fun w' hw k hk => by
    have hk' : last[k]? = some last[k] := List.getElem?_eq_getElem hk
    exact ⟨last[k], (hg.new hw) _ _ ((hrot k hk).trans hk'), (hl.new hw) _ _ hk'⟩
  clear hg hl hrot he
  generalize last.length = n at *
  clear last os
  go_enter Try.func15, Try.ntmps15
  go_wp2_with fail
  go_loopw [8] (fun i wr => ∃ k : Nat, i = .int .i64 k ∧ k ≤ n ∧ New w wr) (fun i _ => n - (intOf i).toNat)
  case atStart => exact ⟨0, rfl, by omega, New.refl _⟩
  case round =>
    obtain ⟨k, rfl, hk, hf⟩ := hrel
    by_cases hlt : k < n
    · obtain ⟨⟨s, t, l⟩, ⟨b, off, rfl, c1, c2, c3⟩, b', off', rfl, d1, d2, d3⟩ := HX.out wr hf k hlt
      simp only at c1 c2 c3 d1 d2 d3
      have HG : Hid (New w wr) := hf
      clear hf HX
      obtain ⟨p, hp⟩ : ∃ p, p = (nx + k) % n := ⟨_, rfl⟩
      have hpi : ((nx : Int) + (k : Int)) % (n : Int) = (p : Int) := by rw [hp]; push_cast; rfl
      have hpn : p < n := by rw [hp]; exact Nat.mod_lt _ (by omega)
      rw [← hp] at c1 c2 c3
      clear hp
      have hn0 : ((n : Int) == 0) = false := by simp; omega
      go_upto_region 7 with fail
      go_quiet (fail)
      go_wp2_with fail
      go_roundw
      case rel =>
        exact ⟨k + 1, by go_num, by omega, HG.out.drewN _⟩
      case measure => simp [intOf]; omega
    · obtain rfl : k = n := by omega
      clear HX
      go_wp2_with fail
      go_ret
      exact ⟨rfl, hf⟩
end Go.Proofs.Qxb6612353a
