/-
  Rows of latencies: ZZanswered copies the window's, answeredLatencies makes the law's own, sorted.
-/
import Derived.Test.Qxb6612353aOuts
import Derived.OwnWalk
namespace Go.Proofs.Qxb6612353a
open Go.ChangeShapes Go.WideShapes Go.ChangeAt Go.RowKit
set_option linter.unusedVariables false
set_option linter.unusedSimpArgs false

theorem info2 : (Try.prog.info? 2).map (fun i => (i.zero, i.size, i.bytes)) = some (some (.int .i64 0), 1, 8) := by kernel_rfl
theorem mk23 (n : Nat) (hn : n ≤ 100000) (W : World) : ∃ c, c.size = n ∧ (Instr.makeSlice 23 (.int .i64 (n : Int)) (.int .i64 (n : Int))).run Try.prog W = .ok (.slice (some ⟨W.heap.size, 0, none⟩) n n) (W.alloc (.cells c 2)) := by
  obtain ⟨i0, hi, hz0, hz1, hz2⟩ := info_parts info2
  have := run_make (P := Try.prog) (w := W) 23 2 i0 _ Try.underlying23 hi hz0 .i64 .i64 (n : Int) (n : Int) (by omega) (by omega) (by rw [hz2]; omega) (by omega)
  rw [Int.toNat_natCast, hz1, Nat.mul_one] at this
  exact ⟨_, size_madeCells _ _, this⟩

/-- A row of numbers in the making: the first k are written. -/
def Mn (w : World) (qb n : Nat) (xs : List Int) (k : Nat) : Prop := ∃ c : Array Value, w.heap[qb]? = some (.cells c 2 (0, 0)) ∧ c.size = n ∧ ∀ j x, j < k → xs[j]? = some x → c[j]? = some (.int .i64 x)
theorem Mn.step {w : World} {qb n : Nat} {xs : List Int} {k : Nat} (h : Mn w qb n xs k) (hk : k < n) {x : Int} (hx : xs[k]? = some x) : Mn (w.setCell ⟨qb, k, none⟩ (.int .i64 x)) qb n xs (k + 1) := by
  obtain ⟨c, h1, h2, h3⟩ := h
  refine ⟨_, heap_setCell h1 _ _, by simpa using h2, fun j p hj hp => ?_⟩
  rw [Array.getElem?_setIfInBounds]
  by_cases e : j = k
  · subst e
    rw [hx] at hp
    cases hp
    rw [if_pos rfl, if_pos (by omega)]
  · rw [if_neg (by omega)]
    exact h3 j p (by omega) hp
theorem Mn.nums {w : World} {qb n : Nat} {xs : List Int} (h : Mn w qb n xs n) (hn : n = xs.length) : NumsL w (some ⟨qb, 0, none⟩) xs := fun i x hx => by
  obtain ⟨c, h1, h2, h3⟩ := h
  have hl := (List.getElem?_eq_some_iff.1 hx).1
  refine ⟨qb, 0, rfl, ?_⟩
  rw [cell_of h1, Nat.zero_add]
  exact h3 i x (by omega) hx

def AnsP (xs : List Int) (w : World) (e : Ending) (w' : World) : Prop := ∃ qa qc, e = .returned (.slice qa xs.length qc) ∧ NumsL w' qa xs ∧ New w w'

theorem eql52 (a : Option Addr) (l c : Nat) (w : World) : (binOp .eql 52 (.slice a l c) (.slice none 0 0)).run Try.prog w = .ok (.bool a.isNone) w := by
  simp only [binOp]
  have : (Op.equal 52 (.slice a l c) (.slice none 0 0)).run Try.prog w = .ok a.isNone w := by
    show (Op.equalIn (9999 + 1) 52 _ _).run Try.prog w = _
    rw [run_equalIn_slice_nil w 9999 52 34 a l c Try.underlying52]
  simp [this]

set_option maxRecDepth 100000 in
set_option maxHeartbeats 1000000 in
theorem zzAnswered_any {wb : Nat} {ct : Int} {rv : Value} {nx : Int} {aa : Option Addr} {ac : Nat} {sm fl tm lm : Int} (xs : List Int) (w : World) (h : Wn w wb ct rv nx (.slice aa xs.length ac) sm fl tm lm) (hx : NumsL w aa xs) (hn : xs.length ≤ 1000) :
    Calls Try.prog 18 #[ptr wb] w (AnsP xs w) := by
  obtain ⟨n, hnn⟩ : ∃ x, x = xs.length := ⟨_, rfl⟩
  rw [← hnn] at hn h
  have HN : Hid (n = xs.length) := hnn
  have he := eql52
  cases aa with
  | none =>
    have hx0 : xs = [] := by
      cases xs with
      | nil => rfl
      | cons x xs =>
        obtain ⟨b, off, h1, _⟩ := hx 0 x rfl
        cases h1
    subst hx0
    have HP : Hid (AnsP [] w (.returned (.slice none 0 0)) w) := ⟨none, 0, rfl, fun j x hj => by simp at hj, New.refl _⟩
    have c6 := h.c6
    clear h hx
    unfold ptr
    go_enter Try.func18, Try.ntmps18
    go_wp2_with fail
    go_ret
    exact HP.out
  | some ad =>
    have he2 : ∀ l c (w : World), (binOp .eql 52 (.slice (some ad) l c) (.slice none 0 0)).run Try.prog w = .ok (.bool false) w := fun l c w => eql52 (some ad) l c w
    have HX : Hid (∀ w', New w w' → ∀ k, k < n → ∃ x, xs[k]? = some x ∧ ∃ b off, ad = ⟨b, off, none⟩ ∧ b < w.heap.size ∧ w'.cell? ⟨b, off + k, none⟩ = some (.int .i64 x)) := fun w' hw k hk => by
      have hg : xs[k]? = some xs[k] := List.getElem?_eq_getElem (by omega)
      obtain ⟨b, off, h1, h2⟩ := hx k _ hg
      exact ⟨_, hg, b, off, by cases h1; rfl, cell_lt' h2, hw.cell h2 (fun h => h)⟩
    have HC : Hid (∀ w', New w w' → w'.cell? ⟨wb, 6, none⟩ = some (.slice (some ad) n ac)) := fun w' hw => hw.cell h.c6 (fun h => h)
    obtain ⟨c0, hc0, hmk⟩ := mk23 n (by omega) w
    have hM : Mn (w.alloc (.cells c0 2)) w.heap.size n xs 0 := ⟨c0, heap_new w _, hc0, fun j o hj => by omega⟩
    have hF : New w (w.alloc (.cells c0 2)) := (Fr.refl _ _).alloc _
    have hlt0 := h.lt
    have c6 := h.c6
    have d6 := hF.cell h.c6 (fun h => h)
    have HM : Hid (Mn (w.alloc (.cells c0 2)) w.heap.size n xs 0) := hM
    have HF : Hid (New w (w.alloc (.cells c0 2))) := hF
    clear h hnn hx hM hF hc0 he
    unfold ptr
    go_enter Try.func18, Try.ntmps18
    go_upto_region 4 with fail
    obtain ⟨qb, hqb⟩ : ∃ x, x = w.heap.size := ⟨_, rfl⟩
    rw [← hqb] at HM HX hlt0 ⊢
    have HQ : Hid (w.heap.size ≤ qb) := Nat.le_of_eq hqb.symm
    have hwq : wb ≠ qb := by omega
    clear hqb
    generalize w.alloc (.cells c0 2) = w1 at HM HF d6 ⊢
    clear c6 hmk
    go_wp2_with fail
    go_loopw [21] (fun i wr => ∃ k : Nat, i = .int .i64 k ∧ k ≤ n ∧ Mn wr qb n xs k ∧ New w wr) (fun i _ => n - (intOf i).toNat)
    case atStart => exact ⟨0, rfl, by omega, HM.out, HF.out⟩
    case round =>
      obtain ⟨k, rfl, hk, hm, hf⟩ := hrel
      have c6 := HC.out wr hf
      by_cases hlt : k < n
      · obtain ⟨x, hxk, b, off, rfl, hb, c1⟩ := HX.out wr hf k hlt
        have HM2 : Hid (Mn (wr.setCell ⟨qb, k, none⟩ (.int .i64 x)) qb n xs (k + 1)) := hm.step hlt hxk
        have HG2 : Hid (New w (wr.setCell ⟨qb, k, none⟩ (.int .i64 x))) := hf.setCell _ (.inr HQ.out) _
        have hbq : b ≠ qb := by omega
        obtain ⟨d, hd, hds, hd3⟩ := hm
        have g0 : wr.cell? ⟨qb, k, none⟩ = some d[k] := by rw [cell_of hd]; exact Array.getElem?_eq_getElem (by omega)
        have z0 : wr.frozen? ⟨qb, k, none⟩ = false := by simp [World.frozen?, hd]
        generalize d[k] = d0 at g0
        clear hxk hf hd hds hd3 HX HC HM HF HQ d6 hb
        go_wp2_with fail
        go_roundw
        case rel => exact ⟨k + 1, by go_num, by omega, HM2.out, HG2.out⟩
        case measure => simp [intOf]; omega
      · obtain rfl : k = n := by omega
        have hout := hm.nums HN.out
        have hl := HN.out
        have HP : Hid (AnsP xs w (.returned (.slice (some ⟨qb, 0, none⟩) k k)) wr) := ⟨_, k, by rw [hl], hout, hf⟩
        clear hout hf hm hl HX HC
        go_wp2_with fail
        go_ret
        exact HP.out

/-! ### answeredLatencies -/
theorem new_fr {S : Nat → Prop} {w w1 w2 : World} (h : New w w1) (k : Fr S w1 w2) (hS : ∀ b, S b → w.heap.size ≤ b) : New w w2 := by
  have h' : Fr S w w1 := h.mono (fun _ _ h => h.elim)
  exact (h'.trans k).mono (fun b hb hs => by have := hS b hs; omega)
theorem own2 {w : World} {base n uc : Nat} {ua : Option Addr} {xs : List Int} (h : w.ownsRow base 2 1 (.slice ua n uc) n (xs.map I)) (hn : 0 < n) :
    ∃ b cur, ua = some ⟨b, 0, none⟩ ∧ base ≤ b ∧ w.heap[b]? = some (.cells cur 2 (0, 0)) ∧ n ≤ uc ∧ uc ≤ maxLen ∧ cur.size = uc ∧ cur.toList.take n = xs.map I := by
  rcases h.2 with ⟨_, hh⟩ | ⟨g, cap, cur, hh, h1, h2, h3, h4, h5, h6⟩
  · omega
  · simp at hh
    obtain ⟨rfl, rfl⟩ := hh
    exact ⟨g, cur, rfl, h1, h2, h3, h4, by simpa using h5, by simpa using h6⟩
theorem own2_get {w : World} {base n uc b : Nat} {xs : List Int} (h : w.ownsRow base 2 1 (.slice (some ⟨b, 0, none⟩) n uc) n (xs.map I)) {j : Nat} {x : Int} (hj : j < n) (hx : xs[j]? = some x) : w.cell? ⟨b, j, none⟩ = some (.int .i64 x) := by
  obtain ⟨b', cur, hb, _, hcur, _, _, _, htk⟩ := own2 h (by omega)
  cases hb
  rw [cell_of hcur]
  have : (cur.toList.take n)[j]? = (xs.map I)[j]? := by rw [htk]
  rw [List.getElem?_take, if_pos hj, List.getElem?_map, hx] at this
  simpa [I] using this
theorem own2_set {w : World} {base n uc b : Nat} {xs : List Int} (h : w.ownsRow base 2 1 (.slice (some ⟨b, 0, none⟩) n uc) n (xs.map I)) {j : Nat} (hj : j < n) (x : Int) :
    (w.setCell ⟨b, j, none⟩ (.int .i64 x)).ownsRow base 2 1 (.slice (some ⟨b, 0, none⟩) n uc) n ((xs.set j x).map I) := by
  obtain ⟨b', cur, hb, h1, h2, h3, h4, h5, h6⟩ := own2 h (by omega)
  cases hb
  refine ⟨by have := h.1; simpa using this, .inr ⟨b, uc, _, rfl, h1, heap_setCell h2 j (.int .i64 x), h3, h4, by simpa using h5, ?_⟩⟩
  rw [Array.toList_setIfInBounds, List.take_set, Nat.mul_one, h6, List.map_set]
  rfl
theorem nums_own2 {w : World} {base uc : Nat} {ua : Option Addr} {xs : List Int} (h : w.ownsRow base 2 1 (.slice ua xs.length uc) xs.length (xs.map I)) : NumsL w ua xs := fun j x hj => by
  have hl := (List.getElem?_eq_some_iff.1 hj).1
  obtain ⟨b, cur, rfl, _, hcur, _, _, _, htk⟩ := own2 h (by omega)
  refine ⟨b, 0, rfl, ?_⟩
  rw [Nat.zero_add]
  exact own2_get h hl hj

theorem ins_shift2 {ys : List Int} {j : Nat} {y : Int} (h : ys[j]? = some y) : insAt ys (j + 1) y = insAt ys j y := by
  unfold insAt
  rw [take_succ_get h]
  have hl := (List.getElem?_eq_some_iff.1 h).1
  have e : ys.drop j = y :: ys.drop (j + 1) := by
    rw [List.drop_eq_getElem_cons hl]
    rw [List.getElem?_eq_getElem hl] at h
    simp at h
    rw [h]
  rw [e]
  simp
theorem ins_set {ys : List Int} {j : Nat} (hj : j ≤ ys.length) (v x : Int) : (insAt ys j v).set j x = insAt ys j x := by
  unfold insAt
  have hl : (ys.take j).length = j := by rw [List.length_take]; omega
  rw [List.set_append_right _ _ (by omega)]
  simp [hl]
theorem ins_get {ys : List Int} {i j : Nat} (hi : i < j) (hj : j ≤ ys.length) (v : Int) : (insAt ys j v)[i]? = ys[i]? := by
  unfold insAt
  rw [List.getElem?_append_left (by rw [List.length_take]; omega), List.getElem?_take, if_pos hi]
theorem ins_sorted {ys : List Int} {j : Nat} {l : Int} (hs : Sorted ys) (hj : j ≤ ys.length) (h1 : ∀ i y, i + 1 = j → ys[i]? = some y → y ≤ l) (h2 : ∀ i y, j ≤ i → ys[i]? = some y → l < y) : Sorted (insAt ys j l) := by
  apply pairwise_sorted
  unfold insAt
  apply mid_pairwise
  · rw [List.take_append_drop]
    exact sorted_pairwise hs
  · intro a ha
    obtain ⟨i, hi⟩ := List.mem_iff_getElem?.1 ha
    rw [List.getElem?_take] at hi
    split at hi
    · rename_i hlt
      have hl := (List.getElem?_eq_some_iff.1 hi).1
      have hg : ys[j - 1]? = some ys[j - 1] := List.getElem?_eq_getElem (by omega)
      have := h1 (j - 1) _ (by omega) hg
      by_cases e : i = j - 1
      · subst e
        rw [hg] at hi
        cases hi
        omega
      · have := hs i (j - 1) _ _ (by omega) hi hg
        omega
    · cases hi
  · intro b hb
    obtain ⟨i, hi⟩ := List.mem_iff_getElem?.1 hb
    rw [List.getElem?_drop] at hi
    have := h2 _ _ (Nat.le_add_right j i) hi
    omega
theorem ins_end (ys : List Int) (x : Int) : insAt ys ys.length x = ys ++ [x] := by simp [insAt]

theorem append23 (w : World) (base : Nat) (ra : Option Addr) (rc : Nat) (xs : List Int) (h : w.ownsRow base 2 1 (.slice ra xs.length rc) xs.length (xs.map I)) (hn : xs.length ≤ 100000) (hb : base ≤ w.heap.size) (x : Int) :
    ∃ ra' rc' w', (Builtin.append_ #[23, 23] 23 #[.slice ra xs.length rc, .slice (some ⟨w.heap.size, 0, none⟩) 1 1]).run Try.prog (w.alloc (.cells #[.int .i64 x] 2)) = .ok (.slice (some ⟨ra', 0, none⟩) (xs.length + 1) rc') w' ∧ w'.ownsRow base 2 1 (.slice (some ⟨ra', 0, none⟩) (xs.length + 1) rc') (xs.length + 1) ((insAt xs xs.length x).map I) ∧ Fr (fun b => (Value.slice ra xs.length rc).ownBlock = some b) (w.alloc (.cells #[.int .i64 x] 2)) w' := by
  obtain ⟨i0, hi, hz0, hz1, hz2⟩ := info_parts info2
  have h' := h.alloc (.cells #[.int .i64 x] 2)
  obtain ⟨v', w', h1, h2, h3, _⟩ := run_append_own (P := Try.prog) (w.alloc (.cells #[.int .i64 x] 2)) base 23 23 2 i0 _ 1 8 Try.underlying23 hi hz0 hz1 hz2 rfl (by decide) _ xs.length (xs.map I) h' ⟨w.heap.size, 0, none⟩ 1 1 [.int .i64 x] rfl (by
    intro j u hj
    rw [Addr.add_lit, cell_of (heap_new w _)]
    rw [Nat.zero_add]
    simpa using hj) (by
    intro u hu
    simp at hu
    subst hu
    rfl) (by unfold maxLen; omega) (by omega) (by rw [size_alloc]; omega)
  obtain ⟨ra', rc', rfl⟩ : ∃ ra' rc', v' = .slice (some ⟨ra', 0, none⟩) (xs.length + 1) rc' := by
    rcases h2.2 with ⟨_, hh⟩ | ⟨g, cap, cur, rfl, _⟩
    · omega
    · exact ⟨_, _, rfl⟩
  refine ⟨ra', rc', w', h1, ?_, fr_grown h3⟩
  rw [ins_end]
  simpa [I] using h2

def LatP (last : List Oc) (w : World) (e : Ending) (w' : World) : Prop := ∃ ys qa qc, e = .returned (.slice qa ys.length qc) ∧ Sorted ys ∧ ys.Perm (ans last) ∧ NumsL w' qa ys ∧ New w w'

theorem ans_le (l : List Oc) : (ans l).length ≤ l.length := by
  induction l with
  | nil => simp [ans]
  | cons o l ih =>
    rw [ans_cons, List.length_append, List.length_cons]
    have : (ansOf o).length ≤ 1 := by
      unfold ansOf
      split <;> simp
    omega

/-- The state at the outer loop's head. -/
def Lat (last : List Oc) (w : World) (k : Nat) (v : Value) (w' : World) : Prop := ∃ (ys : List Int) (ra : Option Addr) (rc : Nat), v = .slice ra ys.length rc ∧ Sorted ys ∧ ys.Perm (ans (last.take k)) ∧ w'.ownsRow w.heap.size 2 1 (.slice ra ys.length rc) ys.length (ys.map I) ∧ New w w'


set_option maxRecDepth 100000 in
set_option maxHeartbeats 2000000 in
theorem answered_any (la : Option Addr) (lc : Nat) (last : List Oc) (w : World) (hl : Outs w la last) (hn : last.length ≤ 1000) :
    Calls Try.prog 30 #[.slice la last.length lc] w (LatP last w) := by
  obtain ⟨n, hnn⟩ : ∃ x, x = last.length := ⟨_, rfl⟩
  rw [← hnn] at hn ⊢
  have HN : Hid (n = last.length) := hnn
  have HX : Hid (∀ w', New w w' → ∀ k, k < n → ∃ o : Oc, last[k]? = some o ∧ ∃ b off, la = some ⟨b, off, none⟩ ∧ w'.cell? ⟨b, off + k * 3, none⟩ = some (.int .i64 o.st) ∧ w'.cell? ⟨b, off + k * 3 + 2, none⟩ = some (.int .i64 o.lt)) := fun w' hw k hk => by
    have hk' : last[k]? = some last[k] := List.getElem?_eq_getElem (by omega)
    obtain ⟨b, off, h1, h2, h3, h4⟩ := (hl.new hw) _ _ hk'
    exact ⟨last[k], hk', b, off, h1, h2, h4⟩
  obtain ⟨i0, hi, hz0, hz1, hz2⟩ := info_parts info2
  obtain ⟨w1, hmk, hown, hgr⟩ := run_make_own (P := Try.prog) w w.heap.size 23 2 i0 _ 1 Try.underlying23 hi hz0 hz1 .i64 .i64 n (by rw [hz2]; omega) (by unfold maxLen; omega) (Nat.le_refl _)
  have HL0 : Hid (Lat last w 0 (.slice (some ⟨w.heap.size, 0, none⟩) 0 n) w1) := ⟨[], _, n, rfl, fun i j x y _ h => by simp at h, List.Perm.refl _, hown, ⟨hgr.os, hgr.tape, hgr.output, hgr.size, fun b hb _ => hgr.block b hb (fun h => by cases h)⟩⟩
  clear hnn hl hi hz0 hz1 hz2 i0 hown hgr
  go_enter Try.func30, Try.ntmps30
  go_wp2_with fail
  go_loopw [3, 4] (fun v i wr => ∃ k : Nat, i = .int .i64 k ∧ k ≤ n ∧ Lat last w k v wr) (fun v i _ => n - (intOf i).toNat)
  case atStart => exact ⟨0, rfl, by omega, HL0.out⟩
  case round =>
    clear hmk HL0
    obtain ⟨k, rfl, hk, hlat⟩ := hrel
    by_cases hlt : k < n
    · obtain ⟨ys, ra, rc, rfl, hs, hp, ho, hf⟩ := hlat
      obtain ⟨⟨s, t, l⟩, hok, b, off, rfl, c1, c3⟩ := HX.out wr hf k hlt
      simp only at c1 c3
      have htk := take_succ_get hok
      by_cases hz : s = 0
      · have hz1 : (s == 0) = true := by rw [hz]; rfl
        have HL : Hid (Lat last w (k + 1) (.slice ra ys.length rc) wr) := ⟨ys, ra, rc, rfl, hs, by rw [htk, ans_append, ans_one]; simpa [ansOf, hz] using hp, ho, hf⟩
        clear hz hs hp ho hf hok htk
        generalize ys.length = m at HL ⊢
        go_wp2_with fail
        go_roundw
        case rel => exact ⟨k + 1, by go_num, by omega, HL.out⟩
        case measure => simp [intOf]; omega
      · have hz1 : (s == 0) = false := by simp [hz]
        have hym : ys.length ≤ 1000 := by
          have h1 := hp.length_eq
          have h2 := ans_le (last.take k)
          rw [List.length_take] at h2
          omega
        obtain ⟨qb, qc, w3, hrun, ho3, hf3⟩ := append23 wr w.heap.size ra rc ys ho (by omega) hf.size l
        have HRUN : Hid _ := hrun
        have hn3 : New w w3 := new_fr (hf.alloc _) hf3 (fun b hb => (ho.lt b hb).1)
        have HP : Hid (∀ ys' : List Int, ys'.Perm (l :: ys) → ys'.Perm (ans (last.take (k + 1)))) := fun ys' h => by
          rw [htk, ans_append, ans_one]
          unfold ansOf
          rw [if_neg hz]
          exact h.trans (((List.perm_cons _).2 hp).trans (by simpa using (List.perm_append_comm (l₁ := [l]) (l₂ := ans (last.take k)))))
        have HO3 : Hid (w3.ownsRow w.heap.size 2 1 (.slice (some ⟨qb, 0, none⟩) (ys.length + 1) qc) (ys.length + 1) ((insAt ys ys.length l).map I)) := ho3
        have HN3 : Hid (New w w3) := hn3
        have HYL : Hid (∀ y, ys[ys.length]? = some y → False) := fun y h => by simp at h
        obtain ⟨m, hm⟩ : ∃ m, m = ys.length := ⟨_, rfl⟩
        rw [← hm] at HO3 HRUN hym HYL ⊢
        have HM : Hid (m = ys.length) := hm
        have HFIN : Hid (∀ (w2 : World) (p : Nat) (v : Int), p ≤ m → (∀ i y, i + 1 = p → ys[i]? = some y → y ≤ l) → (∀ i y, p ≤ i → ys[i]? = some y → l < y) → w2.ownsRow w.heap.size 2 1 (.slice (some ⟨qb, 0, none⟩) (m + 1) qc) (m + 1) ((insAt ys p v).map I) → New w w2 → Lat last w (k + 1) (.slice (some ⟨qb, 0, none⟩) (m + 1) qc) (w2.setCell ⟨qb, p, none⟩ (.int .i64 l))) := fun w2 p v hpm h1 h2 h3 h4 => by
          have hpl : p ≤ ys.length := by omega
          have h5 := own2_set h3 (j := p) (by omega) l
          rw [ins_set hpl] at h5
          have hln := insAt_length ys p l hpl
          have hqb := (h3.lt qb rfl).1
          refine ⟨insAt ys p l, some ⟨qb, 0, none⟩, qc, by rw [hln, hm], ins_sorted hs hpl h1 h2, HP.out _ (insAt_perm _ _ _), ?_, h4.setCell _ (.inr hqb) _⟩
          rw [hln, ← hm]
          exact h5
        clear hz hp ho hf hok htk hrun ho3 hf3 hn3 hm HX
        go_wp2_with (at_builtin; refine wpList_append_eq rfl (.tmp 27) (.tmp 29) 23 23 rfl _ _ _ _ rfl rfl HRUN.out ?_)
        clear c1 c3 hz1 HRUN
        go_loopw [6] (fun j w2 => ∃ (p : Nat) (v : Int), j = .int .i64 p ∧ p ≤ m ∧ (∀ i y, p ≤ i → ys[i]? = some y → l < y) ∧ w2.ownsRow w.heap.size 2 1 (.slice (some ⟨qb, 0, none⟩) (m + 1) qc) (m + 1) ((insAt ys p v).map I) ∧ New w w2) (fun j _ => (intOf j).toNat)
        case atStart =>
          refine ⟨m, l, by go_num, by omega, fun i y hi hy => ?_, HO3.out, HN3.out⟩
          have h1 := (List.getElem?_eq_some_iff.1 hy).1
          have h2 := HM.out
          omega
        case round =>
          clear HO3 HN3 HYL
          obtain ⟨p, v, rfl, hpm, hgt, ho, hf⟩ := hrel
          have hpl : p ≤ ys.length := by have := HM.out; omega
          obtain ⟨q', cur, hq', hqb, hcur, _, _, hcs, _⟩ := own2 ho (by omega)
          cases hq'
          have g0 : wr.cell? ⟨qb, p, none⟩ = some cur[p] := by rw [cell_of hcur]; exact Array.getElem?_eq_getElem (by omega)
          have z0 : wr.frozen? ⟨qb, p, none⟩ = false := by simp [World.frozen?, hcur]
          generalize cur[p] = d0 at g0
          clear hcur hcs
          by_cases hp0 : p = 0
          · have HL : Hid (Lat last w (k + 1) (.slice (some ⟨qb, 0, none⟩) (m + 1) qc) (wr.setCell ⟨qb, p, none⟩ (.int .i64 l))) := HFIN.out wr p v hpm (fun i y hi => by omega) hgt ho hf
            subst hp0
            clear HFIN HP hgt ho hf hs
            go_wp2_with fail
            go_roundw
            case rel => exact ⟨k + 1, by go_num, by omega, HL.out⟩
            case measure => simp [intOf]; omega
          · obtain ⟨r, rfl⟩ : ∃ r, p = r + 1 := ⟨p - 1, by omega⟩
            have hy : ys[r]? = some ys[r] := List.getElem?_eq_getElem (by omega)
            generalize ys[r] = y at hy
            have c0 := own2_get ho (j := r) (x := y) (by omega) ((ins_get (by omega) hpl v).trans hy)
            by_cases hly : l < y
            · have h5 := own2_set ho (j := r + 1) (by omega) y
              rw [ins_set hpl, ins_shift2 hy] at h5
              have HO5 : Hid ((wr.setCell ⟨qb, r + 1, none⟩ (.int .i64 y)).ownsRow w.heap.size 2 1 (.slice (some ⟨qb, 0, none⟩) (m + 1) qc) (m + 1) ((insAt ys r y).map I)) := h5
              have HN5 : Hid (New w (wr.setCell ⟨qb, r + 1, none⟩ (.int .i64 y))) := hf.setCell _ (.inr hqb) _
              have HG5 : Hid (∀ i z, r ≤ i → ys[i]? = some z → l < z) := fun i z hi hz => by
                by_cases e : i = r
                · subst e
                  rw [hy] at hz
                  cases hz
                  exact hly
                · exact hgt i z (by omega) hz
              clear HFIN HP hgt ho hf hs h5 hy
              go_wp2_with fail
              go_roundw
              case rel => exact ⟨r, y, by go_num, by omega, HG5.out, HO5.out, HN5.out⟩
              case measure => simp [intOf]
            · have HL : Hid (Lat last w (k + 1) (.slice (some ⟨qb, 0, none⟩) (m + 1) qc) (wr.setCell ⟨qb, r + 1, none⟩ (.int .i64 l))) := HFIN.out wr (r + 1) v hpm (fun i z hi hz => by
                obtain rfl : i = r := by omega
                rw [hy] at hz
                cases hz
                omega) hgt ho hf
              clear HFIN HP hgt ho hf hs hy
              go_wp2_with fail
              go_roundw
              case rel => exact ⟨k + 1, by go_num, by omega, HL.out⟩
              case measure => simp [intOf]; omega
    · obtain rfl : k = n := by omega
      obtain ⟨ys, ra, rc, rfl, hs, hp, ho, hf⟩ := hlat
      have hl := HN.out
      rw [hl, List.take_length] at hp
      have HP : Hid (LatP last w (.returned (.slice ra ys.length rc)) wr) := ⟨ys, ra, rc, rfl, hs, hp, nums_own2 ho, hf⟩
      clear hl hp ho hf HX hs
      generalize ys.length = m at HP ⊢
      go_wp2_with fail
      go_ret
      exact HP.out
end Go.Proofs.Qxb6612353a
