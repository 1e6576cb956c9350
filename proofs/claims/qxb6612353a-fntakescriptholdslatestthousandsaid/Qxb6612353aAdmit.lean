/-
  admit: an outcome taken into the figures.
-/
import Derived.Test.Qxb6612353aDelete
import Derived.Deep.RegionWith
namespace Go.Proofs.Qxb6612353a
open Go.ChangeShapes Go.WideShapes Go.ChangeAt Go.RowKit Go.Lib
set_option linter.unusedVariables false
set_option linter.unusedSimpArgs false

theorem nums_own {w : World} {base uc : Nat} {ua : Option Addr} {xs : List Int} (h : w.ownsRow base 34 1 (.slice ua xs.length uc) xs.length (xs.map I)) : NumsL w ua xs := fun j x hj => by
  have hl := (List.getElem?_eq_some_iff.1 hj).1
  obtain ⟨b, cur, rfl, _, hcur, _, _, _, htk⟩ := own34 h (by omega)
  refine ⟨b, 0, rfl, ?_⟩
  rw [cell_of hcur, Nat.zero_add]
  have : (cur.toList.take xs.length)[j]? = (xs.map I)[j]? := by rw [htk]
  rw [List.getElem?_take, if_pos hl, List.getElem?_map, hj] at this
  simpa [I] using this

/-- The window's figures: the window, the row of latencies, sorted. -/
structure Fg (w : World) (wb base : Nat) (ct : Int) (rv : Value) (nx : Int) (xs : List Int) (sm fl tm lm : Int) : Prop where
  ok : ∃ aa ac, Wn w wb ct rv nx (.slice aa xs.length ac) sm fl tm lm ∧ w.ownsRow base 34 1 (.slice aa xs.length ac) xs.length (xs.map I)

def admX (o : Oc) (xs : List Int) : List Int := if o.st = 0 then xs else insAt xs (lb xs o.lt) o.lt
def admS (o : Oc) (sm : Int) : Int := if o.st = 0 then sm else wrap64 (sm + o.lt)

/-- What a step may touch: the window, and rows of latencies. -/
def Tch (w : World) (wb base : Nat) (b : Nat) : Prop := b = wb ∨ (base ≤ b ∧ ∃ c, w.heap[b]? = some (.cells c 34 (0, 0)))
theorem tch_trans {w w1 w2 : World} {wb base : Nat} (h : Fr (Tch w wb base) w w1) (k : Fr (Tch w1 wb base) w1 w2) : Fr (Tch w wb base) w w2 :=
  ⟨k.os.trans h.os, k.tape.trans h.tape, k.output.trans h.output, Nat.le_trans h.size k.size, fun b hb hn => by
    have e := h.block b hb hn
    refine (k.block b (Nat.lt_of_lt_of_le hb h.size) (fun ht => hn ?_)).trans e
    rcases ht with ht | ⟨h1, c, h2⟩
    · exact .inl ht
    · exact .inr ⟨h1, c, by rw [← e]; exact h2⟩⟩
theorem tch_new {w w1 : World} {wb base : Nat} (h : New w w1) : Fr (Tch w wb base) w w1 := h.mono (fun _ _ h => h.elim)
theorem tch_wb {w w1 : World} {wb base : Nat} (h : Fr (fun b => b = wb) w w1) : Fr (Tch w wb base) w w1 := h.mono (fun _ _ h => .inl h)
theorem tch_own {w w1 : World} {wb base n : Nat} {v : Value} {xs : List Value} (ho : w.ownsRow base 34 1 v n xs) (h : Fr (fun b => v.ownBlock = some b) w w1) : Fr (Tch w wb base) w w1 := h.mono (fun b _ hb => by
  obtain ⟨c, hc⟩ := own_tag ho hb
  exact .inr ⟨(ho.lt b hb).1, c, hc⟩)

def AdmP (wb base : Nat) (ct : Int) (rv : Value) (nx : Int) (xs : List Int) (sm fl tm lm : Int) (o : Oc) (w : World) (e : Ending) (w' : World) : Prop :=
  e = .returned (.tuple #[]) ∧ Fg w' wb base ct rv nx (admX o xs) (admS o sm) (tal fl 1 o.failed) (tal tm 1 o.tm) (tal lm 1 (o.st == 429)) ∧ Fr (Tch w wb base) w w'

set_option maxRecDepth 100000 in
set_option maxHeartbeats 2000000 in
theorem admit_any {wb base : Nat} {ct : Int} {ra : Option Addr} {rl rc : Nat} {nx : Int} {xs : List Int} {sm fl tm lm : Int} (o : Oc) (ho : o.ok) (w : World) (h : Fg w wb base ct (.slice ra rl rc) nx xs sm fl tm lm) (hs : Sorted xs) (hn : xs.length ≤ 1000)
    (hb : base ≤ w.heap.size) (h1 : 0 ≤ fl ∧ fl ≤ 1000) (h2 : 0 ≤ tm ∧ tm ≤ 1000) (h3 : 0 ≤ lm ∧ lm ≤ 1000) :
    Calls Try.prog 35 #[ptr wb, o.val] w (AdmP wb base ct (.slice ra rl rc) nx xs sm fl tm lm o w) := by
  obtain ⟨aa, ac, hwn, hown⟩ := h
  have hlt := hwn.lt
  have h37 := fun w (h : Wn w wb ct (.slice ra rl rc) nx (.slice aa xs.length ac) sm fl tm lm) => tally_any o 1 w h (by omega) h1 h2 h3
  obtain ⟨s, t, l⟩ := o
  have h0 := heap_new w (.cells #[.int .i64 s, .bool t, .int .i64 l] 36)
  have hn1 : New w (w.alloc (.cells #[.int .i64 s, .bool t, .int .i64 l] 36)) := (Fr.refl _ _).alloc _
  unfold ptr Oc.val at h37 ⊢
  have H37 : Hid (∀ w, Wn w wb ct (.slice ra rl rc) nx (.slice aa xs.length ac) sm fl tm lm → Calls Try.prog 37 #[.pointer (some ⟨wb, 0, none⟩), .agg #[.int .i64 s, .bool t, .int .i64 l], .int .i64 1] w (TallyP wb ct (.slice ra rl rc) nx (.slice aa xs.length ac) sm fl tm lm ⟨s, t, l⟩ 1 w)) := h37
  clear h37
  go_enter Try.func35, Try.ntmps35
  go_upto_region 1 with fail
  obtain ⟨ob, hob⟩ : ∃ x, x = w.heap.size := ⟨_, rfl⟩
  rw [← hob] at h0 hlt ⊢
  have hne : wb ≠ ob := by omega
  clear hob
  generalize w.alloc (.cells #[.int .i64 s, .bool t, .int .i64 l] 36) = w1 at h0 hn1 ⊢
  have hx : w1.cell? ⟨ob, 0, none⟩ = some (.int .i64 s) ∧ w1.cell? ⟨ob, 1, none⟩ = some (.bool t) ∧ w1.cell? ⟨ob, 2, none⟩ = some (.int .i64 l) := by
    rw [cell_of h0, cell_of h0, cell_of h0]
    exact ⟨rfl, rfl, rfl⟩
  obtain ⟨x0, x1, x2⟩ := hx
  have hwn1 := hwn.fr hn1 (fun h => h)
  have hown1 := own_fr hown hn1 (fun _ _ h => h)
  go_wp2_with fail
  refine (H37.out _ hwn1).mono ?_
  rintro e w2 ⟨rfl, hwn2, hf2⟩
  clear x0 x1 x2 H37
  have ho2 : w2.heap[ob]? = _ := (hf2.block ob (heap_lt h0) (fun e => hne e.symm)).trans h0
  have hown2 := own_fr hown1 hf2 (fun g hg e => by
    obtain ⟨c, hc⟩ := own_tag hown1 hg
    exact ne_tag hc hwn1 (by decide) e)
  have hx : w2.cell? ⟨ob, 0, none⟩ = some (.int .i64 s) ∧ w2.cell? ⟨ob, 1, none⟩ = some (.bool t) ∧ w2.cell? ⟨ob, 2, none⟩ = some (.int .i64 l) := by
    rw [cell_of ho2, cell_of ho2, cell_of ho2]
    exact ⟨rfl, rfl, rfl⟩
  obtain ⟨x0, x1, x2⟩ := hx
  have hf02 : Fr (Tch w wb base) w w2 := tch_trans (tch_new hn1) (tch_wb hf2)
  have hb2 : base ≤ w2.heap.size := Nat.le_trans hb hf02.size
  clear hown1 hwn1 hf2 hn1 hwn hown h0
  have c6 := hwn2.c6
  have f6 := hwn2.free 6
  by_cases hs0 : s = 0
  · subst hs0
    have hfin : AdmP wb base ct (.slice ra rl rc) nx xs sm fl tm lm ⟨0, t, l⟩ w (.returned (.tuple #[])) w2 := ⟨rfl, ⟨aa, ac, hwn2, hown2⟩, hf02⟩
    have HF : Hid (AdmP wb base ct (.slice ra rl rc) nx xs sm fl tm lm ⟨0, t, l⟩ w (.returned (.tuple #[])) w2) := hfin
    clear hfin hwn2 hown2 hf02 ho2
    go_wp2_with fail
    go_end0
    exact HF.out
  · go_upto_region 3 with fail
    go_cut [4] from 12 to 21 (fun v wx => v = .int .i64 (lb xs l : Nat) ∧ ∃ m, wx = w2.drewN m)
    case first =>
      have h39 := fun m => bsearch_any aa ac xs l (w2.drewN m) (nums_own hown2) hs (by omega)
      have H39 : Hid (∀ m, Calls Try.prog 39 #[.slice aa xs.length ac, .int .i64 l] (w2.drewN m) (BsP xs l (w2.drewN m))) := h39
      clear h39 hwn2 hown2 hf02 ho2
      go_quiet (first | (go_at_call 39; exact Calls.quiet_of_same (H39.out _)))
      go_wp2_with fail
      go_meet
      case rel => exact ⟨rfl, _, rfl⟩
    obtain ⟨rfl, m, rfl⟩ := hcut
    go_upto_region 4 with fail
    have hwn3 : Wn (w2.drewN m) wb ct (.slice ra rl rc) nx (.slice aa xs.length ac) sm (tal fl 1 (Oc.failed ⟨s, t, l⟩)) (tal tm 1 t) (tal lm 1 (s == 429)) := hwn2
    have hown3 : (w2.drewN m).ownsRow base 34 1 (.slice aa xs.length ac) xs.length (xs.map I) := hown2
    have ho3 : (w2.drewN m).heap[ob]? = some (.cells #[.int .i64 s, .bool t, .int .i64 l] 36 (0, 0)) := ho2
    have hf03 : Fr (Tch w wb base) w (w2.drewN m) := hf02.drewN m
    clear hwn2 hown2 ho2 hf02 c6 f6 x0 x1 x2 hb2
    generalize w2.drewN m = w3 at hwn3 hown3 ho3 hf03 ⊢
    have hb3 : base ≤ w3.heap.size := Nat.le_trans hb hf03.size
    have hlb := lb_le l xs
    generalize hfl : tal fl 1 (Oc.failed ⟨s, t, l⟩) = fl' at hwn3
    generalize htm : tal tm 1 t = tm' at hwn3
    generalize hlm : tal lm 1 (s == 429) = lm' at hwn3
    go_cut [4] from 9 to 33 (fun v wx => v = .int .i64 (lb xs l : Nat) ∧ ∃ aa' ac', Wn wx wb ct (.slice ra rl rc) nx (.slice aa' (xs.length + 1) ac') sm fl' tm' lm' ∧ wx.ownsRow base 34 1 (.slice aa' (xs.length + 1) ac') (xs.length + 1) ((insAt xs (lb xs l) l).map I) ∧ Fr (Tch w wb base) w wx ∧ wx.heap[ob]? = some (.cells #[.int .i64 s, .bool t, .int .i64 l] 36 (0, 0)))
    case first =>
      have x2 : w3.cell? ⟨ob, 2, none⟩ = some (.int .i64 l) := by rw [cell_of ho3]; rfl
      have c6 := hwn3.c6
      have hl1 := hwn3.lt
      have hl2 := heap_lt ho3
      have h40 := insert_any aa ac (lb xs l) w3.heap.size base xs l (w3.drew.alloc (.cells #[I l] 34)) (hown3.alloc (w := w3.drew) (.cells #[I l] 34)) hlb (by omega) (by rw [size_alloc]; show base ≤ w3.heap.size + 1; omega) (heap_new w3.drew _) (fun e => by
        obtain ⟨c, hc⟩ := own_tag hown3 e
        have := heap_lt hc
        omega)
      have H40 : Hid (Calls Try.prog 40 #[.slice aa xs.length ac, .int .i64 (lb xs l : Nat), .slice (some ⟨w3.heap.size, 0, none⟩) 1 1] (w3.drew.alloc (.cells #[.int .i64 l] 34)) (InsP base (.slice aa xs.length ac) xs (lb xs l) l (w3.drew.alloc (.cells #[.int .i64 l] 34)))) := h40
      have hfa : Fr (Tch w wb base) w (w3.drew.alloc (.cells #[.int .i64 l] 34)) := hf03.drew.alloc _
      have HW : Hid (∀ w4, Fr (fun b => (Value.slice aa xs.length ac).ownBlock = some b) (w3.drew.alloc (.cells #[.int .i64 l] 34)) w4 → Wn w4 wb ct (.slice ra rl rc) nx (.slice aa xs.length ac) sm fl' tm' lm' ∧ w4.heap[ob]? = some (.cells #[.int .i64 s, .bool t, .int .i64 l] 36 (0, 0)) ∧ Fr (Tch w wb base) w w4) := fun w4 hf => by
        have ha : New w3 (w3.drew.alloc (.cells #[.int .i64 l] 34)) := (Fr.refl _ _).drew.alloc _
        have hoa := own_fr hown3 ha (fun _ _ h => h)
        refine ⟨(hwn3.fr ha (fun h => h)).fr hf (fun e => ?_), ?_, tch_trans (tch_trans hf03 (tch_new ha)) (tch_own hoa hf)⟩
        · obtain ⟨c, hc⟩ := own_tag hown3 e
          exact ne_tag hc hwn3 (by decide) rfl
        · have h4 := (ha.block ob (heap_lt ho3) (fun h => h)).trans ho3
          refine (hf.block ob (heap_lt h4) (fun e => ?_)).trans h4
          obtain ⟨c, hc⟩ := own_tag hown3 e
          exact ne_tag hc ho3 (by decide) rfl
      clear h40 hfa hwn3 hown3 ho3 hf03 hfl htm hlm hs
      generalize lb xs l = p at *
      go_region_with (go_at_call 40; refine Calls.mono H40.out ?_; rintro e w4 ⟨ua, uc, rfl, k1, k2⟩; obtain ⟨hwn4, ho4, hf4⟩ := HW.out w4 k2; have c6' := hwn4.c6; have f6' := hwn4.free 6)
      all_goals
        go_wp2_with fail
        go_meet
        case rel =>
          have hf5 := fr1 w4 wb 6 (.slice ua (xs.length + 1) uc)
          refine ⟨rfl, ua, uc, hwn4.s6 _, own_fr k1 hf5 (fun g hg e => ?_), tch_trans hf4 (tch_wb hf5), (hf5.block ob (heap_lt ho4) (fun e => hne e.symm)).trans ho4⟩
          obtain ⟨c, hc⟩ := own_tag k1 hg
          exact ne_tag hc hwn4 (by decide) e
    obtain ⟨rfl, aa', ac', hwn5, hown5, hf5, ho5⟩ := hcut
    go_upto_region 5 with fail
    obtain ⟨w5, hw5⟩ : ∃ x, x = wc := ⟨_, rfl⟩
    rw [← hw5] at hwn5 hown5 hf5 ho5 ⊢
    clear hw5 hwn3 hown3 ho3 hf03
    have c7 := hwn5.c7
    have f7 := hwn5.free 7
    have x2 : w5.cell? ⟨ob, 2, none⟩ = some (.int .i64 l) := by rw [cell_of ho5]; rfl
    have hfin : AdmP wb base ct (.slice ra rl rc) nx xs sm fl tm lm ⟨s, t, l⟩ w (.returned (.tuple #[])) ((w5.setCell ⟨wb, 7, none⟩ (.int .i64 (wrap64 (sm + l)))).drew) := by
      have hf6 := fr1 w5 wb 7 (.int .i64 (wrap64 (sm + l)))
      have e1 : admX ⟨s, t, l⟩ xs = insAt xs (lb xs l) l := by unfold admX; rw [if_neg hs0]
      have e2 : admS ⟨s, t, l⟩ sm = wrap64 (sm + l) := by unfold admS; rw [if_neg hs0]
      have e3 : (insAt xs (lb xs l) l).length = xs.length + 1 := insAt_length xs _ l hlb
      refine ⟨rfl, ⟨aa', ac', ?_, ?_⟩, (tch_trans hf5 (tch_wb hf6)).drew⟩
      · rw [e1, e2, e3]
        show Wn (w5.setCell ⟨wb, 7, none⟩ (.int .i64 (wrap64 (sm + l)))) wb ct (.slice ra rl rc) nx (.slice aa' (xs.length + 1) ac') _ (tal fl 1 (Oc.failed ⟨s, t, l⟩)) (tal tm 1 t) (tal lm 1 (s == 429))
        rw [hfl, htm, hlm]
        exact hwn5.s7 _
      · rw [e1, e3]
        exact own_fr hown5 hf6.drew (fun g hg e => by
          obtain ⟨c, hc⟩ := own_tag hown5 hg
          exact ne_tag hc hwn5 (by decide) e)
    have HF : Hid (AdmP wb base ct (.slice ra rl rc) nx xs sm fl tm lm ⟨s, t, l⟩ w (.returned (.tuple #[])) ((w5.setCell ⟨wb, 7, none⟩ (.int .i64 (wrap64 (sm + l)))).drew)) := hfin
    clear hfin hwn5 hown5 hf5 ho5 hfl htm hlm
    go_region
    go_wp2_with fail
    go_end0
    exact HF.out
end Go.Proofs.Qxb6612353a
