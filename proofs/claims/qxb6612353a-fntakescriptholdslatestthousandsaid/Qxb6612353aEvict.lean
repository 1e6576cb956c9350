/-
  evict: an outcome taken out of the figures.
-/
import Derived.Test.Qxb6612353aAdmit
namespace Go.Proofs.Qxb6612353a
open Go.ChangeShapes Go.WideShapes Go.ChangeAt Go.RowKit Go.Lib
set_option linter.unusedVariables false
set_option linter.unusedSimpArgs false

def eviX (o : Oc) (xs : List Int) : List Int := if o.st = 0 then xs else delAt xs (lb xs o.lt)
def eviS (o : Oc) (sm : Int) : Int := if o.st = 0 then sm else wrap64 (sm - o.lt)

def EviP (wb base : Nat) (ct : Int) (rv : Value) (nx : Int) (xs : List Int) (sm fl tm lm : Int) (o : Oc) (w : World) (e : Ending) (w' : World) : Prop :=
  e = .returned (.tuple #[]) ∧ Fg w' wb base ct rv nx (eviX o xs) (eviS o sm) (tal fl (-1) o.failed) (tal tm (-1) o.tm) (tal lm (-1) (o.st == 429)) ∧ Fr (Tch w wb base) w w'

set_option maxRecDepth 100000 in
set_option maxHeartbeats 2000000 in
theorem evict_any {wb base : Nat} {ct : Int} {ra : Option Addr} {rl rc : Nat} {nx : Int} {xs : List Int} {sm fl tm lm : Int} (o : Oc) (ho : o.ok) (w : World) (h : Fg w wb base ct (.slice ra rl rc) nx xs sm fl tm lm) (hs : Sorted xs) (hn : xs.length ≤ 1000)
    (hb : base ≤ w.heap.size) (h1 : 0 ≤ fl ∧ fl ≤ 1000) (h2 : 0 ≤ tm ∧ tm ≤ 1000) (h3 : 0 ≤ lm ∧ lm ≤ 1000) (hin : o.st ≠ 0 → xs[lb xs o.lt]? = some o.lt) :
    Calls Try.prog 36 #[ptr wb, o.val] w (EviP wb base ct (.slice ra rl rc) nx xs sm fl tm lm o w) := by
  obtain ⟨aa, ac, hwn, hown⟩ := h
  have hlt := hwn.lt
  have h37 := fun w (h : Wn w wb ct (.slice ra rl rc) nx (.slice aa xs.length ac) sm fl tm lm) => tally_any o (-1) w h (by omega) h1 h2 h3
  obtain ⟨s, t, l⟩ := o
  have h0 := heap_new w (.cells #[.int .i64 s, .bool t, .int .i64 l] 36)
  have hn1 : New w (w.alloc (.cells #[.int .i64 s, .bool t, .int .i64 l] 36)) := (Fr.refl _ _).alloc _
  unfold ptr Oc.val at h37 ⊢
  have H37 : Hid (∀ w, Wn w wb ct (.slice ra rl rc) nx (.slice aa xs.length ac) sm fl tm lm → Calls Try.prog 37 #[.pointer (some ⟨wb, 0, none⟩), .agg #[.int .i64 s, .bool t, .int .i64 l], .int .i64 (-1)] w (TallyP wb ct (.slice ra rl rc) nx (.slice aa xs.length ac) sm fl tm lm ⟨s, t, l⟩ (-1) w)) := h37
  clear h37
  go_enter Try.func36, Try.ntmps36
  go_upto_region 1 with fail
  obtain ⟨ob, hob⟩ : ∃ x, x = w.heap.size := ⟨_, rfl⟩
  rw [← hob] at h0 hlt ⊢
  have hne : wb ≠ ob := by omega
  clear hob
  generalize w.alloc (.cells #[.int .i64 s, .bool t, .int .i64 l] 36) = w1 at h0 hn1 ⊢
  have hx : w1.cell? ⟨ob, 0, none⟩ = some (.int .i64 s) ∧ w1.cell? ⟨ob, 1, none⟩ = some (.bool t) ∧ w1.cell? ⟨ob, 2, none⟩ = some (.int .i64 l) := by
    rw [cell_of h0, cell_of h0, cell_of h0]
    exact ⟨rfl, rfl, rfl⟩
  obtain ⟨x0, x1, x2⟩ := hx
  have hwn1 := hwn.fr hn1 (fun h => h)
  have hown1 := own_fr hown hn1 (fun _ _ h => h)
  go_wp2_with fail
  refine (H37.out _ hwn1).mono ?_
  rintro e w2 ⟨rfl, hwn2, hf2⟩
  clear x0 x1 x2 H37
  have ho2 : w2.heap[ob]? = _ := (hf2.block ob (heap_lt h0) (fun e => hne e.symm)).trans h0
  have hown2 := own_fr hown1 hf2 (fun g hg e => by
    obtain ⟨c, hc⟩ := own_tag hown1 hg
    exact ne_tag hc hwn1 (by decide) e)
  have hx : w2.cell? ⟨ob, 0, none⟩ = some (.int .i64 s) ∧ w2.cell? ⟨ob, 1, none⟩ = some (.bool t) ∧ w2.cell? ⟨ob, 2, none⟩ = some (.int .i64 l) := by
    rw [cell_of ho2, cell_of ho2, cell_of ho2]
    exact ⟨rfl, rfl, rfl⟩
  obtain ⟨x0, x1, x2⟩ := hx
  have hf02 : Fr (Tch w wb base) w w2 := tch_trans (tch_new hn1) (tch_wb hf2)
  have hb2 : base ≤ w2.heap.size := Nat.le_trans hb hf02.size
  clear hown1 hwn1 hf2 hn1 hwn hown h0
  have c6 := hwn2.c6
  have f6 := hwn2.free 6
  by_cases hs0 : s = 0
  · subst hs0
    have hfin : EviP wb base ct (.slice ra rl rc) nx xs sm fl tm lm ⟨0, t, l⟩ w (.returned (.tuple #[])) w2 := ⟨rfl, ⟨aa, ac, hwn2, hown2⟩, hf02⟩
    have HF : Hid (EviP wb base ct (.slice ra rl rc) nx xs sm fl tm lm ⟨0, t, l⟩ w (.returned (.tuple #[])) w2) := hfin
    clear hfin hwn2 hown2 hf02 ho2
    go_wp2_with fail
    go_end0
    exact HF.out
  · go_upto_region 3 with fail
    go_cut [4] from 12 to 21 (fun v wx => v = .int .i64 (lb xs l : Nat) ∧ ∃ m, wx = w2.drewN m)
    case first =>
      have h39 := fun m => bsearch_any aa ac xs l (w2.drewN m) (nums_own hown2) hs (by omega)
      have H39 : Hid (∀ m, Calls Try.prog 39 #[.slice aa xs.length ac, .int .i64 l] (w2.drewN m) (BsP xs l (w2.drewN m))) := h39
      clear h39 hwn2 hown2 hf02 ho2
      go_quiet (first | (go_at_call 39; exact Calls.quiet_of_same (H39.out _)))
      go_wp2_with fail
      go_meet
      case rel => exact ⟨rfl, _, rfl⟩
    obtain ⟨rfl, m, rfl⟩ := hcut
    go_upto_region 4 with fail
    have hwn3 : Wn (w2.drewN m) wb ct (.slice ra rl rc) nx (.slice aa xs.length ac) sm (tal fl (-1) (Oc.failed ⟨s, t, l⟩)) (tal tm (-1) t) (tal lm (-1) (s == 429)) := hwn2
    have hown3 : (w2.drewN m).ownsRow base 34 1 (.slice aa xs.length ac) xs.length (xs.map I) := hown2
    have ho3 : (w2.drewN m).heap[ob]? = some (.cells #[.int .i64 s, .bool t, .int .i64 l] 36 (0, 0)) := ho2
    have hf03 : Fr (Tch w wb base) w (w2.drewN m) := hf02.drewN m
    clear hwn2 hown2 ho2 hf02 c6 f6 x0 x1 x2 hb2
    generalize w2.drewN m = w3 at hwn3 hown3 ho3 hf03 ⊢
    have hb3 : base ≤ w3.heap.size := Nat.le_trans hb hf03.size
    have hlb := lb_le l xs
    generalize hfl : tal fl (-1) (Oc.failed ⟨s, t, l⟩) = fl' at hwn3
    generalize htm : tal tm (-1) t = tm' at hwn3
    generalize hlm : tal lm (-1) (s == 429) = lm' at hwn3
    have hpl : lb xs l < xs.length := (List.getElem?_eq_some_iff.1 (hin hs0)).1
    have h41 := delete_any aa ac (lb xs l) base xs w3 hown3 hpl (by omega)
    have H41 : Hid (Calls Try.prog 41 #[.slice aa xs.length ac, .int .i64 (lb xs l : Nat), .int .i64 ((lb xs l : Nat) + 1)] w3 (DelP base (.slice aa xs.length ac) xs (lb xs l) w3)) := h41
    have c6 := hwn3.c6
    have HW : Hid (∀ w4, Fr (fun b => (Value.slice aa xs.length ac).ownBlock = some b) w3 w4 → Wn w4 wb ct (.slice ra rl rc) nx (.slice aa xs.length ac) sm fl' tm' lm' ∧ w4.heap[ob]? = some (.cells #[.int .i64 s, .bool t, .int .i64 l] 36 (0, 0)) ∧ Fr (Tch w wb base) w w4) := fun w4 hf => by
      refine ⟨hwn3.fr hf (fun e => ?_), (hf.block ob (heap_lt ho3) (fun e => ?_)).trans ho3, tch_trans hf03 (tch_own hown3 hf)⟩
      · obtain ⟨c, hc⟩ := own_tag hown3 e
        exact ne_tag hc hwn3 (by decide) rfl
      · obtain ⟨c, hc⟩ := own_tag hown3 e
        exact ne_tag hc ho3 (by decide) rfl
    clear h41 hwn3 hown3 ho3 hf03 hs
    obtain ⟨p, hp⟩ : ∃ p, p = lb xs l := ⟨_, rfl⟩
    rw [← hp] at H41 hlb hpl ⊢
    have HP : Hid (p = lb xs l) := hp
    clear hp hin
    go_upto_region 5 with (go_at_call 41; refine Calls.mono H41.out ?_; rintro e w4 ⟨aa', ac', rfl, k1, k2⟩; obtain ⟨hwn4, ho4, hf4⟩ := HW.out w4 k2; have c6' := hwn4.c6; have f6' := hwn4.free 6)
    have hf5' := fr1 w4 wb 6 (.slice aa' (xs.length - 1) ac')
    have hwn5 := hwn4.s6 (.slice aa' (xs.length - 1) ac')
    have hown5 := own_fr k1 hf5' (fun g hg e => by
      obtain ⟨c, hc⟩ := own_tag k1 hg
      exact ne_tag hc hwn4 (by decide) e)
    have hf5 := tch_trans hf4 (tch_wb hf5')
    have ho5 := (hf5'.block ob (heap_lt ho4) (fun e => hne e.symm)).trans ho4
    generalize w4.setCell ⟨wb, 6, none⟩ (.slice aa' (xs.length - 1) ac') = w5 at hwn5 hown5 hf5 ho5 ⊢
    clear hwn4 ho4 hf4 k1 k2 hf5' c6 c6' f6'
    have c7 := hwn5.c7
    have f7 := hwn5.free 7
    have x2 : w5.cell? ⟨ob, 2, none⟩ = some (.int .i64 l) := by rw [cell_of ho5]; rfl
    have hfin : EviP wb base ct (.slice ra rl rc) nx xs sm fl tm lm ⟨s, t, l⟩ w (.returned (.tuple #[])) ((w5.setCell ⟨wb, 7, none⟩ (.int .i64 (wrap64 (sm - l)))).drew) := by
      have hf6 := fr1 w5 wb 7 (.int .i64 (wrap64 (sm - l)))
      have e1 : eviX ⟨s, t, l⟩ xs = delAt xs p := by rw [HP.out]; unfold eviX; rw [if_neg hs0]
      have e2 : eviS ⟨s, t, l⟩ sm = wrap64 (sm - l) := by unfold eviS; rw [if_neg hs0]
      have e3 : (delAt xs p).length = xs.length - 1 := delAt_length xs p hpl
      refine ⟨rfl, ⟨aa', ac', ?_, ?_⟩, (tch_trans hf5 (tch_wb hf6)).drew⟩
      · rw [e1, e2, e3]
        show Wn (w5.setCell ⟨wb, 7, none⟩ (.int .i64 (wrap64 (sm - l)))) wb ct (.slice ra rl rc) nx (.slice aa' (xs.length - 1) ac') _ (tal fl (-1) (Oc.failed ⟨s, t, l⟩)) (tal tm (-1) t) (tal lm (-1) (s == 429))
        rw [hfl, htm, hlm]
        exact hwn5.s7 _
      · rw [e1, e3]
        exact own_fr hown5 hf6.drew (fun g hg e => by
          obtain ⟨c, hc⟩ := own_tag hown5 hg
          exact ne_tag hc hwn5 (by decide) e)
    have HF : Hid (EviP wb base ct (.slice ra rl rc) nx xs sm fl tm lm ⟨s, t, l⟩ w (.returned (.tuple #[])) ((w5.setCell ⟨wb, 7, none⟩ (.int .i64 (wrap64 (sm - l)))).drew)) := hfin
    clear hfin hwn5 hown5 hf5 ho5 hfl htm hlm
    go_region
    go_wp2_with fail
    go_end0
    exact HF.out
end Go.Proofs.Qxb6612353a
