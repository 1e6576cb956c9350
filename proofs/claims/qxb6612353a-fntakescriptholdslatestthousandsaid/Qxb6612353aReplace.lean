/-
  replace: one latency in place of another.
-/
import Derived.Test.Qxb6612353aEvict
namespace Go.Proofs.Qxb6612353a
open Go.ChangeShapes Go.WideShapes Go.ChangeAt Go.RowKit Go.Lib
set_option linter.unusedVariables false
set_option linter.unusedSimpArgs false

/-- The row behind replace. -/
def repX (xs : List Int) (f p : Nat) (x : Int) : List Int :=
  if f < p then xs.take f ++ (xs.drop (f + 1)).take (p - 1 - f) ++ x :: xs.drop p else xs.take p ++ x :: ((xs.drop p).take (f - p) ++ xs.drop (f + 1))
theorem repA_get (xs : List Int) (f q : Nat) (x : Int) (hq : f ≤ q) (hl : q < xs.length) (j : Nat) : (repX xs f (q + 1) x)[j]? = if j < f then xs[j]? else if j < q then xs[j + 1]? else if j = q then some x else xs[j]? := by
  unfold repX
  rw [if_pos (by omega), show q + 1 - 1 - f = q - f by omega]
  have l1 : (xs.take f ++ (xs.drop (f + 1)).take (q - f)).length = q := by simp; omega
  by_cases e1 : j < q
  · rw [List.getElem?_append_left (by omega)]
    by_cases e2 : j < f
    · rw [if_pos e2, List.getElem?_append_left (by simp; omega), List.getElem?_take, if_pos e2]
    · rw [if_neg e2, if_pos e1, List.getElem?_append_right (by simp; omega), List.getElem?_take, List.getElem?_drop]
      have l2 : (xs.take f).length = f := by simp; omega
      rw [l2, if_pos (by omega)]
      congr 1
      omega
  · rw [if_neg (by omega), if_neg e1, List.getElem?_append_right (by omega), l1]
    by_cases e3 : j = q
    · rw [if_pos e3, e3]
      simp
    · rw [if_neg e3, show j - q = (j - q - 1) + 1 by omega, List.getElem?_cons_succ, List.getElem?_drop]
      congr 1
      omega
theorem repB_get (xs : List Int) (f p : Nat) (x : Int) (hq : p ≤ f) (hl : f < xs.length) (j : Nat) : (repX xs f p x)[j]? = if j < p then xs[j]? else if j = p then some x else if j ≤ f then xs[j - 1]? else xs[j]? := by
  unfold repX
  rw [if_neg (by omega)]
  have l1 : (xs.take p).length = p := by simp; omega
  by_cases e1 : j < p
  · rw [if_pos e1, List.getElem?_append_left (by omega), List.getElem?_take, if_pos e1]
  · rw [if_neg e1, List.getElem?_append_right (by omega), l1]
    by_cases e2 : j = p
    · rw [if_pos e2, e2]
      simp
    · have l2 : ((xs.drop p).take (f - p)).length = f - p := by simp; omega
      rw [if_neg e2, show j - p = (j - p - 1) + 1 by omega, List.getElem?_cons_succ]
      by_cases e3 : j ≤ f
      · rw [if_pos e3, List.getElem?_append_left (by omega), List.getElem?_take, if_pos (by omega), List.getElem?_drop]
        congr 1
        omega
      · rw [if_neg e3, List.getElem?_append_right (by omega), l2, List.getElem?_drop]
        congr 1
        omega
theorem rep_length (xs : List Int) (f p : Nat) (x : Int) (hf : f < xs.length) (hp : p ≤ xs.length) : (repX xs f p x).length = xs.length := by
  unfold repX
  split
  · simp; omega
  · simp; omega

def RepP (wb base : Nat) (ct : Int) (rv : Value) (nx : Int) (xs : List Int) (sm fl tm lm : Int) (old new : Int) (w : World) (e : Ending) (w' : World) : Prop :=
  e = .returned (.tuple #[]) ∧ Fg w' wb base ct rv nx (repX xs (lb xs old) (lb xs new) new) (wrap64 (sm + wrap64 (new - old))) fl tm lm ∧ Fr (Tch w wb base) w w'

set_option maxRecDepth 100000 in
set_option maxHeartbeats 2000000 in
theorem replace_any {wb base : Nat} {ct : Int} {ra : Option Addr} {rl rc : Nat} {nx : Int} {xs : List Int} {sm fl tm lm : Int} (old new : Int) (w : World) (h : Fg w wb base ct (.slice ra rl rc) nx xs sm fl tm lm) (hs : Sorted xs) (hn : xs.length ≤ 1000)
    (hin : xs[lb xs old]? = some old) :
    Calls Try.prog 38 #[ptr wb, .int .i64 old, .int .i64 new] w (RepP wb base ct (.slice ra rl rc) nx xs sm fl tm lm old new w) := by
  obtain ⟨aa, ac, hwn, hown⟩ := h
  have hlt := hwn.lt
  have hfl : lb xs old < xs.length := (List.getElem?_eq_some_iff.1 hin).1
  obtain ⟨b, cur, rfl, hbb, hcur, hnc, hcm, hcs, htk⟩ := own34 hown (by omega)
  have hwb : wb ≠ b := ne_tag hwn hcur (by decide)
  have H1 : Hid (Calls Try.prog 39 #[.slice (some ⟨b, 0, none⟩) xs.length ac, .int .i64 old] w (BsP xs old w)) := bsearch_any _ ac xs old w (nums_own hown) hs (by omega)
  have H2 : Hid (Calls Try.prog 39 #[.slice (some ⟨b, 0, none⟩) xs.length ac, .int .i64 new] w (BsP xs new w)) := bsearch_any _ ac xs new w (nums_own hown) hs (by omega)
  have hpl := lb_le new xs
  have c6 := hwn.c6
  have c7 := hwn.c7
  have f7 := hwn.free 7
  have htk' : ∀ (j : Nat) (x : Int), xs[j]? = some x → cur[j]? = some (I x) := fun j x hj => by
    have hjl := (List.getElem?_eq_some_iff.1 hj).1
    have : (cur.toList.take xs.length)[j]? = (xs.map I)[j]? := by rw [htk]
    rw [List.getElem?_take, if_pos hjl, List.getElem?_map, hj] at this
    simpa using this
  have hbl := heap_lt hcur
  -- the end, from the row's cells
  have hfin : ∀ (W : World) (c2 : Array Value), W.heap[b]? = some (.cells c2 34 (0, 0)) → c2.size = ac → (∀ j, j < xs.length → c2[j]? = ((repX xs (lb xs old) (lb xs new) new)[j]?).map I) → Wn W wb ct (.slice ra rl rc) nx (.slice (some ⟨b, 0, none⟩) xs.length ac) sm fl tm lm → Fr (Tch w wb base) w W →
      RepP wb base ct (.slice ra rl rc) nx xs sm fl tm lm old new w (.returned (.tuple #[])) (W.setCell ⟨wb, 7, none⟩ (.int .i64 (wrap64 (sm + wrap64 (new - old))))) := fun W c2 hc2 hsz hget hW hf => by
    have hl := rep_length xs (lb xs old) (lb xs new) new hfl hpl
    have hf7 := fr1 W wb 7 (.int .i64 (wrap64 (sm + wrap64 (new - old))))
    refine ⟨rfl, ⟨some ⟨b, 0, none⟩, ac, by rw [hl]; exact hW.s7 _, ?_⟩, tch_trans hf (tch_wb hf7)⟩
    rw [hl]
    refine ⟨by simpa using hl, .inr ⟨b, ac, c2, rfl, hbb, (hf7.block b (heap_lt hc2) (fun e => hwb e.symm)).trans hc2, hnc, hcm, by simpa using hsz, ?_⟩⟩
    rw [Nat.mul_one]
    apply List.ext_getElem?
    intro j
    by_cases hj : j < xs.length
    · rw [List.getElem?_take, if_pos hj, List.getElem?_map]
      simpa using hget j hj
    · rw [List.getElem?_eq_none (by simp; omega), List.getElem?_eq_none (by simp; omega)]
  have HFIN : Hid _ := hfin
  clear hfin hin hs hown htk
  unfold ptr
  go_enter Try.func38, Try.ntmps38
  go_upto_region 1 with (go_at_call 39; refine Calls.mono H1.out ?_; rintro e wz ⟨rfl, hz⟩; rw [hz]; clear hz)
  go_upto_region 2 with (go_at_call 39; refine Calls.mono H2.out ?_; rintro e wz ⟨rfl, hz⟩; rw [hz]; clear hz)
  clear H1 H2
  generalize (decide (xs[lb xs old]? = some old)) = b1
  generalize (decide (xs[lb xs new]? = some new)) = b2
  generalize lb xs old = f at *
  generalize lb xs new = p at *
  have hci : ¬ ac = f := by omega
  by_cases hfp : f < p
  · obtain ⟨q, rfl⟩ : ∃ q, p = q + 1 := ⟨p - 1, by omega⟩
    obtain ⟨vs, hvs⟩ : ∃ vs, vs = ((xs.drop (f + 1)).take (q - f)).map I := ⟨_, rfl⟩
    have hvl : vs.length = q - f := by rw [hvs]; simp; omega
    have hvg : ∀ j, j < q - f → vs[j]? = (xs[f + 1 + j]?).map I := fun j hj => by
      rw [hvs, List.getElem?_map, List.getElem?_take, if_pos hj, List.getElem?_drop]
    have hcell : ∀ j, j < ac → (w.cell? ⟨b, j, none⟩).isSome = true := fun j hj => by
      rw [cell_of hcur, Array.getElem?_eq_getElem (by omega)]; rfl
    have hfz : ∀ j, w.frozen? ⟨b, j, none⟩ = false := fun j => by simp [World.frozen?, hcur]
    have hcp : ∀ ty (ad : Addr), (f < q → ad = ⟨b, f + 1, none⟩) → ∀ dc sc, (Builtin.copy_ #[52, 52] ty #[.slice (some ⟨b, f, none⟩) (q - f) dc, .slice (some ad) (q - f) sc]).run Try.prog w.drew = .ok (goInt vs.length) (w.drew.setCells b f vs) := fun ty ad had dc sc =>
      run_copy_cells w.drew _ _ ty 34 b f (q - f) dc ad (q - f) sc vs Try.underlying52 size34 (by rw [hvl]; simp)
        (fun j v hj => by
          have hjl := (List.getElem?_eq_some_iff.1 hj).1
          rw [had (by omega), Addr.add_lit]
          show w.cell? _ = _
          rw [cell_of hcur]
          rw [hvg j (by omega)] at hj
          cases hx : xs[f + 1 + j]? with
          | none => rw [hx] at hj; cases hj
          | some x =>
            rw [hx] at hj
            cases hj
            exact htk' _ _ hx)
        (fun j hj => hcell _ (by omega)) (fun j hj => hfz _) (fun v hv => by
          rw [hvs] at hv
          obtain ⟨y, _, rfl⟩ := List.mem_map.1 hv
          rfl)
    obtain ⟨W1, hW1⟩ : ∃ W1, W1 = w.drew.setCells b f vs := ⟨_, rfl⟩
    rw [← hW1] at hcp
    obtain ⟨c1, hc1, hs1⟩ := heap_setCells (b := b) vs f w.drew cur hcur
    rw [← hW1] at hc1
    have hfr1 : Fr (fun y => y = b) w W1 := by rw [hW1]; exact fr_setCells (fun y => y = b) b rfl _ _ (Fr.refl _ _).drew
    have hwn1 := hwn.fr hfr1 hwb
    have hc1g : ∀ j, j < xs.length → c1[j]? = if f ≤ j ∧ j < q then (xs[j + 1]?).map I else (xs[j]?).map I := fun j hj => by
      rw [← cell_of hc1, hW1]
      by_cases e : f ≤ j ∧ j < q
      · rw [if_pos e]
        have := World.cell?_setCells_in b vs f w.drew (fun k hk => hcell _ (by omega)) (j - f) (by omega)
        rw [show f + (j - f) = j by omega] at this
        rw [this, ← List.getElem?_eq_getElem, hvg _ (by omega)]
        congr 2
        omega
      · rw [if_neg e, World.cell?_setCells_out b _ _ _ _ (fun _ _ => by show j < f ∨ f + vs.length ≤ j; omega)]
        show w.cell? _ = _
        rw [cell_of hcur]
        have hx : xs[j]? = some (xs[j]'hj) := List.getElem?_eq_getElem hj
        rw [htk' j _ hx, hx]
        rfl
    have hq1 : ∃ v, W1.cell? ⟨b, q, none⟩ = some v := by
      rw [cell_of hc1, Array.getElem?_eq_getElem (by omega)]
      exact ⟨_, rfl⟩
    obtain ⟨vq, hvq⟩ := hq1
    have hfq : W1.frozen? ⟨b, q, none⟩ = false := by simp [World.frozen?, hc1]
    have d6 := hwn1.c6
    have d7 := hwn1.c7
    have g7 := hwn1.free 7
    have hend : RepP wb base ct (.slice ra rl rc) nx xs sm fl tm lm old new w (.returned (.tuple #[])) ((W1.setCell ⟨b, q, none⟩ (.int .i64 new)).setCell ⟨wb, 7, none⟩ (.int .i64 (wrap64 (sm + wrap64 (new - old))))) := by
      have hfr2 := fr1 W1 b q (.int .i64 new)
      refine HFIN.out _ _ (heap_setCell hc1 q (.int .i64 new)) (by simp; omega) (fun j hj => ?_) (hwn1.fr hfr2 hwb) (((hfr1.trans hfr2)).mono (fun y _ hy => .inr ⟨by omega, cur, by rw [hy]; exact hcur⟩))
      rw [repA_get xs f q new (by omega) (by omega) j, Array.getElem?_setIfInBounds]
      by_cases e1 : q = j
      · subst e1
        rw [if_pos rfl, if_pos (by omega), if_neg (by omega), if_neg (by omega), if_pos rfl]
        rfl
      · rw [if_neg e1, hc1g j hj]
        by_cases e2 : j < f
        · rw [if_neg (by omega), if_pos e2]
        · by_cases e3 : j < q
          · rw [if_pos ⟨by omega, e3⟩, if_neg e2, if_pos e3]
          · rw [if_neg (by omega), if_neg e2, if_neg e3, if_neg (Ne.symm e1)]
    have HEND : Hid (RepP wb base ct (.slice ra rl rc) nx xs sm fl tm lm old new w (.returned (.tuple #[])) ((W1.setCell ⟨b, q, none⟩ (.int .i64 new)).setCell ⟨wb, 7, none⟩ (.int .i64 (wrap64 (sm + wrap64 (new - old)))))) := hend
    have hq2 : q + 1 ≤ ac := by omega
    have hq3 : (q : Int) + 1 ≤ (ac : Int) := by omega
    have hq4 : (f : Int) + 1 ≤ (q : Int) + 1 := by omega
    have hq5 : (f : Int) ≤ (q : Int) := by omega
    have hq6 : (q : Int) ≤ (ac : Int) := by omega
    have hq7 : (0 : Int) ≤ (f : Int) + 1 := by omega
    have hq8 : (0 : Int) ≤ (q : Int) + 1 := by omega
    have hq9 : ((f : Int) + 1).toNat = f + 1 := by omega
    have hq10 : ((q : Int) + 1).toNat = q + 1 := by omega
    have hq11 : (q : Int) < (xs.length : Int) := by omega
    have hq12 : f ≤ q := by omega
    have hq13 : IntKind.i64.wrap ((f : Int) + 1) = (f : Int) + 1 := by rw [IntKind.wrap_i64]; omega
    have hq14 : IntKind.i64.wrap ((q : Int) + 1) = (q : Int) + 1 := by rw [IntKind.wrap_i64]; omega
    have hq15 : q ≤ ac := by omega
    clear hend hc1g hwn1 hfr1 hc1 hs1 hW1 hcell hfz hvg hvs HFIN htk' hwn hcur hcs hbl hlt hnc hcm hbb
    by_cases hcf : ac = f + 1
    · obtain rfl : f = q := by omega
      subst hcf
      have hcp' := hcp 3 ⟨b, 0, none⟩ (fun h => absurd h (by omega))
      clear hcp
      have hii : (f : Int) ≤ (f : Int) + 1 := by omega
      simp only [Nat.sub_self] at hcp'
      go_upto_region 4 with fail
      go_region_law (refine step_copy_runI rfl _ _ 52 52 rfl _ _ (by simp [Act.eval, Act.put]) (by simp [Act.eval, Act.put]) (hcp' _ _) ?_)
      all_goals
        go_wp2_with fail
        go_end0
        exact HEND.out
    · have hcp' := hcp 3 ⟨b, f + 1, none⟩ (fun _ => rfl)
      clear hcp
      go_upto_region 4 with fail
      go_region_law (refine step_copy_runI rfl _ _ 52 52 rfl _ _ (by simp [Act.eval, Act.put]) (by simp [Act.eval, Act.put]) (hcp' _ _) ?_)
      all_goals
        go_wp2_with fail
        go_end0
        exact HEND.out
  · obtain ⟨vs, hvs⟩ : ∃ vs, vs = ((xs.drop p).take (f - p)).map I := ⟨_, rfl⟩
    have hvl : vs.length = f - p := by rw [hvs]; simp; omega
    have hvg : ∀ j, j < f - p → vs[j]? = (xs[p + j]?).map I := fun j hj => by
      rw [hvs, List.getElem?_map, List.getElem?_take, if_pos hj, List.getElem?_drop]
    have hcell : ∀ j, j < ac → (w.cell? ⟨b, j, none⟩).isSome = true := fun j hj => by
      rw [cell_of hcur, Array.getElem?_eq_getElem (by omega)]; rfl
    have hfz : ∀ j, w.frozen? ⟨b, j, none⟩ = false := fun j => by simp [World.frozen?, hcur]
    have hcp : ∀ ty (dd : Nat), (p < f → dd = p + 1) → ∀ dc sc, (Builtin.copy_ #[52, 52] ty #[.slice (some ⟨b, dd, none⟩) (f - p) dc, .slice (some ⟨b, p, none⟩) (f - p) sc]).run Try.prog w.drew = .ok (goInt vs.length) (w.drew.setCells b (p + 1) vs) := fun ty dd hdd dc sc => by
      have e : w.drew.setCells b (p + 1) vs = w.drew.setCells b dd vs := by
        by_cases hlt : p < f
        · rw [hdd hlt]
        · have : vs = [] := List.length_eq_zero_iff.1 (by omega)
          rw [this]
          rfl
      rw [e]
      exact run_copy_cells w.drew _ _ ty 34 b dd (f - p) dc ⟨b, p, none⟩ (f - p) sc vs Try.underlying52 size34 (by rw [hvl]; simp)
        (fun j v hj => by
          have hjl := (List.getElem?_eq_some_iff.1 hj).1
          rw [Addr.add_lit]
          show w.cell? _ = _
          rw [cell_of hcur]
          rw [hvg j (by omega)] at hj
          cases hx : xs[p + j]? with
          | none => rw [hx] at hj; cases hj
          | some x =>
            rw [hx] at hj
            cases hj
            exact htk' _ _ hx)
        (fun j hj => by rw [hdd (by omega)]; exact hcell _ (by omega)) (fun j hj => hfz _) (fun v hv => by
          rw [hvs] at hv
          obtain ⟨y, _, rfl⟩ := List.mem_map.1 hv
          rfl)
    obtain ⟨W1, hW1⟩ : ∃ W1, W1 = w.drew.setCells b (p + 1) vs := ⟨_, rfl⟩
    rw [← hW1] at hcp
    obtain ⟨c1, hc1, hs1⟩ := heap_setCells (b := b) vs (p + 1) w.drew cur hcur
    rw [← hW1] at hc1
    have hfr1 : Fr (fun y => y = b) w W1 := by rw [hW1]; exact fr_setCells (fun y => y = b) b rfl _ _ (Fr.refl _ _).drew
    have hwn1 := hwn.fr hfr1 hwb
    have hc1g : ∀ j, j < xs.length → c1[j]? = if p < j ∧ j ≤ f then (xs[j - 1]?).map I else (xs[j]?).map I := fun j hj => by
      rw [← cell_of hc1, hW1]
      by_cases e : p < j ∧ j ≤ f
      · rw [if_pos e]
        have := World.cell?_setCells_in b vs (p + 1) w.drew (fun k hk => hcell _ (by omega)) (j - (p + 1)) (by omega)
        rw [show p + 1 + (j - (p + 1)) = j by omega] at this
        rw [this, ← List.getElem?_eq_getElem, hvg _ (by omega)]
        congr 2
        omega
      · rw [if_neg e, World.cell?_setCells_out b _ _ _ _ (fun _ _ => by show j < p + 1 ∨ p + 1 + vs.length ≤ j; omega)]
        show w.cell? _ = _
        rw [cell_of hcur]
        have hx : xs[j]? = some (xs[j]'hj) := List.getElem?_eq_getElem hj
        rw [htk' j _ hx, hx]
        rfl
    have hq1 : ∃ v, W1.cell? ⟨b, p, none⟩ = some v := by
      rw [cell_of hc1, Array.getElem?_eq_getElem (by omega)]
      exact ⟨_, rfl⟩
    obtain ⟨vq, hvq⟩ := hq1
    have hfq : W1.frozen? ⟨b, p, none⟩ = false := by simp [World.frozen?, hc1]
    have d6 := hwn1.c6
    have d7 := hwn1.c7
    have g7 := hwn1.free 7
    have hend : RepP wb base ct (.slice ra rl rc) nx xs sm fl tm lm old new w (.returned (.tuple #[])) ((W1.setCell ⟨b, p, none⟩ (.int .i64 new)).setCell ⟨wb, 7, none⟩ (.int .i64 (wrap64 (sm + wrap64 (new - old))))) := by
      have hfr2 := fr1 W1 b p (.int .i64 new)
      refine HFIN.out _ _ (heap_setCell hc1 p (.int .i64 new)) (by simp; omega) (fun j hj => ?_) (hwn1.fr hfr2 hwb) (((hfr1.trans hfr2)).mono (fun y _ hy => .inr ⟨by omega, cur, by rw [hy]; exact hcur⟩))
      rw [repB_get xs f p new (by omega) (by omega) j, Array.getElem?_setIfInBounds]
      by_cases e1 : p = j
      · subst e1
        rw [if_pos rfl, if_pos (by omega), if_neg (by omega), if_pos rfl]
        rfl
      · rw [if_neg e1, hc1g j hj]
        by_cases e2 : j < p
        · rw [if_neg (by omega), if_pos e2]
        · by_cases e3 : j ≤ f
          · rw [if_pos ⟨by omega, e3⟩, if_neg e2, if_neg (Ne.symm e1), if_pos e3]
          · rw [if_neg (by omega), if_neg e2, if_neg (Ne.symm e1), if_neg e3]
    have HEND : Hid (RepP wb base ct (.slice ra rl rc) nx xs sm fl tm lm old new w (.returned (.tuple #[])) ((W1.setCell ⟨b, p, none⟩ (.int .i64 new)).setCell ⟨wb, 7, none⟩ (.int .i64 (wrap64 (sm + wrap64 (new - old)))))) := hend
    have hq2 : f + 1 ≤ ac := by omega
    have hq3 : (f : Int) + 1 ≤ (ac : Int) := by omega
    have hq4 : (p : Int) + 1 ≤ (f : Int) + 1 := by omega
    have hq5 : (p : Int) ≤ (f : Int) := by omega
    have hq6 : (f : Int) ≤ (ac : Int) := by omega
    have hq7 : (0 : Int) ≤ (f : Int) + 1 := by omega
    have hq8 : (0 : Int) ≤ (p : Int) + 1 := by omega
    have hq9 : ((f : Int) + 1).toNat = f + 1 := by omega
    have hq10 : ((p : Int) + 1).toNat = p + 1 := by omega
    have hq11 : (p : Int) < (xs.length : Int) := by omega
    have hq12 : p ≤ f := by omega
    have hq13 : IntKind.i64.wrap ((f : Int) + 1) = (f : Int) + 1 := by rw [IntKind.wrap_i64]; omega
    have hq14 : IntKind.i64.wrap ((p : Int) + 1) = (p : Int) + 1 := by rw [IntKind.wrap_i64]; omega
    have hq15 : f ≤ ac := by omega
    have hcip : ¬ ac = p := by omega
    have hfpi : ¬ ((f : Int) < (p : Int)) := by omega
    clear hend hc1g hwn1 hfr1 hc1 hs1 hW1 hcell hfz hvg hvs HFIN htk' hwn hcur hcs hbl hlt hnc hcm hbb
    by_cases hcf : ac = p + 1
    · obtain rfl : p = f := by omega
      subst hcf
      have hcp' := hcp 3 0 (fun h => absurd h (by omega))
      clear hcp
      have hii : (p : Int) ≤ (p : Int) + 1 := by omega
      simp only [Nat.sub_self] at hcp'
      go_upto_region 5 with fail
      go_region_law (refine step_copy_runI rfl _ _ 52 52 rfl _ _ (by simp [Act.eval, Act.put]) (by simp [Act.eval, Act.put]) (hcp' _ _) ?_)
      all_goals
        go_wp2_with fail
        go_end0
        exact HEND.out
    · have hcp' := hcp 3 (p + 1) (fun _ => rfl)
      clear hcp
      go_upto_region 5 with fail
      go_region_law (refine step_copy_runI rfl _ _ 52 52 rfl _ _ (by simp [Act.eval, Act.put]) (by simp [Act.eval, Act.put]) (hcp' _ _) ?_)
      all_goals
        go_wp2_with fail
        go_end0
        exact HEND.out
end Go.Proofs.Qxb6612353a
