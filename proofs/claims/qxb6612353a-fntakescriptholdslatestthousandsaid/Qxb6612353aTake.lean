/-
  take: an outcome taken into the window.
-/
import Derived.Test.Qxb6612353aReplace
namespace Go.Proofs.Qxb6612353a
open Go.ChangeShapes Go.WideShapes Go.ChangeAt Go.RowKit Go.Lib
set_option linter.unusedVariables false
set_option linter.unusedSimpArgs false

def flat (os : List Oc) : List Value := os.flatMap Oc.cells
theorem flat_length : ∀ os : List Oc, (flat os).length = os.length * 3
  | [] => rfl
  | o :: os => by
    have := flat_length os
    unfold flat at this ⊢
    rw [List.flatMap_cons, List.length_append, this]
    simp [Oc.cells]
    omega
theorem flat_get : ∀ (os : List Oc) (j : Nat) (o : Oc), os[j]? = some o → (flat os)[j * 3]? = some (.int .i64 o.st) ∧ (flat os)[j * 3 + 1]? = some (.bool o.tm) ∧ (flat os)[j * 3 + 2]? = some (.int .i64 o.lt)
  | [], j, o, h => by simp at h
  | p :: os, 0, o, h => by
    simp at h
    subst h
    exact ⟨rfl, rfl, rfl⟩
  | p :: os, j + 1, o, h => by
    have := flat_get os j o (by simpa using h)
    have e : flat (p :: os) = .int .i64 p.st :: .bool p.tm :: .int .i64 p.lt :: flat os := rfl
    rw [e, show (j + 1) * 3 = j * 3 + 1 + 1 + 1 by omega]
    exact this
theorem flat_append (os qs : List Oc) : flat (os ++ qs) = flat os ++ flat qs := by simp [flat]
theorem info36' : (Try.prog.info? 36).map (fun i => (i.zero, i.size, i.bytes)) = some (some (.agg #[.int .i64 0, .bool false, .int .i64 0]), 3, 24) := by kernel_rfl

/-- The window whole: figures and outcomes. -/
structure St (w : World) (wb base : Nat) (ct : Int) (os : List Oc) (nx : Int) (xs : List Int) (sm fl tm lm : Int) : Prop where
  ok : ∃ ra rc, Fg w wb base ct (.slice ra os.length rc) nx xs sm fl tm lm ∧ w.ownsRow base 36 3 (.slice ra os.length rc) os.length (flat os)

theorem append31 (w : World) (base : Nat) (ra : Option Addr) (rc : Nat) (os : List Oc) (h : w.ownsRow base 36 3 (.slice ra os.length rc) os.length (flat os)) (hn : os.length ≤ 100000) (hb : base ≤ w.heap.size) (o : Oc) :
    ∃ ra' rc' w', (Builtin.append_ #[31, 31] 31 #[.slice ra os.length rc, .slice (some ⟨w.heap.size, 0, none⟩) 1 1]).run Try.prog (w.alloc (.cells #[.int .i64 o.st, .bool o.tm, .int .i64 o.lt] 36)) = .ok (.slice ra' (os.length + 1) rc') w' ∧ w'.ownsRow base 36 3 (.slice ra' (os.length + 1) rc') (os.length + 1) (flat (os ++ [o])) ∧ Fr (fun b => (Value.slice ra os.length rc).ownBlock = some b) (w.alloc (.cells #[.int .i64 o.st, .bool o.tm, .int .i64 o.lt] 36)) w' := by
  obtain ⟨i0, hi, hz0, hz1, hz2⟩ := info_parts info36'
  have h' := h.alloc (.cells #[.int .i64 o.st, .bool o.tm, .int .i64 o.lt] 36)
  obtain ⟨v', w', h1, h2, h3, _⟩ := run_append_own (P := Try.prog) (w.alloc (.cells #[.int .i64 o.st, .bool o.tm, .int .i64 o.lt] 36)) base 31 31 36 i0 _ 3 24 Try.underlying31 hi hz0 hz1 hz2 rfl (by decide) _ os.length (flat os) h' ⟨w.heap.size, 0, none⟩ 1 1 o.cells rfl (by
    intro j u hj
    rw [Addr.add_lit, cell_of (heap_new w _)]
    rw [Nat.zero_add]
    simpa [Oc.cells] using hj) (by
    intro u hu
    simp [Oc.cells] at hu
    rcases hu with rfl | rfl | rfl <;> rfl) (by unfold maxLen; omega) (by omega) (by rw [size_alloc]; omega)
  obtain ⟨ra', rc', rfl⟩ : ∃ ra' rc', v' = .slice ra' (os.length + 1) rc' := by
    rcases h2.2 with ⟨_, hh⟩ | ⟨g, cap, cur, rfl, _⟩
    · omega
    · exact ⟨_, _, rfl⟩
  refine ⟨ra', rc', w', h1, ?_, fr_grown h3⟩
  rw [flat_append]
  simpa [flat] using h2

def TakP (wb base : Nat) (ct : Int) (os : List Oc) (nx : Int) (xs : List Int) (sm fl tm lm : Int) (w : World) (e : Ending) (w' : World) : Prop :=
  e = .returned (.tuple #[]) ∧ St w' wb base ct os nx xs sm fl tm lm ∧ Fr (fun b => base ≤ b ∨ b = wb) w w'
theorem base_tch {w w' : World} {wb base : Nat} (h : Fr (Tch w wb base) w w') : Fr (fun b => base ≤ b ∨ b = wb) w w' := h.mono (fun b _ hb => by
  rcases hb with hb | hb
  · exact .inr hb
  · exact .inl hb.1)
theorem base_wb {w w' : World} {wb base : Nat} (h : Fr (fun b => b = wb) w w') : Fr (fun b => base ≤ b ∨ b = wb) w w' := h.mono (fun _ _ h => .inr h)
theorem base_new {w w' : World} {wb base : Nat} (h : New w w') : Fr (fun b => base ≤ b ∨ b = wb) w w' := h.mono (fun _ _ h => h.elim)

set_option maxRecDepth 100000 in
set_option maxHeartbeats 2000000 in
theorem take_push {wb base : Nat} {ct : Int} {os : List Oc} {nx : Int} {xs : List Int} {sm fl tm lm : Int} (o : Oc) (ho : o.ok) (w : World) (h : St w wb base ct os nx xs sm fl tm lm) (hs : Sorted xs) (hn : xs.length ≤ 1000) (hl : os.length < 1000) (hc : 0 ≤ ct ∧ ct ≤ 100000)
    (hb : base ≤ w.heap.size) (h1 : 0 ≤ fl ∧ fl ≤ 1000) (h2 : 0 ≤ tm ∧ tm ≤ 1000) (h3 : 0 ≤ lm ∧ lm ≤ 1000) :
    Calls Try.prog 33 #[ptr wb, o.val] w (TakP wb base (ct + 1) (os ++ [o]) nx (admX o xs) (admS o sm) (tal fl 1 o.failed) (tal tm 1 o.tm) (tal lm 1 (o.st == 429)) w) := by
  obtain ⟨ra, rc, ⟨aa, ac, hwn, hown⟩, hrec⟩ := h
  have hlt := hwn.lt
  have h35 := fun w ra rc (h : Fg w wb base (ct + 1) (.slice ra (os.length + 1) rc) nx xs sm fl tm lm) (hb : base ≤ w.heap.size) => admit_any o ho w h hs hn hb h1 h2 h3
  have hap := fun (w : World) h hb => append31 w base ra rc os h (by omega) hb o
  have hpost : ∀ e w', TakP wb base (ct + 1) (os ++ [o]) nx (admX o xs) (admS o sm) (tal fl 1 o.failed) (tal tm 1 o.tm) (tal lm 1 (o.st == 429)) w e w' = (e = .returned (.tuple #[]) ∧ St w' wb base (ct + 1) (os ++ [o]) nx (admX o xs) (admS o sm) (tal fl 1 o.failed) (tal tm 1 o.tm) (tal lm 1 (o.st == 429)) ∧ Fr (fun b => base ≤ b ∨ b = wb) w w') := fun _ _ => rfl
  have hA : ∀ e w6 w7, AdmP wb base (ct + 1) e nx xs sm fl tm lm o w6 (.returned (.tuple #[])) w7 → Fg w7 wb base (ct + 1) e nx (admX o xs) (admS o sm) (tal fl 1 o.failed) (tal tm 1 o.tm) (tal lm 1 (o.st == 429)) ∧ Fr (Tch w6 wb base) w6 w7 := fun _ _ _ h => h.2
  generalize admX o xs = xs' at hpost hA ⊢
  generalize admS o sm = sm' at hpost hA ⊢
  generalize tal fl 1 o.failed = fl' at hpost hA ⊢
  generalize tal tm 1 o.tm = tm' at hpost hA ⊢
  generalize tal lm 1 (o.st == 429) = lm' at hpost hA ⊢
  have hval : o.val = .agg #[.int .i64 o.st, .bool o.tm, .int .i64 o.lt] := rfl
  rw [hval] at h35 ⊢
  obtain ⟨s, hs'⟩ : ∃ s, s = o.st := ⟨_, rfl⟩
  obtain ⟨t, ht'⟩ : ∃ t, t = o.tm := ⟨_, rfl⟩
  obtain ⟨l, hl'⟩ : ∃ l, l = o.lt := ⟨_, rfl⟩
  rw [← hs', ← ht', ← hl'] at h35 ⊢
  simp only [← hs', ← ht', ← hl'] at hap
  have HAP : Hid _ := hap
  have H35 : Hid _ := h35
  have HA : Hid _ := hA
  have HPOST : Hid _ := hpost
  clear hap h35 hA hpost hval hs' ht' hl'
  have h0 := heap_new w (.cells #[.int .i64 s, .bool t, .int .i64 l] 36)
  have hn1 : New w (w.alloc (.cells #[.int .i64 s, .bool t, .int .i64 l] 36)) := (Fr.refl _ _).alloc _
  unfold ptr
  go_enter Try.func33, Try.ntmps33
  go_upto_region 1 with fail
  obtain ⟨ob, hob⟩ : ∃ x, x = w.heap.size := ⟨_, rfl⟩
  rw [← hob] at h0 hlt ⊢
  have hne : wb ≠ ob := by omega
  have hobn : ¬ (Value.slice ra os.length rc).ownBlock = some ob := fun e => by
    have := (hrec.lt ob e).2
    omega
  clear hob
  generalize w.alloc (.cells #[.int .i64 s, .bool t, .int .i64 l] 36) = w1 at h0 hn1 ⊢
  have hwn1 := hwn.fr hn1 (fun h => h)
  have c3 := hwn1.c3
  have f3 := hwn1.free 3
  have c4 := hwn1.c4
  have hli : (os.length : Int) < 1000 := by omega
  go_upto_region 3 with fail
  have hfs := fr1 w1 wb 3 (.int .i64 (ct + 1))
  have hwn2 := hwn1.s3 (ct + 1)
  have hown2 := own_fr (own_fr hown hn1 (fun _ _ h => h)) hfs (fun g hg e => by
    obtain ⟨c, hc⟩ := own_tag (own_fr hown hn1 (fun _ _ h => h)) hg
    exact ne_tag hc hwn1 (by decide) e)
  have hrec2 := own_fr (own_fr hrec hn1 (fun _ _ h => h)) hfs (fun g hg e => by
    obtain ⟨c, hc⟩ := own_tag (own_fr hrec hn1 (fun _ _ h => h)) hg
    exact ne_tag hc hwn1 (by decide) e)
  have ho2 := (hfs.block ob (heap_lt h0) (fun e => hne e.symm)).trans h0
  have hf2 : Fr (fun b => base ≤ b ∨ b = wb) w (w1.setCell ⟨wb, 3, none⟩ (.int .i64 (ct + 1))) := (base_new hn1).trans (base_wb hfs)
  generalize w1.setCell ⟨wb, 3, none⟩ (.int .i64 (ct + 1)) = w2 at hwn2 hown2 hrec2 ho2 hf2 ⊢
  clear hfs c3 f3 c4 hwn1 hwn hown hrec h0 hn1
  have hb2 : base ≤ w2.heap.size := Nat.le_trans hb hf2.size
  obtain ⟨ra', rc', w3, hrun, hrec3, hf3⟩ := HAP.out w2.drew hrec2 hb2
  have hfa : New w2 (w2.drew.alloc (.cells #[.int .i64 s, .bool t, .int .i64 l] 36)) := (Fr.refl _ _).drew.alloc _
  have hnob : ∀ (b : Nat) (c : Array Value) (ty : TypeId), w2.heap[b]? = some (.cells c ty (0, 0)) → ty ≠ 36 → ¬ (Value.slice ra os.length rc).ownBlock = some b := fun b c ty hc hty e => by
    obtain ⟨d, hd⟩ := own_tag hrec2 e
    exact ne_tag hc hd hty rfl
  have hwn3 := (hwn2.fr hfa (fun h => h)).fr hf3 (hnob _ _ _ hwn2 (by decide))
  have hown3 := own_fr (own_fr hown2 hfa (fun _ _ h => h)) hf3 (fun g hg => by
    obtain ⟨c, hc⟩ := own_tag hown2 hg
    exact hnob _ _ _ hc (by decide))
  have ho2a := (hfa.block ob (heap_lt ho2) (fun h => h)).trans ho2
  have ho3 := (hf3.block ob (heap_lt ho2a) hobn).trans ho2a
  have hfr3 : Fr (fun b => base ≤ b ∨ b = wb) w w3 := (hf2.trans (base_new hfa)).trans (hf3.mono (fun b _ hb => .inl (hrec2.lt b hb).1))
  have hl1 := hwn2.lt
  have hl2 := heap_lt ho2
  have c4 := hwn2.c4
  have d4 := hwn3.c4
  have g4 := hwn3.free 4
  have hx : w2.cell? ⟨ob, 0, none⟩ = some (.int .i64 s) ∧ w2.cell? ⟨ob, 1, none⟩ = some (.bool t) ∧ w2.cell? ⟨ob, 2, none⟩ = some (.int .i64 l) := by
    rw [cell_of ho2, cell_of ho2, cell_of ho2]
    exact ⟨rfl, rfl, rfl⟩
  obtain ⟨x0, x1, x2⟩ := hx
  have HRUN : Hid _ := hrun
  go_cut [3] from 5 to 27 (fun v wx => v = .pointer (some ⟨ob, 0, none⟩) ∧ wx = w3.setCell ⟨wb, 4, none⟩ (.slice ra' (os.length + 1) rc'))
  case first =>
    clear hwn2 hown2 hrec2 hf2 hfa hnob hwn3 hown3 hrec3 hf3 ho2 ho2a ho3 hfr3 hrun HAP H35 HA HPOST hobn
    go_region_law (refine step_append_run rfl _ _ 31 31 rfl _ _ (by simp [Act.eval, Act.put]) (by simp [Act.eval, Act.put]) HRUN.out ?_)
    all_goals
      go_wp2_with fail
      go_meet
      case rel => exact ⟨rfl, rfl⟩
  obtain ⟨rfl, rfl⟩ := hcut
  have hfs4 := fr1 w3 wb 4 (.slice ra' (os.length + 1) rc')
  have hwn4 := hwn3.s4 (.slice ra' (os.length + 1) rc')
  have hown4 := own_fr hown3 hfs4 (fun g hg e => by
    obtain ⟨c, hc⟩ := own_tag hown3 hg
    exact ne_tag hc hwn3 (by decide) e)
  have hrec4 := own_fr hrec3 hfs4 (fun g hg e => by
    obtain ⟨c, hc⟩ := own_tag hrec3 hg
    exact ne_tag hc hwn3 (by decide) e)
  have ho4 := (hfs4.block ob (heap_lt ho3) (fun e => hne e.symm)).trans ho3
  have hf4 := hfr3.trans (base_wb hfs4)
  generalize w3.setCell ⟨wb, 4, none⟩ (.slice ra' (os.length + 1) rc') = w4 at hwn4 hown4 hrec4 ho4 hf4 ⊢
  clear hfs4 hwn2 hown2 hrec2 hf2 hfa hnob hwn3 hown3 hrec3 hf3 ho2 ho2a ho3 hfr3 hrun HRUN HAP c4 d4 g4 x0 x1 x2 hl1 hl2 hb2
  have hb4 : base ≤ w4.heap.size := Nat.le_trans hb hf4.size
  have hx : w4.cell? ⟨ob, 0, none⟩ = some (.int .i64 s) ∧ w4.cell? ⟨ob, 1, none⟩ = some (.bool t) ∧ w4.cell? ⟨ob, 2, none⟩ = some (.int .i64 l) := by
    rw [cell_of ho4, cell_of ho4, cell_of ho4]
    exact ⟨rfl, rfl, rfl⟩
  obtain ⟨x0, x1, x2⟩ := hx
  have h35' := H35.out w4 ra' rc' ⟨aa, ac, hwn4, hown4⟩ hb4
  unfold ptr at h35'
  have H35' : Hid _ := h35'
  have hdone : ∀ w5, AdmP wb base (ct + 1) (.slice ra' (os.length + 1) rc') nx xs sm fl tm lm o w4 (.returned (.tuple #[])) w5 → TakP wb base (ct + 1) (os ++ [o]) nx xs' sm' fl' tm' lm' w (.returned (.tuple #[])) w5 := fun w5 hadm => by
    obtain ⟨hfg, htch⟩ := HA.out _ _ _ hadm
    have hl5 : (os ++ [o]).length = os.length + 1 := by simp
    refine ⟨rfl, ⟨ra', rc', by rw [hl5]; exact hfg, ?_⟩, hf4.trans (base_tch htch)⟩
    rw [hl5]
    refine own_fr hrec4 htch (fun g hg ht => ?_)
    obtain ⟨c, hc⟩ := own_tag hrec4 hg
    rcases ht with ht | ⟨_, d, hd⟩
    · exact ne_tag hc hwn4 (by decide) ht
    · exact ne_tag hc hd (by decide) rfl
  have HD : Hid (∀ w5, AdmP wb base (ct + 1) (.slice ra' (os.length + 1) rc') nx xs sm fl tm lm o w4 (.returned (.tuple #[])) w5 → TakP wb base (ct + 1) (os ++ [o]) nx xs' sm' fl' tm' lm' w (.returned (.tuple #[])) w5) := hdone
  clear hdone h35' H35 HA HPOST hwn4 hown4 hrec4 ho4 hf4
  go_wp2_with (go_at_call 35; refine Calls.mono H35'.out ?_; rintro e w5 hadm; have he := hadm.1; subst he)
  go_end0
  exact HD.out _ hadm
end Go.Proofs.Qxb6612353a
