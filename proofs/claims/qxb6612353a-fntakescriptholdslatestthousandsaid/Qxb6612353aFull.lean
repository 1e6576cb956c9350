/-
  take where the window is full.
-/
import Derived.Test.Qxb6612353aTake
namespace Go.Proofs.Qxb6612353a
open Go.ChangeShapes Go.WideShapes Go.ChangeAt Go.RowKit Go.Lib
set_option linter.unusedVariables false
set_option linter.unusedSimpArgs false

theorem own36 {w : World} {base n rc : Nat} {ra : Option Addr} {xs : List Value} (h : w.ownsRow base 36 3 (.slice ra n rc) n xs) (hn : 0 < n) :
    ∃ b cur, ra = some ⟨b, 0, none⟩ ∧ base ≤ b ∧ w.heap[b]? = some (.cells cur 36 (0, 0)) ∧ n ≤ rc ∧ rc ≤ maxLen ∧ cur.size = rc * 3 ∧ cur.toList.take (n * 3) = xs := by
  rcases h.2 with ⟨_, hh⟩ | ⟨g, cap, cur, hh, h1, h2, h3, h4, h5, h6⟩
  · omega
  · simp at hh
    obtain ⟨rfl, rfl⟩ := hh
    exact ⟨g, cur, rfl, h1, h2, h3, h4, h5, h6⟩

theorem flat_set : ∀ (os : List Oc) (j : Nat) (o : Oc), j < os.length → flat (os.set j o) = (((flat os).set (j * 3) (.int .i64 o.st)).set (j * 3 + 1) (.bool o.tm)).set (j * 3 + 2) (.int .i64 o.lt)
  | [], j, o, h => by simp at h
  | p :: os, 0, o, h => rfl
  | p :: os, j + 1, o, h => by
    have ih := flat_set os j o (by simpa using h)
    have e1 : flat (p :: os) = .int .i64 p.st :: .bool p.tm :: .int .i64 p.lt :: flat os := rfl
    have e2 : flat ((p :: os).set (j + 1) o) = .int .i64 p.st :: .bool p.tm :: .int .i64 p.lt :: flat (os.set j o) := rfl
    rw [e1, e2, ih, show (j + 1) * 3 = j * 3 + 1 + 1 + 1 by omega]
    rfl

theorem own_set36 {w : World} {base rb rc : Nat} {os : List Oc} (h : w.ownsRow base 36 3 (.slice (some ⟨rb, 0, none⟩) os.length rc) os.length (flat os)) (j : Nat) (hj : j < os.length) (o : Oc) :
    (((w.setCell ⟨rb, j * 3, none⟩ (.int .i64 o.st)).setCell ⟨rb, j * 3 + 1, none⟩ (.bool o.tm)).setCell ⟨rb, j * 3 + 2, none⟩ (.int .i64 o.lt)).ownsRow base 36 3 (.slice (some ⟨rb, 0, none⟩) os.length rc) os.length (flat (os.set j o)) := by
  obtain ⟨b, cur, hb, h1, h2, h3, h4, h5, h6⟩ := own36 h (by omega)
  cases hb
  have h7 := heap_setCell (heap_setCell (heap_setCell h2 (j * 3) (.int .i64 o.st)) (j * 3 + 1) (.bool o.tm)) (j * 3 + 2) (.int .i64 o.lt)
  have hl := flat_length (os.set j o)
  rw [List.length_set] at hl
  refine ⟨hl, .inr ⟨rb, rc, _, rfl, h1, h7, h3, h4, by simpa using h5, ?_⟩⟩
  rw [Array.toList_setIfInBounds, Array.toList_setIfInBounds, Array.toList_setIfInBounds, List.take_set, List.take_set, List.take_set, h6]
  exact (flat_set os j o hj).symm

theorem tch36 {w w' : World} {wb base b : Nat} {c cw : Array Value} (hf : Fr (Tch w wb base) w w') (hw : w.heap[wb]? = some (.cells cw 67 (0, 0))) (h : w.heap[b]? = some (.cells c 36 (0, 0))) : w'.heap[b]? = some (.cells c 36 (0, 0)) := by
  refine (hf.block b (heap_lt h) (fun ht => ?_)).trans h
  rcases ht with ht | ⟨_, d, hd⟩
  · exact ne_tag h hw (by decide) ht
  · exact ne_tag h hd (by decide) rfl
theorem own_tch36 {w w' : World} {wb base n : Nat} {v : Value} {xs : List Value} {cw : Array Value} (hf : Fr (Tch w wb base) w w') (hw : w.heap[wb]? = some (.cells cw 67 (0, 0))) (h : w.ownsRow base 36 3 v n xs) : w'.ownsRow base 36 3 v n xs :=
  own_fr h hf (fun g hg ht => by
    obtain ⟨c, hc⟩ := own_tag h hg
    rcases ht with ht | ⟨_, d, hd⟩
    · exact ne_tag hc hw (by decide) ht
    · exact ne_tag hc hd (by decide) rfl)

def fullX (o ev : Oc) (xs : List Int) : List Int := if ev.st = 0 ∨ o.st = 0 then admX o (eviX ev xs) else repX xs (lb xs ev.lt) (lb xs o.lt) o.lt
def fullS (o ev : Oc) (sm : Int) : Int := if ev.st = 0 ∨ o.st = 0 then admS o (eviS ev sm) else wrap64 (sm + wrap64 (o.lt - ev.lt))

set_option maxRecDepth 100000 in
set_option maxHeartbeats 2000000 in
theorem take_full {wb base : Nat} {ct : Int} {os : List Oc} {nx : Nat} {xs : List Int} {sm fl tm lm : Int} (o ev : Oc) (ho : o.ok) (w : World) (h : St w wb base ct os nx xs sm fl tm lm) (hl : os.length = 1000) (hnx : nx < 1000) (hev : os[nx]? = some ev) (hc : 0 ≤ ct ∧ ct ≤ 100000)
    (hb : base ≤ w.heap.size) (hs : Sorted xs) (hn : xs.length ≤ 1000) (hevo : ev.ok) (hin : ev.st ≠ 0 → xs[lb xs ev.lt]? = some ev.lt) (hs2 : Sorted (eviX ev xs))
    (h1 : 0 ≤ fl ∧ fl ≤ 1000) (h2 : 0 ≤ tm ∧ tm ≤ 1000) (h3 : 0 ≤ lm ∧ lm ≤ 1000) (k1 : 0 ≤ tal fl (-1) ev.failed ∧ tal fl (-1) ev.failed ≤ 1000) (k2 : 0 ≤ tal tm (-1) ev.tm ∧ tal tm (-1) ev.tm ≤ 1000) (k3 : 0 ≤ tal lm (-1) (ev.st == 429) ∧ tal lm (-1) (ev.st == 429) ≤ 1000) :
    Calls Try.prog 33 #[ptr wb, o.val] w (TakP wb base (ct + 1) (os.set nx o) (((nx : Int) + 1) % 1000) (fullX o ev xs) (fullS o ev sm) (tal (tal fl (-1) ev.failed) 1 o.failed) (tal (tal tm (-1) ev.tm) 1 o.tm) (tal (tal lm (-1) (ev.st == 429)) 1 (o.st == 429)) w) := by
  obtain ⟨ra, rc, ⟨aa, ac, hwn, hown⟩, hrec⟩ := h
  obtain ⟨rb, cur, rfl, hrb, hcur, hrn, hrm, hcs, htk⟩ := own36 hrec (by omega)
  have hlt := hwn.lt
  have hval : o.val = .agg #[.int .i64 o.st, .bool o.tm, .int .i64 o.lt] := rfl
  rw [hval]
  have h0 := heap_new w (.cells #[.int .i64 o.st, .bool o.tm, .int .i64 o.lt] 36)
  have hn1 : New w (w.alloc (.cells #[.int .i64 o.st, .bool o.tm, .int .i64 o.lt] 36)) := (Fr.refl _ _).alloc _
  unfold ptr
  go_enter Try.func33, Try.ntmps33
  go_upto_region 1 with fail
  obtain ⟨ob, hob⟩ : ∃ x, x = w.heap.size := ⟨_, rfl⟩
  rw [← hob] at h0 hlt ⊢
  have hne : wb ≠ ob := by omega
  have hrl := heap_lt hcur
  have hro : rb ≠ ob := by omega
  clear hob
  generalize w.alloc (.cells #[.int .i64 o.st, .bool o.tm, .int .i64 o.lt] 36) = w1 at h0 hn1 ⊢
  have hwn1 := hwn.fr hn1 (fun h => h)
  have c3 := hwn1.c3
  have f3 := hwn1.free 3
  have c4 := hwn1.c4
  have c5 := hwn1.c5
  have hli : ¬ ((os.length : Int) < 1000) := by omega
  go_upto_region 5 with fail
  have hfs := fr1 w1 wb 3 (.int .i64 (ct + 1))
  have hwn2 := hwn1.s3 (ct + 1)
  have hown2 := own_fr (own_fr hown hn1 (fun _ _ h => h)) hfs (fun g hg e => by
    obtain ⟨c, hc⟩ := own_tag (own_fr hown hn1 (fun _ _ h => h)) hg
    exact ne_tag hc hwn1 (by decide) e)
  have hrec2 := own_fr (own_fr hrec hn1 (fun _ _ h => h)) hfs (fun g hg e => by
    obtain ⟨c, hc⟩ := own_tag (own_fr hrec hn1 (fun _ _ h => h)) hg
    exact ne_tag hc hwn1 (by decide) e)
  have ho2 := (hfs.block ob (heap_lt h0) (fun e => hne e.symm)).trans h0
  have hf2 : Fr (fun b => base ≤ b ∨ b = wb) w (w1.setCell ⟨wb, 3, none⟩ (.int .i64 (ct + 1))) := (base_new hn1).trans (base_wb hfs)
  generalize w1.setCell ⟨wb, 3, none⟩ (.int .i64 (ct + 1)) = w2 at hwn2 hown2 hrec2 ho2 hf2 ⊢
  clear hfs c3 f3 c4 c5 hwn1 hwn hown hrec h0 hn1 hcur hrl htk hcs hrm hrn
  obtain ⟨rb', cur, hrb', _, hcur, hrn, hrm, hcs, htk⟩ := own36 hrec2 (by omega)
  cases hrb'
  have hcells : w2.cell? ⟨rb, nx * 3, none⟩ = some (.int .i64 ev.st) ∧ w2.cell? ⟨rb, nx * 3 + 1, none⟩ = some (.bool ev.tm) ∧ w2.cell? ⟨rb, nx * 3 + 2, none⟩ = some (.int .i64 ev.lt) := by
    obtain ⟨q0, q1, q2⟩ := flat_get os nx ev hev
    rw [← htk] at q0 q1 q2
    rw [List.getElem?_take, if_pos (by omega)] at q0 q1 q2
    rw [cell_of hcur, cell_of hcur, cell_of hcur]
    exact ⟨by simpa using q0, by simpa using q1, by simpa using q2⟩
  obtain ⟨e0, e1, e2⟩ := hcells
  have c4 := hwn2.c4
  have c5 := hwn2.c5
  have hl1 := hwn2.lt
  have hl2 := heap_lt ho2
  have hl3 := heap_lt hcur
  have hz : (zeroValue 36).run Try.prog w2.drew = .ok (.agg #[.int .i64 0, .bool false, .int .i64 0]) w2.drew := by kernel_rfl
  have hnxi : (nx : Int) < (os.length : Int) := by omega
  have hnxj : (nx : Int) < 1000 := by omega
  go_cut [4] from 5 to 40 (fun v wx => v = .pointer (some ⟨w2.heap.size, 0, none⟩) ∧ wx = w2.drew.alloc (.cells #[.int .i64 ev.st, .bool ev.tm, .int .i64 ev.lt] 36))
  case first =>
    clear hwn2 hown2 hrec2 hf2 ho2 hcur hrm hcs htk
    go_region
    all_goals
      go_wp2_with fail
      go_meet
      case rel => exact ⟨rfl, rfl⟩
  obtain ⟨rfl, rfl⟩ := hcut
  go_upto_region 6 with fail
  have hfa : New w2 (w2.drew.alloc (.cells #[.int .i64 ev.st, .bool ev.tm, .int .i64 ev.lt] 36)) := (Fr.refl _ _).drew.alloc _
  have hwn3 := hwn2.fr hfa (fun h => h)
  have hown3 := own_fr hown2 hfa (fun _ _ h => h)
  have hrec3 := own_fr hrec2 hfa (fun _ _ h => h)
  have ho3 := (hfa.block ob (heap_lt ho2) (fun h => h)).trans ho2
  have hcur3 := (hfa.block rb hl3 (fun h => h)).trans hcur
  have he3 : (w2.drew.alloc (.cells #[.int .i64 ev.st, .bool ev.tm, .int .i64 ev.lt] 36)).heap[w2.heap.size]? = some (.cells #[.int .i64 ev.st, .bool ev.tm, .int .i64 ev.lt] 36 (0, 0)) := heap_new w2.drew _
  have hf3 := hf2.trans (base_new hfa)
  obtain ⟨eb, heb⟩ : ∃ x, x = w2.heap.size := ⟨_, rfl⟩
  rw [← heb] at he3 hl1 hl2 hl3 ⊢
  have hew : wb ≠ eb := by omega
  have heo : ob ≠ eb := by omega
  have her : rb ≠ eb := by omega
  generalize w2.drew.alloc (.cells #[.int .i64 ev.st, .bool ev.tm, .int .i64 ev.lt] 36) = w3 at hwn3 hown3 hrec3 ho3 hcur3 he3 hf3 ⊢
  clear hfa hwn2 hown2 hrec2 ho2 hf2 hcur c4 c5 e0 e1 e2 hl1 hl2 hl3 heb hz
  have c4 := hwn3.c4
  have c5 := hwn3.c5
  have hx : w3.cell? ⟨ob, 0, none⟩ = some (.int .i64 o.st) ∧ w3.cell? ⟨ob, 1, none⟩ = some (.bool o.tm) ∧ w3.cell? ⟨ob, 2, none⟩ = some (.int .i64 o.lt) := by
    rw [cell_of ho3, cell_of ho3, cell_of ho3]
    exact ⟨rfl, rfl, rfl⟩
  obtain ⟨x0, x1, x2⟩ := hx
  have hcells : w3.cell? ⟨rb, nx * 3, none⟩ = some (.int .i64 ev.st) ∧ w3.cell? ⟨rb, nx * 3 + 1, none⟩ = some (.bool ev.tm) ∧ w3.cell? ⟨rb, nx * 3 + 2, none⟩ = some (.int .i64 ev.lt) := by
    obtain ⟨q0, q1, q2⟩ := flat_get os nx ev hev
    rw [← htk] at q0 q1 q2
    rw [List.getElem?_take, if_pos (by omega)] at q0 q1 q2
    rw [cell_of hcur3, cell_of hcur3, cell_of hcur3]
    exact ⟨by simpa using q0, by simpa using q1, by simpa using q2⟩
  obtain ⟨e0, e1, e2⟩ := hcells
  have g0 : w3.frozen? ⟨rb, nx * 3, none⟩ = false := by simp [World.frozen?, hcur3]
  have g1 : w3.frozen? ⟨rb, nx * 3 + 1, none⟩ = false := by simp [World.frozen?, hcur3]
  have g2 : w3.frozen? ⟨rb, nx * 3 + 2, none⟩ = false := by simp [World.frozen?, hcur3]
  go_cut [4] from 5 to 50 (fun v wx => v = .pointer (some ⟨eb, 0, none⟩) ∧ wx = (((w3.setCell ⟨rb, nx * 3, none⟩ (.int .i64 o.st)).setCell ⟨rb, nx * 3 + 1, none⟩ (.bool o.tm)).setCell ⟨rb, nx * 3 + 2, none⟩ (.int .i64 o.lt)).drew)
  case first =>
    clear hwn3 hown3 hrec3 hf3 ho3 hcur3 hrm hcs htk he3
    go_region
    all_goals
      go_wp2_with fail
      go_meet
      case rel => exact ⟨rfl, rfl⟩
  obtain ⟨rfl, rfl⟩ := hcut
  have hfr : Fr (fun y => y = rb) w3 (((w3.setCell ⟨rb, nx * 3, none⟩ (.int .i64 o.st)).setCell ⟨rb, nx * 3 + 1, none⟩ (.bool o.tm)).setCell ⟨rb, nx * 3 + 2, none⟩ (.int .i64 o.lt)).drew := (((fr1 w3 rb _ _).trans (fr1 _ rb _ _)).trans (fr1 _ rb _ _)).drew
  have hrec4 : ((((w3.setCell ⟨rb, nx * 3, none⟩ (.int .i64 o.st)).setCell ⟨rb, nx * 3 + 1, none⟩ (.bool o.tm)).setCell ⟨rb, nx * 3 + 2, none⟩ (.int .i64 o.lt)).drew).ownsRow base 36 3 (.slice (some ⟨rb, 0, none⟩) os.length rc) os.length (flat (os.set nx o)) := own_set36 hrec3 nx (by omega) o
  have hwr : wb ≠ rb := ne_tag hwn3 hcur3 (by decide)
  have hwn4 := hwn3.fr hfr hwr
  have hown4 := own_fr hown3 hfr (fun g hg e => by
    obtain ⟨c, hc⟩ := own_tag hown3 hg
    exact ne_tag hc hcur3 (by decide) e)
  have ho4 := (hfr.block ob (heap_lt ho3) (fun e => hro e.symm)).trans ho3
  have he4 := (hfr.block eb (heap_lt he3) (fun e => her e.symm)).trans he3
  have hf4 := hf3.trans (hfr.mono (T := fun b => base ≤ b ∨ b = wb) (fun y _ hy => .inl (by omega)))
  generalize (((w3.setCell ⟨rb, nx * 3, none⟩ (.int .i64 o.st)).setCell ⟨rb, nx * 3 + 1, none⟩ (.bool o.tm)).setCell ⟨rb, nx * 3 + 2, none⟩ (.int .i64 o.lt)).drew = w4 at hrec4 hwn4 hown4 ho4 he4 hf4 ⊢
  clear hfr hwn3 hown3 hrec3 ho3 he3 hf3 hcur3 c4 c5 x0 x1 x2 e0 e1 e2 g0 g1 g2
  have c5 := hwn4.c5
  have f5 := hwn4.free 5
  have hnx2 : (0 : Int) ≤ (nx : Int) + 1 := by omega
  go_upto_region 8 with fail
  have hfs5 := fr1 w4 wb 5 (.int .i64 (((nx : Int) + 1) % 1000))
  have hwn5 := hwn4.s5 (((nx : Int) + 1) % 1000)
  have hown5 := own_fr hown4 hfs5 (fun g hg e => by
    obtain ⟨c, hc⟩ := own_tag hown4 hg
    exact ne_tag hc hwn4 (by decide) e)
  have hrec5 := own_fr hrec4 hfs5 (fun g hg e => by
    obtain ⟨c, hc⟩ := own_tag hrec4 hg
    exact ne_tag hc hwn4 (by decide) e)
  have ho5 := (hfs5.block ob (heap_lt ho4) (fun e => hne e.symm)).trans ho4
  have he5 := (hfs5.block eb (heap_lt he4) (fun e => hew e.symm)).trans he4
  have hf5 := hf4.trans (base_wb hfs5)
  generalize w4.setCell ⟨wb, 5, none⟩ (.int .i64 (((nx : Int) + 1) % 1000)) = w5 at hwn5 hown5 hrec5 ho5 he5 hf5 ⊢
  clear hfs5 hwn4 hown4 hrec4 ho4 he4 hf4 c5 f5
  have hb5 : base ≤ w5.heap.size := Nat.le_trans hb hf5.size
  have hx : w5.cell? ⟨ob, 0, none⟩ = some (.int .i64 o.st) ∧ w5.cell? ⟨ob, 1, none⟩ = some (.bool o.tm) ∧ w5.cell? ⟨ob, 2, none⟩ = some (.int .i64 o.lt) := by
    rw [cell_of ho5, cell_of ho5, cell_of ho5]
    exact ⟨rfl, rfl, rfl⟩
  obtain ⟨x0, x1, x2⟩ := hx
  have hy : w5.cell? ⟨eb, 0, none⟩ = some (.int .i64 ev.st) ∧ w5.cell? ⟨eb, 1, none⟩ = some (.bool ev.tm) ∧ w5.cell? ⟨eb, 2, none⟩ = some (.int .i64 ev.lt) := by
    rw [cell_of he5, cell_of he5, cell_of he5]
    exact ⟨rfl, rfl, rfl⟩
  obtain ⟨y0, y1, y2⟩ := hy
  have hlo : (os.set nx o).length = os.length := by simp
  by_cases hA : ev.st = 0 ∨ o.st = 0
  · have h36 := evict_any ev hevo w5 ⟨aa, ac, hwn5, hown5⟩ hs hn hb5 h1 h2 h3 hin
    unfold ptr Oc.val at h36
    have H36 : Hid (Calls Try.prog 36 #[.pointer (some ⟨wb, 0, none⟩), .agg #[.int .i64 ev.st, .bool ev.tm, .int .i64 ev.lt]] w5 (EviP wb base (ct + 1) (.slice (some ⟨rb, 0, none⟩) os.length rc) (((nx : Int) + 1) % 1000) xs sm fl tm lm ev w5)) := h36
    have hxl : (eviX ev xs).length ≤ 1000 := by
      unfold eviX
      split
      · exact hn
      · rename_i h0
        have := (List.getElem?_eq_some_iff.1 (hin h0)).1
        rw [delAt_length _ _ this]
        omega
    have H35 : Hid (∀ w6, EviP wb base (ct + 1) (.slice (some ⟨rb, 0, none⟩) os.length rc) (((nx : Int) + 1) % 1000) xs sm fl tm lm ev w5 (.returned (.tuple #[])) w6 →
        Calls Try.prog 35 #[.pointer (some ⟨wb, 0, none⟩), .agg #[.int .i64 o.st, .bool o.tm, .int .i64 o.lt]] w6 (TakP wb base (ct + 1) (os.set nx o) (((nx : Int) + 1) % 1000) (fullX o ev xs) (fullS o ev sm) (tal (tal fl (-1) ev.failed) 1 o.failed) (tal (tal tm (-1) ev.tm) 1 o.tm) (tal (tal lm (-1) (ev.st == 429)) 1 (o.st == 429)) w) ∧ w6.heap[ob]? = some (.cells #[.int .i64 o.st, .bool o.tm, .int .i64 o.lt] 36 (0, 0))) := fun w6 ⟨_, hfg6, hf6⟩ => by
      refine ⟨(admit_any o ho w6 hfg6 hs2 hxl (Nat.le_trans hb5 hf6.size) k1 k2 k3).mono ?_, tch36 hf6 hwn5 ho5⟩
      rintro e w7 ⟨rfl, hfg7, hf7⟩
      obtain ⟨aa6, ac6, hwn6, _⟩ := hfg6
      refine ⟨rfl, ⟨some ⟨rb, 0, none⟩, rc, ?_, ?_⟩, hf5.trans ((base_tch hf6).trans (base_tch hf7))⟩
      · rw [hlo]
        unfold fullX fullS
        rw [if_pos hA, if_pos hA]
        exact hfg7
      · rw [hlo]
        exact own_tch36 hf7 hwn6 (own_tch36 hf6 hwn5 hrec5)
    clear h36 hwn5 hown5 hrec5 ho5 he5 hf5 hin
    clear hs hs2 h1 h2 h3 k1 k2 k3 hev htk
    by_cases hz : ev.st = 0
    · have hz1 : (ev.st == 0) = true := by rw [hz]; rfl
      clear hz hA
      go_wp2_with (first | (go_at_call 36; refine Calls.mono H36.out ?_; rintro e w6 hev6; have he := hev6.1; subst he; obtain ⟨hc35, ho6⟩ := H35.out _ hev6; have z0 : w6.cell? ⟨ob, 0, none⟩ = some (.int .i64 o.st) := (by rw [cell_of ho6]; rfl); have z1 : w6.cell? ⟨ob, 1, none⟩ = some (.bool o.tm) := (by rw [cell_of ho6]; rfl); have z2 : w6.cell? ⟨ob, 2, none⟩ = some (.int .i64 o.lt) := (by rw [cell_of ho6]; rfl); clear hev6 ho6) | (go_at_call 35; refine Calls.mono hc35 ?_; rintro e w7 hp; have he := hp.1; subst he))
      go_end0
      exact hp
    · have hz0 : (ev.st == 0) = false := by simp [hz]
      have hz1 : (o.st == 0) = true := by
        rcases hA with hA | hA
        · exact absurd hA hz
        · rw [hA]; rfl
      clear hz hA
      go_wp2_with (first | (go_at_call 36; refine Calls.mono H36.out ?_; rintro e w6 hev6; have he := hev6.1; subst he; obtain ⟨hc35, ho6⟩ := H35.out _ hev6; have z0 : w6.cell? ⟨ob, 0, none⟩ = some (.int .i64 o.st) := (by rw [cell_of ho6]; rfl); have z1 : w6.cell? ⟨ob, 1, none⟩ = some (.bool o.tm) := (by rw [cell_of ho6]; rfl); have z2 : w6.cell? ⟨ob, 2, none⟩ = some (.int .i64 o.lt) := (by rw [cell_of ho6]; rfl); clear hev6 ho6) | (go_at_call 35; refine Calls.mono hc35 ?_; rintro e w7 hp; have he := hp.1; subst he))
      go_end0
      exact hp
  · have hes : ev.st ≠ 0 := fun e => hA (.inl e)
    have H37a : Hid (Calls Try.prog 37 #[.pointer (some ⟨wb, 0, none⟩), .agg #[.int .i64 ev.st, .bool ev.tm, .int .i64 ev.lt], .int .i64 (-1)] w5 (TallyP wb (ct + 1) (.slice (some ⟨rb, 0, none⟩) os.length rc) (((nx : Int) + 1) % 1000) (.slice aa xs.length ac) sm fl tm lm ev (-1) w5)) := tally_any ev (-1) w5 hwn5 (by omega) h1 h2 h3
    have H37b : Hid (∀ w6, TallyP wb (ct + 1) (.slice (some ⟨rb, 0, none⟩) os.length rc) (((nx : Int) + 1) % 1000) (.slice aa xs.length ac) sm fl tm lm ev (-1) w5 (.returned (.tuple #[])) w6 →
        Calls Try.prog 37 #[.pointer (some ⟨wb, 0, none⟩), .agg #[.int .i64 o.st, .bool o.tm, .int .i64 o.lt], .int .i64 1] w6 (TallyP wb (ct + 1) (.slice (some ⟨rb, 0, none⟩) os.length rc) (((nx : Int) + 1) % 1000) (.slice aa xs.length ac) sm (tal fl (-1) ev.failed) (tal tm (-1) ev.tm) (tal lm (-1) (ev.st == 429)) o 1 w6) ∧ w6.heap[ob]? = some (.cells #[.int .i64 o.st, .bool o.tm, .int .i64 o.lt] 36 (0, 0))) := fun w6 ⟨_, hw6, hf6⟩ =>
      ⟨tally_any o 1 w6 hw6 (by omega) k1 k2 k3, (hf6.block ob (heap_lt ho5) (fun e => hne e.symm)).trans ho5⟩
    have H38 : Hid (∀ w6 w7, TallyP wb (ct + 1) (.slice (some ⟨rb, 0, none⟩) os.length rc) (((nx : Int) + 1) % 1000) (.slice aa xs.length ac) sm fl tm lm ev (-1) w5 (.returned (.tuple #[])) w6 → TallyP wb (ct + 1) (.slice (some ⟨rb, 0, none⟩) os.length rc) (((nx : Int) + 1) % 1000) (.slice aa xs.length ac) sm (tal fl (-1) ev.failed) (tal tm (-1) ev.tm) (tal lm (-1) (ev.st == 429)) o 1 w6 (.returned (.tuple #[])) w7 →
        Calls Try.prog 38 #[.pointer (some ⟨wb, 0, none⟩), .int .i64 ev.lt, .int .i64 o.lt] w7 (TakP wb base (ct + 1) (os.set nx o) (((nx : Int) + 1) % 1000) (fullX o ev xs) (fullS o ev sm) (tal (tal fl (-1) ev.failed) 1 o.failed) (tal (tal tm (-1) ev.tm) 1 o.tm) (tal (tal lm (-1) (ev.st == 429)) 1 (o.st == 429)) w)) := fun w6 w7 ⟨_, hw6, hf6⟩ ⟨_, hw7, hf7⟩ => by
      have hno : ∀ {u u' : World} {v : Value} {n : Nat} {ys : List Value} {cw : Array Value} {e : TypeId} {sz : Nat}, Fr (fun b => b = wb) u u' → u.heap[wb]? = some (.cells cw 67 (0, 0)) → e ≠ 67 → u.ownsRow base e sz v n ys → u'.ownsRow base e sz v n ys := fun hf hw he ho => own_fr ho hf (fun g hg eq => by
        obtain ⟨c, hc⟩ := own_tag ho hg
        exact ne_tag hc hw he eq)
      have hown7 := hno hf7 hw6 (by decide) (hno hf6 hwn5 (by decide) hown5)
      have hrec7 := hno hf7 hw6 (by decide) (hno hf6 hwn5 (by decide) hrec5)
      refine (replace_any ev.lt o.lt w7 ⟨aa, ac, hw7, hown7⟩ hs hn (hin hes)).mono ?_
      rintro e w8 ⟨rfl, hfg8, hf8⟩
      refine ⟨rfl, ⟨some ⟨rb, 0, none⟩, rc, ?_, ?_⟩, hf5.trans ((base_wb hf6).trans ((base_wb hf7).trans (base_tch hf8)))⟩
      · rw [hlo]
        unfold fullX fullS
        rw [if_neg hA, if_neg hA]
        exact hfg8
      · rw [hlo]
        exact own_tch36 hf8 hw7 hrec7
    have hz0 : (ev.st == 0) = false := by simp [hes]
    have hz1 : (o.st == 0) = false := by
      have : o.st ≠ 0 := fun e => hA (.inr e)
      simp [this]
    have HT : Hid (∀ w6, TallyP wb (ct + 1) (.slice (some ⟨rb, 0, none⟩) os.length rc) (((nx : Int) + 1) % 1000) (.slice aa xs.length ac) sm fl tm lm ev (-1) w5 (.returned (.tuple #[])) w6 → w6.heap[eb]? = some (.cells #[.int .i64 ev.st, .bool ev.tm, .int .i64 ev.lt] 36 (0, 0))) := fun w6 ⟨_, hw6, hf6⟩ => (hf6.block eb (heap_lt he5) (fun e => hew e.symm)).trans he5
    clear hA hes hwn5 hown5 hrec5 ho5 he5 hf5 hin hs hs2 h1 h2 h3 k1 k2 k3 hev htk
    go_upto_region 12 with (go_at_call 37; refine Calls.mono H37a.out ?_; rintro e w6 ht6; have he := ht6.1; subst he)
    obtain ⟨hc37, ho6⟩ := H37b.out _ ht6
    have he6 := HT.out _ ht6
    have z0 : w6.cell? ⟨ob, 0, none⟩ = some (.int .i64 o.st) := by rw [cell_of ho6]; rfl
    have z1 : w6.cell? ⟨ob, 1, none⟩ = some (.bool o.tm) := by rw [cell_of ho6]; rfl
    have z2 : w6.cell? ⟨ob, 2, none⟩ = some (.int .i64 o.lt) := by rw [cell_of ho6]; rfl
    go_upto_region 13 with (go_at_call 37; refine Calls.mono hc37 ?_; rintro e w7 ht7; have he := ht7.1; subst he)
    have hf7 := ht7.2.2
    have ho7 := (hf7.block ob (heap_lt ho6) (fun e => hne e.symm)).trans ho6
    have he7 := (hf7.block eb (heap_lt he6) (fun e => hew e.symm)).trans he6
    have a2 : w7.cell? ⟨ob, 2, none⟩ = some (.int .i64 o.lt) := by rw [cell_of ho7]; rfl
    have b2 : w7.cell? ⟨eb, 2, none⟩ = some (.int .i64 ev.lt) := by rw [cell_of he7]; rfl
    have hc38 := H38.out _ _ ht6 ht7
    clear ht6 ht7 hf7 ho6 he6 ho7 he7 hc37
    go_wp2_with (go_at_call 38; refine Calls.mono hc38 ?_; rintro e w8 hp; have he := hp.1; subst he)
    go_end0
    exact hp
end Go.Proofs.Qxb6612353a
