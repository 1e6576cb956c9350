/-
  figuresAre: the figures handed in are those of the outcomes.
-/
import Derived.Test.Qxb6612353aLat
namespace Go.Proofs.Qxb6612353a
open Go.ChangeShapes Go.WideShapes Go.ChangeAt Go.RowKit
set_option linter.unusedVariables false
set_option linter.unusedSimpArgs false

theorem sumZ_perm {xs ys : List Int} (h : xs.Perm ys) : sumZ xs = sumZ ys := by
  induction h with
  | nil => rfl
  | cons x _ ih => simp [sumZ, ih]
  | swap x y l => simp [sumZ]; omega
  | trans _ _ h1 h2 => exact h1.trans h2

/-- The counts of the first k. -/
def Cnt (last : List Oc) (k a b c : Nat) : Prop := a = (last.take k).countP Oc.failed ∧ b = (last.take k).countP Oc.tm ∧ c = (last.take k).countP (fun o => o.st == 429)
theorem Cnt.step {last : List Oc} {k a b c : Nat} (h : Cnt last k a b c) {o : Oc} (ho : last[k]? = some o) {f t g : Bool} (hf : o.failed = f) (ht : o.tm = t) (hg : (o.st == 429) = g) : Cnt last (k + 1) (a + if f then 1 else 0) (b + if t then 1 else 0) (c + if g then 1 else 0) := by
  obtain ⟨h1, h2, h3⟩ := h
  unfold Cnt
  rw [take_succ_get ho, List.countP_append, List.countP_append, List.countP_append, ← h1, ← h2, ← h3, ← hf, ← ht, ← hg]
  simp [List.countP_cons, List.countP_nil]
theorem Cnt.le {last : List Oc} {k a b c : Nat} (h : Cnt last k a b c) : a ≤ k ∧ b ≤ k ∧ c ≤ k := by
  obtain ⟨h1, h2, h3⟩ := h
  have l1 := List.countP_le_length (p := Oc.failed) (l := last.take k)
  have l2 := List.countP_le_length (p := Oc.tm) (l := last.take k)
  have l3 := List.countP_le_length (p := fun o : Oc => o.st == 429) (l := last.take k)
  rw [List.length_take] at l1 l2 l3
  omega

set_option maxRecDepth 100000 in
set_option maxHeartbeats 2000000 in
theorem figures_any (xa la : Option Addr) (xc lc : Nat) (xs : List Int) (sm fl tm lm : Int) (last : List Oc) (w : World) (hx : NumsL w xa xs) (hl : Outs w la last) (hn : last.length ≤ 1000) (hfig : Fig last xs sm fl tm lm) :
    Calls Try.prog 8 #[.slice xa xs.length xc, .int .i64 sm, .int .i64 fl, .int .i64 tm, .int .i64 lm, .slice la last.length lc] w (RetNew (.bool true) w) := by
  have hxl : xs.length ≤ 1000 := by
    have h1 := hfig.perm.length_eq
    have h2 := ans_le last
    omega
  have hsm : sm = wrap64 (sumZ xs) := by rw [hfig.sm, sumZ_perm hfig.perm]
  obtain ⟨a9, b9, c9, ⟨ha9, hb9, hc9⟩, hfl, htm, hlm⟩ : ∃ a b c : Nat, Cnt last last.length a b c ∧ fl = (a : Int) ∧ tm = (b : Int) ∧ lm = (c : Int) := ⟨_, _, _, by unfold Cnt; rw [List.take_length]; exact ⟨rfl, rfl, rfl⟩, hfig.fl, hfig.tm, hfig.lm⟩
  subst hfl htm hlm
  have HEND : Hid (∀ a b c, Cnt last last.length a b c → a = a9 ∧ b = b9 ∧ c = c9) := fun a b c ⟨h1, h2, h3⟩ => ⟨by omega, by omega, by omega⟩
  have H30 : Hid (Calls Try.prog 30 #[.slice la last.length lc] w (LatP last w)) := answered_any la lc last w hl hn
  have HY : Hid (∀ ys : List Int, Sorted ys → ys.Perm (ans last) → ys = xs) := fun ys h1 h2 => sorted_unique h1 hfig.sorted (h2.trans hfig.perm.symm)
  have H31 : Hid (∀ qa qc w', NumsL w' qa xs → Calls Try.prog 31 #[.slice qa xs.length qc] w' (Is (.int .i64 sm) w')) := fun qa qc w' h => by
    rw [hsm]
    exact sumOf_any qa qc xs w' h (by omega)
  have HX : Hid (∀ w', New w w' → NumsL w' xa xs) := fun w' h => hx.new h
  have HX2 : Hid (∀ (a : Option Addr) (w' : World), NumsL w' a xs → ∀ k, k < xs.length → ∃ x, xs[k]? = some x ∧ ∃ b off, a = some ⟨b, off, none⟩ ∧ w'.cell? ⟨b, off + k, none⟩ = some (.int .i64 x)) := fun a w' h k hk =>
    ⟨_, List.getElem?_eq_getElem hk, h k _ (List.getElem?_eq_getElem hk)⟩
  have HO : Hid (∀ w', New w w' → ∀ k, k < last.length → ∃ o : Oc, last[k]? = some o ∧ ∃ b off, la = some ⟨b, off, none⟩ ∧ ∀ w'', New w' w'' → w''.cell? ⟨b, off + k * 3, none⟩ = some (.int .i64 o.st) ∧ w''.cell? ⟨b, off + k * 3 + 1, none⟩ = some (.bool o.tm) ∧ w''.cell? ⟨b, off + k * 3 + 2, none⟩ = some (.int .i64 o.lt)) := fun w' hw k hk => by
    have hk' : last[k]? = some last[k] := List.getElem?_eq_getElem hk
    obtain ⟨b, off, h1, h2⟩ := (hl.new hw) _ _ hk'
    refine ⟨last[k], hk', b, off, h1, fun w'' hw' => ?_⟩
    obtain ⟨b', off', h1', h2'⟩ := (hl.new (hw.trans hw')) _ _ hk'
    rw [h1] at h1'
    cases h1'
    exact h2'
  have HC0 : Hid (Cnt last 0 0 0 0) := ⟨by simp, by simp, by simp⟩
  clear hx hl hfig ha9 hb9 hc9 hsm
  obtain ⟨n, hnn⟩ : ∃ n, n = last.length := ⟨_, rfl⟩
  obtain ⟨m, hmm⟩ : ∃ m, m = xs.length := ⟨_, rfl⟩
  rw [← hnn] at hn HEND H30 HO ⊢
  rw [← hmm] at hxl H31 HX2 ⊢
  have HM : Hid (m = xs.length) := hmm
  clear hnn hmm
  go_enter Try.func8, Try.ntmps8
  go_upto_region 2 with (go_at_call 30; refine Calls.mono H30.out ?_; rintro e w1 ⟨ys, qa, qc, rfl, hs, hp, hq, hf1⟩; obtain rfl := HY.out ys hs hp; rw [← HM.out])
  have HQ : Hid (∀ w', New w1 w' → NumsL w' qa ys) := fun w' h => hq.new h
  have HF1 : Hid (New w w1) := hf1
  clear hs hp hq hf1 HY H30 HM
  go_upto_block 0 with fail
  go_cut [14] from 26 to 40 (fun i wx => New w1 wx)
  case first =>
    go_wp2_with fail
    go_loopw [14] (fun i wr => ∃ k : Nat, i = .int .i64 k ∧ k ≤ m ∧ New w1 wr) (fun i _ => m - (intOf i).toNat)
    case atStart => exact ⟨0, rfl, by omega, New.refl _⟩
    case round =>
      obtain ⟨k, rfl, hk, hf⟩ := hrel
      by_cases hlt : k < m
      · obtain ⟨x, hxk, b, off, rfl, c1⟩ := HX2.out xa wr (HX.out wr (HF1.out.trans hf)) k hlt
        obtain ⟨y, hyk, b', off', rfl, c2⟩ := HX2.out qa wr (HQ.out wr hf) k hlt
        rw [hxk] at hyk
        cases hyk
        have HG : Hid (New w1 wr) := hf
        clear hf hxk HX2 HX HQ HO H31 HEND
        go_upto_region 7 with fail
        go_quiet (fail)
        go_wp2_with fail
        go_roundw
        case rel => exact ⟨k + 1, by go_num, by omega, HG.out.drewN _⟩
        case measure => simp [intOf]; omega
      · obtain rfl : k = m := by omega
        clear HX2 HX HQ HO H31 HEND
        go_wp2_with fail
        go_meet
        case rel => exact hf
  have hf2 : New w wc := HF1.out.trans hcut
  have H31' : Hid (Calls Try.prog 31 #[.slice qa m qc] wc (Is (.int .i64 sm) wc)) := H31.out qa qc wc (HQ.out wc hcut)
  clear H31 HQ HF1 hcut HX HX2
  have HF2 : Hid (New w wc) := hf2
  clear hf2
  go_upto_block 2 with (go_at_call 31; refine Calls.mono H31'.out ?_; rintro e w3 ⟨rfl, rfl⟩)
  clear H31'
  go_wp2_with fail
  go_loopw [15, 16, 17, 18] (fun x y z i wr => ∃ k a b c : Nat, i = .int .i64 k ∧ x = .int .i64 a ∧ y = .int .i64 b ∧ z = .int .i64 c ∧ k ≤ n ∧ Cnt last k a b c ∧ New w wr) (fun x y z i _ => n - (intOf i).toNat)
  case atStart => exact ⟨0, 0, 0, 0, rfl, rfl, rfl, rfl, by omega, HC0.out, HF2.out⟩
  case round =>
    clear HC0 HF2
    obtain ⟨k, a, b, c, rfl, rfl, rfl, rfl, hk, hcnt, hf⟩ := hrel
    obtain ⟨hak, hbk, hck⟩ := hcnt.le
    by_cases hlt : k < n
    · obtain ⟨o, hok, bb, off, rfl, hcell⟩ := HO.out wr hf k hlt
      have h32 := failedByDoc_any o wr
      have HC : Hid (∀ f t g, o.failed = f → o.tm = t → (o.st == 429) = g → Cnt last (k + 1) (a + if f then 1 else 0) (b + if t then 1 else 0) (c + if g then 1 else 0)) := fun f t g h1 h2 h3 => hcnt.step hok h1 h2 h3
      obtain ⟨c1, c2, c3⟩ := hcell wr (New.refl _)
      have HCELL : Hid (∀ w'', New wr w'' → w''.cell? ⟨bb, off + k * 3, none⟩ = some (.int .i64 o.st) ∧ w''.cell? ⟨bb, off + k * 3 + 1, none⟩ = some (.bool o.tm) ∧ w''.cell? ⟨bb, off + k * 3 + 2, none⟩ = some (.int .i64 o.lt)) := hcell
      unfold Oc.val at h32
      generalize hfo : o.failed = fo at h32 HC
      generalize o.st = s at *
      generalize o.tm = t at *
      generalize o.lt = l at *
      have H32 : Hid (Calls Try.prog 32 #[.agg #[.int .i64 s, .bool t, .int .i64 l]] wr (RetNew (.bool fo) wr)) := h32
      have HG : Hid (New w wr) := hf
      clear h32 hf hcell hok hcnt HO HEND hfo
      go_upto_if 55 with (go_at_call 32; refine Calls.mono H32.out ?_; rintro e w4 ⟨rfl, hn4⟩; obtain ⟨d1, d2, d3⟩ := HCELL.out w4 hn4; have HG4 : Hid (New w w4) := (HG.out.trans hn4); clear hn4)
      clear HCELL HG H32 c1 c2 c3
      obtain ⟨g, hg⟩ : ∃ g, (s == 429) = g := ⟨_, rfl⟩
      have hl := HC.out fo t g rfl rfl hg
      clear HC
      cases fo <;> cases t <;> cases g
      all_goals
        simp at hl
        have HL : Hid _ := hl
        clear hl
        go_wp2_with fail
        go_roundw
        case rel => exact ⟨k + 1, _, _, _, by go_num, by go_num, by go_num, by go_num, by omega, HL.out, HG4.out⟩
        case measure => simp [intOf]; omega
    · obtain rfl : k = n := by omega
      obtain ⟨rfl, rfl, rfl⟩ := HEND.out _ _ _ hcnt
      clear HEND HO hcnt
      go_wp2_with fail
      go_ret
      exact ⟨by simp, hf⟩
end Go.Proofs.Qxb6612353a
