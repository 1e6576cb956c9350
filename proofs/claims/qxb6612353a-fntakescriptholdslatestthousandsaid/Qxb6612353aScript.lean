/-
  The script of takes: the law's walk where its first tests pass.
-/
import Derived.Test.Qxb6612353aRing
namespace Go.Proofs.Qxb6612353a
open Go.ChangeShapes Go.WideShapes Go.ChangeAt Go.RowKit
set_option linter.unusedVariables false
set_option linter.unusedSimpArgs false

theorem outs_own36 {w : World} {base rc : Nat} {ra : Option Addr} {os : List Oc} (h : w.ownsRow base 36 3 (.slice ra os.length rc) os.length (flat os)) : Outs w ra os := fun i o ho => by
  have hl := (List.getElem?_eq_some_iff.1 ho).1
  obtain ⟨b, cur, rfl, _, hcur, _, _, _, htk⟩ := own36 h (by omega)
  obtain ⟨q0, q1, q2⟩ := flat_get os i o ho
  rw [← htk] at q0 q1 q2
  rw [List.getElem?_take, if_pos (by omega)] at q0 q1 q2
  refine ⟨b, 0, rfl, ?_, ?_, ?_⟩
  · rw [cell_of hcur, Nat.zero_add]; simpa using q0
  · rw [cell_of hcur, Nat.zero_add]; simpa using q1
  · rw [cell_of hcur, Nat.zero_add]; simpa using q2

def Done (w : World) (e : Ending) (w' : World) : Prop := e = .returned (.bool true) ∧ New w w'

/-- The window behind the first k. -/
def At (w : World) (hist : List Oc) (k : Nat) (w' : World) : Prop := (∃ os nx xs sm fl tm lm, Inv w' w.heap.size w.heap.size (hist.take k) os nx xs sm fl tm lm) ∧ New w w'
theorem at_zero (w : World) (hist : List Oc) : At w hist 0 (w.alloc (.cells (wnC 0 (.slice none 0 0) 0 (.slice none 0 0) 0 0 0 0) 67)) := by
  refine ⟨⟨[], 0, [], 0, 0, 0, 0, ⟨?_, ?_, ?_⟩⟩, (Fr.refl _ _).alloc _⟩
  · refine ⟨none, 0, ⟨none, 0, ?_, ?_⟩, ?_⟩
    · have h := heap_new w (.cells (wnC 0 (.slice none 0 0) 0 (.slice none 0 0) 0 0 0 0) 67)
      exact h
    · exact ⟨rfl, .inl ⟨rfl, rfl⟩⟩
    · exact ⟨rfl, .inl ⟨rfl, rfl⟩⟩
  · rw [List.take_zero, List.drop_nil]
    exact Fig.nil
  · exact .inl ⟨by simp, rfl, rfl⟩
theorem at_step {w : World} {hist : List Oc} {k : Nat} {w' : World} (h : At w hist k w') (hok : ∀ o ∈ hist, o.ok) (hlen : hist.length ≤ 4096) {o : Oc} (ho : hist[k]? = some o) :
    Calls Try.prog 11 #[ptr w.heap.size, o.val] w' fun e w'' => e = .returned (.tuple #[]) ∧ At w hist (k + 1) w'' := by
  obtain ⟨⟨os, nx, xs, sm, fl, tm, lm, hinv⟩, hn⟩ := h
  refine (inv_step o (hok o (List.mem_of_getElem? ho)) (fun p hp => hok p (List.mem_of_mem_take hp)) w' hinv (by rw [List.length_take]; omega) hn.size).mono ?_
  rintro e w'' ⟨rfl, h1, h2⟩
  refine ⟨rfl, ?_, new_fr hn h2 (fun b hb => by omega)⟩
  rw [take_succ_get ho]
  exact h1

set_option maxRecDepth 100000 in
set_option maxHeartbeats 4000000 in
theorem walk_in (a : Option Addr) (cap : Nat) (hist : List Oc) (w : World) (hS : Outs w a hist) (hok : ∀ o ∈ hist, o.ok) (hlen : hist.length ≤ 4096) (hcap : hist.length ≤ cap) :
    Calls Try.prog 4 #[.slice a hist.length cap] w (Done w) := by
  obtain ⟨n, hnn⟩ : ∃ n, n = hist.length := ⟨_, rfl⟩
  have H24 : Hid (∀ w', New w w' → Calls Try.prog 24 #[.slice a n cap] w' (LastP hist w')) := fun w' h => by
    rw [hnn]
    exact lastWindow_any a cap hist w' (hS.new h) hlen hcap
  have HO : Hid (∀ k w', k < n → At w hist k w' → ∃ o : Oc, (∃ b off, a = some ⟨b, off, none⟩ ∧ w'.cell? ⟨b, off + k * 3, none⟩ = some (.int .i64 o.st) ∧ w'.cell? ⟨b, off + k * 3 + 1, none⟩ = some (.bool o.tm) ∧ w'.cell? ⟨b, off + k * 3 + 2, none⟩ = some (.int .i64 o.lt)) ∧ 
      Calls Try.prog 12 #[o.val] w' (RetNew o.val w') ∧ ∀ w'', New w' w'' → Calls Try.prog 11 #[ptr w.heap.size, o.val] w'' fun e w3 => e = .returned (.tuple #[]) ∧ At w hist (k + 1) w3) := fun k w' hk hat => by
    have hk' : hist[k]? = some hist[k] := List.getElem?_eq_getElem (by omega)
    obtain ⟨⟨os, nx, xs, sm, fl, tm, lm, hinv⟩, hn⟩ := hat
    refine ⟨hist[k], (hS.new hn) _ _ hk', toOutcome_any _ (hok _ (List.getElem_mem _)) w', fun w'' hn2 => at_step ⟨⟨os, nx, xs, sm, fl, tm, lm, hinv.new hn2⟩, hn.trans hn2⟩ hok hlen hk'⟩
  have HZ : Hid (At w hist 0 (w.alloc (.cells (wnC 0 (.slice none 0 0) 0 (.slice none 0 0) 0 0 0 0) 67))) := at_zero w hist
  have HS : Hid (Outs w a hist) := hS
  have HN : Hid (n = hist.length) := hnn
  rw [← hnn] at hlen ⊢
  have hm : n ≤ maxLen := by unfold maxLen; omega
  have H23 : Hid (Calls Try.prog 23 #[.slice a n cap] w fun e w' => (∃ b : Bool, e = .returned (.bool b)) ∧ w' = w) := bytes_any a n cap w hm
  have H9 : Hid (Calls Try.prog 9 #[.int .i64 0, .slice none 0 0, .int .i64 0, .slice none 0 0, .int .i64 0, .int .i64 0, .int .i64 0, .int .i64 0] w (NewP w)) := newWindow_any w
  clear hS hnn hok hcap hm
  go_enter Try.func4, Try.ntmps4
  go_upto_if 9 with (go_at_call 23; refine Calls.mono H23.out ?_; rintro e w' ⟨⟨b, rfl⟩, hw⟩; rw [hw]; clear hw)
  clear H23
  cases b
  · go_wp2_with fail
    go_ret
    exact ⟨rfl, New.refl _⟩
  have hle : ¬ ((4096 : Int) < (n : Int)) := by omega
  go_upto_region 6 with (go_at_call 9; refine Calls.mono H9.out ?_; rintro e w' ⟨rfl, rfl⟩; unfold ptr)
  clear H9
  obtain ⟨wb, hwb⟩ : ∃ wb, wb = w.heap.size := ⟨_, rfl⟩
  rw [← hwb] at HO ⊢
  have HWB : Hid (wb = w.heap.size) := hwb
  clear hwb
  generalize w.alloc (.cells (wnC 0 (.slice none 0 0) 0 (.slice none 0 0) 0 0 0 0) 67) = w1 at HZ ⊢
  go_upto_block 0 with fail
  go_cut [4] from 14 to 26 (fun i wx => At w hist n wx)
  case first =>
    go_wp2_with fail
    go_loopw [4] (fun i wr => ∃ k : Nat, i = .int .i64 k ∧ k ≤ n ∧ At w hist k wr) (fun i _ => n - (intOf i).toNat)
    case atStart => exact ⟨0, rfl, by omega, HZ.out⟩
    case round =>
      clear HZ
      obtain ⟨k, rfl, hk, hat⟩ := hrel
      by_cases hlt : k < n
      · obtain ⟨o, ⟨b, off, rfl, c1, c2, c3⟩, h12, h11⟩ := HO.out k wr hlt hat
        unfold Oc.val at h12 h11
        unfold ptr at h11
        generalize o.st = s at *
        generalize o.tm = t at *
        generalize o.lt = l at *
        have H12 : Hid (Calls Try.prog 12 #[.agg #[.int .i64 s, .bool t, .int .i64 l]] wr (RetNew (.agg #[.int .i64 s, .bool t, .int .i64 l]) wr)) := h12
        have H11 : Hid (∀ w'', New wr w'' → Calls Try.prog 11 #[.pointer (some ⟨wb, 0, none⟩), .agg #[.int .i64 s, .bool t, .int .i64 l]] w'' fun e w3 => e = .returned (.tuple #[]) ∧ At w hist (k + 1) w3) := h11
        clear h12 h11 hat HO H24 HS
        go_wp2_with (first | (go_at_call 12; refine Calls.mono H12.out ?_; rintro e w4 ⟨rfl, hn4⟩; have H11' : Hid _ := H11.out w4 hn4; clear hn4) | (go_at_call 11; refine Calls.mono H11'.out ?_; rintro e w5 ⟨rfl, hat5⟩))
        go_roundw
        case rel => exact ⟨k + 1, by go_num, by omega, hat5⟩
        case measure => simp [intOf]; omega
      · obtain rfl : k = n := by omega
        clear HO H24
        go_wp2_with fail
        go_meet
        case rel => exact hat
  clear HO HZ
  obtain ⟨⟨os, nx, xs, sm, fl, tm, lm, hinv⟩, hn⟩ := hcut
  have hlh := HN.out
  rw [hlh, List.take_length] at hinv
  have H24' : Hid (Calls Try.prog 24 #[.slice a n cap] wc (LastP hist wc)) := H24.out wc hn
  obtain ⟨⟨ra, rc, ⟨aa, ac, hwn, hown⟩, hrec⟩, hfig, hring⟩ := hinv
  have hwb := HWB.out
  rw [← hwb] at hwn hown hrec
  rw [← hlh] at hwn
  have hol := ring_len hring
  have hrot := ring_rot hring
  have hll : (hist.drop (hist.length - 1000)).length ≤ 1000 := by rw [List.length_drop]; omega
  have hnx : (1000 ≤ n → (n : Int) % 1000 = (nx : Int)) ∧ (n < 1000 → (nx : Int) = 0) := by
    rcases hring with ⟨h1, _, h2⟩ | ⟨h1, _, h2, _⟩
    · exact ⟨fun h => by omega, fun h => by omega⟩
    · exact ⟨fun h => by omega, fun h => by omega⟩
  have hnx9 : nx ≤ 1000 := by
    rcases hring with ⟨h1, _, h2⟩ | ⟨h1, _, h2, _⟩ <;> omega
  have hsm : -9223372036854775808 ≤ sm ∧ sm ≤ 9223372036854775807 := by
    rw [hfig.sm]
    unfold wrap64
    omega
  obtain ⟨hxm, _, _, _⟩ := fig_bounds hfig hll
  have HLP : Hid (∀ e w', LastP hist wc e w' → ∃ la lc, e = .returned (.slice la os.length lc) ∧ Outs wc la (hist.drop (hist.length - 1000)) ∧ w' = wc) := fun e w' h => by
    rw [hol]
    exact h
  generalize hist.drop (hist.length - 1000) = last at *
  have HW : ∀ w', New wc w' → Wn w' wb (n : Nat) (.slice ra os.length rc) nx (.slice aa xs.length ac) sm fl tm lm := fun w' h => hwn.fr h (fun h => h)
  have H13 : Hid (∀ w', New wc w' → Calls Try.prog 13 #[.pointer (some ⟨wb, 0, none⟩)] w' fun e w'' => e = .returned (.int .i64 (n : Nat)) ∧ w'' = w') := fun w' h => count_any (HW w' h)
  have H14 : Hid (∀ w', New wc w' → Calls Try.prog 14 #[.pointer (some ⟨wb, 0, none⟩)] w' fun e w'' => e = .returned (.int .i64 (nx : Nat)) ∧ w'' = w') := fun w' h => next_any (HW w' h)
  have H17 : Hid (∀ w', New wc w' → Calls Try.prog 17 #[.pointer (some ⟨wb, 0, none⟩)] w' fun e w'' => e = .returned (.slice ra os.length rc) ∧ w'' = w') := fun w' h => recent_any (HW w' h)
  have H19 : Hid (∀ w', New wc w' → Calls Try.prog 19 #[.pointer (some ⟨wb, 0, none⟩)] w' fun e w'' => e = .returned (.int .i64 sm) ∧ w'' = w') := fun w' h => sum_any (HW w' h) hsm
  have H20 : Hid (∀ w', New wc w' → Calls Try.prog 20 #[.pointer (some ⟨wb, 0, none⟩)] w' fun e w'' => e = .returned (.int .i64 fl) ∧ w'' = w') := fun w' h => failed_any (HW w' h)
  have H21 : Hid (∀ w', New wc w' → Calls Try.prog 21 #[.pointer (some ⟨wb, 0, none⟩)] w' fun e w'' => e = .returned (.int .i64 tm) ∧ w'' = w') := fun w' h => timedOut_any (HW w' h)
  have H22 : Hid (∀ w', New wc w' → Calls Try.prog 22 #[.pointer (some ⟨wb, 0, none⟩)] w' fun e w'' => e = .returned (.int .i64 lm) ∧ w'' = w') := fun w' h => limited_any (HW w' h)
  have H18 : Hid (∀ w', New wc w' → Calls Try.prog 18 #[.pointer (some ⟨wb, 0, none⟩)] w' fun e w'' => ∃ qa qc, e = .returned (.slice qa xs.length qc) ∧ NumsL w'' qa xs ∧ New w' w'') := fun w' h => zzAnswered_any xs w' (HW w' h) ((nums_own hown).new h) hxm
  have H16 : Hid (∀ w', New wc w' → Calls Try.prog 16 #[.slice ra os.length rc] w' fun e w'' => ∃ qa qc, e = .returned (.slice qa os.length qc) ∧ Outs w'' qa os ∧ New w' w'') := fun w' h => readOuts_any ra rc os w' ((outs_own36 hrec).new h) (by omega)
  have H15 : Hid (∀ (qa la : Option Addr) (qc lc : Nat) (w' : World), Outs w' qa os → New wc w' → Outs wc la last → Calls Try.prog 15 #[.slice qa os.length qc, .int .i64 nx, .slice la os.length lc] w' (RetNew (.bool true) w')) := fun qa la qc lc w' h1 h2 h3 => by
    have := rotationIs_any qa la qc lc nx os last w' h1 (h3.new h2) hll hnx9 hol hrot
    rw [← hol] at this
    exact this
  have H8 : Hid (∀ (xa la : Option Addr) (xc lc : Nat) (w' : World), NumsL w' xa xs → New wc w' → Outs wc la last → Calls Try.prog 8 #[.slice xa xs.length xc, .int .i64 sm, .int .i64 fl, .int .i64 tm, .int .i64 lm, .slice la os.length lc] w' (RetNew (.bool true) w')) := fun xa la xc lc w' h1 h2 h3 => by
    have := figures_any xa la xc lc xs sm fl tm lm last w' h1 (h3.new h2) hll hfig
    rw [← hol] at this
    exact this
  have HNC : Hid (New w wc) := hn
  have hol9 : os.length ≤ 1000 := by omega
  obtain ⟨hnxa, hnxb⟩ := hnx
  clear HW hwn hown hrec hfig hring hol hrot hll hsm hn hlh H24 HS HN hwb HWB
  generalize os.length = ol at *
  generalize xs.length = xl at *
  go_upto_region 11 with (go_at_call 24; refine Calls.mono H24'.out ?_; intro e w2 hlp; obtain ⟨la, lc, rfl, hla, hw2⟩ := HLP.out e w2 hlp; rw [hw2]; clear hw2 hlp w2)
  by_cases hgt : 1000 ≤ n
  · have hgi : (1000 : Int) ≤ (n : Int) := by omega
    have hnq := hnxa hgt
    go_upto_region 14 with fail
    clear hgt hnxa hnxb
    go_upto_region 16 with (first | (go_at_call 13; refine Calls.mono (H13.out wc (New.refl _)) ?_; rintro e w2 ⟨rfl, rfl⟩) | (go_at_call 14; refine Calls.mono (H14.out _ (New.refl _)) ?_; rintro e w2 ⟨rfl, rfl⟩))
    clear H13 H14
    go_upto_region 18 with (first | (go_at_call 17; refine Calls.mono (H17.out _ (New.refl _)) ?_; rintro e w2 ⟨rfl, rfl⟩) | (go_at_call 16; refine Calls.mono (H16.out _ (New.refl _)) ?_; rintro e w3 ⟨qa, qc, rfl, ho3, hn3⟩; have H15' : Hid _ := H15.out qa la qc lc w3 ho3 hn3 hla; have HN3 : Hid _ := hn3; clear ho3 hn3 H15 H16 H17) | (go_at_call 15; refine Calls.mono H15'.out ?_; rintro e w4 ⟨rfl, hn4⟩; have HN4 : Hid _ := (HN3.out.trans hn4); clear hn4 H15' HN3))
    go_wp2_with (first | (go_at_call 18; refine Calls.mono (H18.out _ HN4.out) ?_; rintro e w5 ⟨xa, xc, rfl, hx5, hn5⟩; have HN5 : Hid _ := (HN4.out.trans hn5); have H8' : Hid _ := H8.out xa la xc lc w5 hx5 HN5.out hla; clear hx5 hn5 H18 H8) | (go_at_call 19; refine Calls.mono (H19.out _ HN5.out) ?_; rintro e w6 ⟨rfl, rfl⟩) | (go_at_call 20; refine Calls.mono (H20.out _ HN5.out) ?_; rintro e w6 ⟨rfl, rfl⟩) | (go_at_call 21; refine Calls.mono (H21.out _ HN5.out) ?_; rintro e w6 ⟨rfl, rfl⟩) | (go_at_call 22; refine Calls.mono (H22.out _ HN5.out) ?_; rintro e w6 ⟨rfl, rfl⟩) | (go_at_call 8; refine Calls.mono H8'.out ?_; rintro e w7 ⟨rfl, hn7⟩))
    go_ret
    exact ⟨rfl, HNC.out.trans (HN5.out.trans hn7)⟩
  · have hgi : ¬ ((1000 : Int) ≤ (n : Int)) := by omega
    have hnq := hnxb (by omega)
    obtain rfl : nx = 0 := by omega
    clear hnq
    go_upto_region 14 with fail
    clear hgt hnxa hnxb
    go_upto_region 16 with (first | (go_at_call 13; refine Calls.mono (H13.out wc (New.refl _)) ?_; rintro e w2 ⟨rfl, rfl⟩) | (go_at_call 14; refine Calls.mono (H14.out _ (New.refl _)) ?_; rintro e w2 ⟨rfl, rfl⟩))
    clear H13 H14
    go_upto_region 18 with (first | (go_at_call 17; refine Calls.mono (H17.out _ (New.refl _)) ?_; rintro e w2 ⟨rfl, rfl⟩) | (go_at_call 16; refine Calls.mono (H16.out _ (New.refl _)) ?_; rintro e w3 ⟨qa, qc, rfl, ho3, hn3⟩; have H15' : Hid _ := H15.out qa la qc lc w3 ho3 hn3 hla; have HN3 : Hid _ := hn3; clear ho3 hn3 H15 H16 H17) | (go_at_call 15; refine Calls.mono H15'.out ?_; rintro e w4 ⟨rfl, hn4⟩; have HN4 : Hid _ := (HN3.out.trans hn4); clear hn4 H15' HN3))
    go_wp2_with (first | (go_at_call 18; refine Calls.mono (H18.out _ HN4.out) ?_; rintro e w5 ⟨xa, xc, rfl, hx5, hn5⟩; have HN5 : Hid _ := (HN4.out.trans hn5); have H8' : Hid _ := H8.out xa la xc lc w5 hx5 HN5.out hla; clear hx5 hn5 H18 H8) | (go_at_call 19; refine Calls.mono (H19.out _ HN5.out) ?_; rintro e w6 ⟨rfl, rfl⟩) | (go_at_call 20; refine Calls.mono (H20.out _ HN5.out) ?_; rintro e w6 ⟨rfl, rfl⟩) | (go_at_call 21; refine Calls.mono (H21.out _ HN5.out) ?_; rintro e w6 ⟨rfl, rfl⟩) | (go_at_call 22; refine Calls.mono (H22.out _ HN5.out) ?_; rintro e w6 ⟨rfl, rfl⟩) | (go_at_call 8; refine Calls.mono H8'.out ?_; rintro e w7 ⟨rfl, hn7⟩))
    go_ret
    exact ⟨rfl, HNC.out.trans (HN5.out.trans hn7)⟩
end Go.Proofs.Qxb6612353a
