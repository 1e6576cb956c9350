/-
  slices.BinarySearch over the latencies; the plain lower bound.
-/
import Derived.Test.Qxb6612353aSmall
namespace Go.Proofs.Qxb6612353a
open Go.ChangeShapes Go.WideShapes Go.ChangeAt Go.RowKit
set_option linter.unusedVariables false
set_option linter.unusedSimpArgs false

def Sorted (xs : List Int) : Prop := ∀ (i j : Nat) (x y : Int), i < j → xs[i]? = some x → xs[j]? = some y → x ≤ y
/-- How many are less. -/
def lb (xs : List Int) (t : Int) : Nat := (xs.takeWhile (fun x => decide (x < t))).length
theorem lb_le (t : Int) : ∀ xs : List Int, lb xs t ≤ xs.length
  | [] => by simp [lb]
  | x :: xs => by
    have := lb_le t xs
    unfold lb at this ⊢
    rw [List.takeWhile_cons]
    split
    · simp; omega
    · simp
theorem lb_lt (t : Int) : ∀ (xs : List Int) (j : Nat) (x : Int), j < lb xs t → xs[j]? = some x → x < t
  | [], j, x, h, _ => by simp [lb] at h
  | y :: xs, j, x, h, hx => by
    unfold lb at h
    rw [List.takeWhile_cons] at h
    split at h
    · rename_i hy
      cases j with
      | zero => simp at hx hy; omega
      | succ j => exact lb_lt t xs j x (by simp at h; exact h) (by simpa using hx)
    · simp at h
theorem lb_at (t : Int) : ∀ (xs : List Int) (x : Int), xs[lb xs t]? = some x → t ≤ x
  | [], x, hx => by simp at hx
  | y :: xs, x, hx => by
    unfold lb at hx
    rw [List.takeWhile_cons] at hx
    split at hx
    · exact lb_at t xs x (by simpa [lb] using hx)
    · rename_i hy
      simp at hx hy
      omega
theorem lb_ge {t : Int} {xs : List Int} (hs : Sorted xs) {j : Nat} {x : Int} (h : lb xs t ≤ j) (hx : xs[j]? = some x) : t ≤ x := by
  by_cases e : j = lb xs t
  · subst e
    exact lb_at t xs x hx
  · have hl := (List.getElem?_eq_some_iff.1 hx).1
    have h1 : xs[lb xs t]? = some (xs[lb xs t]'(by omega)) := List.getElem?_eq_getElem (by omega)
    have h2 := lb_at t xs _ h1
    have h3 := hs _ _ _ _ (by omega) h1 hx
    omega
theorem lb_eq {t : Int} {xs : List Int} (hs : Sorted xs) {p : Nat} (hp : p ≤ xs.length) (h1 : ∀ j x, j < p → xs[j]? = some x → x < t) (h2 : ∀ j x, p ≤ j → xs[j]? = some x → t ≤ x) : p = lb xs t := by
  have hle := lb_le t xs
  by_cases e : p < lb xs t
  · have hx : xs[p]? = some (xs[p]'(by omega)) := List.getElem?_eq_getElem (by omega)
    have := h2 p _ (Nat.le_refl _) hx
    have := lb_lt t xs p _ e hx
    omega
  · by_cases e2 : lb xs t < p
    · have hx : xs[lb xs t]? = some (xs[lb xs t]'(by omega)) := List.getElem?_eq_getElem (by omega)
      have := h1 _ _ e2 hx
      have := lb_at t xs _ hx
      omega
    · omega

/-- The cells of a row of numbers. -/
def NumsL (w : World) (a : Option Addr) (xs : List Int) : Prop := ∀ j x, xs[j]? = some x → ∃ b off, a = some ⟨b, off, none⟩ ∧ w.cell? ⟨b, off + j, none⟩ = some (.int .i64 x)
def BsP (xs : List Int) (t : Int) (w : World) (e : Ending) (w' : World) : Prop := e = .returned (.tuple #[.int .i64 (lb xs t : Nat), .bool (decide (xs[lb xs t]? = some t))]) ∧ w' = w

set_option maxRecDepth 100000 in
set_option maxHeartbeats 1000000 in
theorem bsearch_any (a : Option Addr) (c : Nat) (xs : List Int) (t : Int) (w : World) (hx : NumsL w a xs) (hs : Sorted xs) (hn : xs.length ≤ 65536) :
    Calls Try.prog 39 #[.slice a xs.length c, .int .i64 t] w (BsP xs t w) := by
  obtain ⟨n, hnn⟩ : ∃ x, x = xs.length := ⟨_, rfl⟩
  rw [← hnn] at hn ⊢
  have HN : Hid (n = xs.length) := hnn
  have HX : Hid (∀ k, k < n → ∃ x, xs[k]? = some x ∧ ∃ b off, a = some ⟨b, off, none⟩ ∧ w.cell? ⟨b, off + k, none⟩ = some (.int .i64 x)) := fun k hk =>
    ⟨_, List.getElem?_eq_getElem (by omega), hx k _ (List.getElem?_eq_getElem (by omega))⟩
  clear hnn hx
  go_enter Try.func39, Try.ntmps39
  go_upto_block 0 with fail
  go_cut [7] from 13 to 30 (fun i wx => i = .int .i64 (lb xs t : Nat) ∧ w = wx)
  case first =>
    go_wp2_with fail
    go_loopw [7, 8] (fun i j wr => ∃ p q : Nat, i = .int .i64 p ∧ j = .int .i64 q ∧ p ≤ q ∧ q ≤ n ∧ (∀ k x, k < p → xs[k]? = some x → x < t) ∧ (∀ k x, q ≤ k → xs[k]? = some x → t ≤ x) ∧ w = wr) (fun i j _ => (intOf j).toNat - (intOf i).toNat)
    case atStart =>
      refine ⟨0, n, rfl, rfl, by omega, by omega, fun k x hk => by omega, fun k x hk hx => ?_, rfl⟩
      have := (List.getElem?_eq_some_iff.1 hx).1
      have := HN.out
      omega
    case round =>
      obtain ⟨p, q, rfl, rfl, hpq, hqn, h1, h2, rfl⟩ := hrel
      have H1 : Hid (∀ k x, k < p → xs[k]? = some x → x < t) := h1
      have H2 : Hid (∀ k x, q ≤ k → xs[k]? = some x → t ≤ x) := h2
      clear h1 h2
      by_cases hlt : p < q
      · obtain ⟨x, hxk, b, off, rfl, hc⟩ := HX.out ((p + q) / 2) (by omega)
        obtain ⟨h, hh⟩ : ∃ h, h = (p + q) / 2 := ⟨_, rfl⟩
        rw [← hh] at hxk hc
        have HXK : Hid (xs[h]? = some x) := hxk
        have HH : Hid (h = (p + q) / 2) := hh
        clear hxk hh
        go_upto_region 5 with fail
        have e : ((p : Int) + (q : Int)) / 2 = (h : Int) := by rw [HH.out]; omega
        have hhn : h < n := by rw [HH.out]; omega
        have hph : p ≤ h ∧ h < q := by rw [HH.out]; omega
        obtain ⟨hp1, hp2⟩ := hph
        simp only [e]
        clear e HH
        by_cases hxt : x < t
        · have hd : decide (x < t) = true := decide_eq_true hxt
          go_wp2_with (go_at_call 43; refine (less_any _ _ _).mono ?_; rintro e w' ⟨rfl, rfl⟩; rw [hd])
          go_roundw
          case rel =>
            refine ⟨h + 1, q, by go_num, by go_num, by omega, by omega, fun k y hk hy => ?_, H2.out, by trivial⟩
            by_cases e : k = h
            · subst e
              rw [HXK.out] at hy
              cases hy
              exact hxt
            · have := hs _ _ _ _ (by omega) hy HXK.out
              omega
          case measure => simp [intOf]; omega
        · have hd : decide (x < t) = false := decide_eq_false hxt
          go_wp2_with (go_at_call 43; refine (less_any _ _ _).mono ?_; rintro e w' ⟨rfl, rfl⟩; rw [hd])
          go_roundw
          case rel =>
            refine ⟨p, h, by go_num, by go_num, by omega, by omega, H1.out, fun k y hk hy => ?_, by trivial⟩
            by_cases e : k = h
            · subst e
              rw [HXK.out] at hy
              cases hy
              omega
            · have := hs _ _ _ _ (by omega) HXK.out hy
              omega
          case measure => simp [intOf]; omega
      · obtain rfl : p = q := by omega
        go_wp2_with fail
        go_meet
        case rel =>
          have hp : p = lb xs t := lb_eq hs (by rw [← HN.out]; omega) H1.out H2.out
          exact ⟨by rw [hp], rfl⟩
  obtain ⟨rfl, rfl⟩ := hcut
  have hle := lb_le t xs
  rw [← HN.out] at hle
  have hfin : ∀ f : Bool, f = decide (xs[lb xs t]? = some t) → BsP xs t w (.returned (.tuple #[.int .i64 (lb xs t : Nat), .bool f])) w := fun f hf => by
    rw [hf]
    exact ⟨rfl, rfl⟩
  have HF : Hid _ := hfin
  clear hfin
  by_cases hlt : lb xs t < n
  · obtain ⟨x, hxk, b, off, rfl, hc⟩ := HX.out (lb xs t) hlt
    have hdx : decide (xs[lb xs t]? = some t) = decide (x = t) := by rw [hxk]; simp
    rw [hdx] at HF
    generalize lb xs t = p at *
    clear hdx hxk hs
    by_cases hxt : x = t
    · subst hxt
      have hd : decide (x = x) = true := by simp
      go_wp2_with fail
      exact bodyPost_ret (v := .tuple #[.int .i64 (p : Nat), .bool true]) (by simp [results, Try.results39, go_sem]) rfl (HF.out true hd.symm)
    · have hd : decide (x = t) = false := by simp [hxt]
      go_wp2_with (go_at_call 44; refine (isNaN44 _ _).mono ?_; rintro e w' ⟨rfl, rfl⟩)
      exact bodyPost_ret (v := .tuple #[.int .i64 (p : Nat), .bool false]) (by simp [results, Try.results39, go_sem, hxt]) rfl (HF.out false hd.symm)
  · have hno : decide (xs[lb xs t]? = some t) = false := by
      rw [List.getElem?_eq_none (by rw [← HN.out]; omega)]
      simp
    rw [hno] at HF
    generalize lb xs t = p at *
    clear hno hs
    go_wp2_with fail
    exact bodyPost_ret (v := .tuple #[.int .i64 (p : Nat), .bool false]) (by simp [results, Try.results39, go_sem]) rfl (HF.out false rfl)
end Go.Proofs.Qxb6612353a
