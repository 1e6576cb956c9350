/-
  The window over a history: what lies there behind k takes; one more take.
-/
import Derived.Test.Qxb6612353aFigures
namespace Go.Proofs.Qxb6612353a
open Go.ChangeShapes Go.WideShapes Go.ChangeAt Go.RowKit
set_option linter.unusedVariables false
set_option linter.unusedSimpArgs false

/-- The row of the last outcomes: the history itself, or a ring of a thousand. -/
def Ring (pre os : List Oc) (nx : Nat) : Prop := (pre.length < 1000 ∧ os = pre ∧ nx = 0) ∨ (1000 ≤ pre.length ∧ os.length = 1000 ∧ nx = pre.length % 1000 ∧ ∀ j, j < 1000 → os[(nx + j) % 1000]? = pre[pre.length - 1000 + j]?)
theorem Ring.push {pre os : List Oc} {nx : Nat} (h : Ring pre os nx) (hl : pre.length < 1000) (o : Oc) : Ring (pre ++ [o]) (os ++ [o]) nx := by
  rcases h with ⟨_, rfl, rfl⟩ | ⟨h1, _⟩
  case inr => omega
  have hlen : (os ++ [o]).length = os.length + 1 := by simp
  by_cases h9 : os.length + 1 < 1000
  · exact .inl ⟨by omega, rfl, rfl⟩
  · refine .inr ⟨by omega, by omega, by omega, fun j hj => ?_⟩
    rw [hlen]
    congr 1
    omega
theorem Ring.full {pre os : List Oc} {nx : Nat} (h : Ring pre os nx) (hl : 1000 ≤ pre.length) (o : Oc) : Ring (pre ++ [o]) (os.set nx o) ((nx + 1) % 1000) := by
  rcases h with ⟨h1, _⟩ | ⟨_, h2, h3, h4⟩
  · omega
  have hlen : (pre ++ [o]).length = pre.length + 1 := by simp
  refine .inr ⟨by omega, by rw [List.length_set]; exact h2, by omega, fun j hj => ?_⟩
  rw [hlen]
  by_cases e : j = 999
  · have e1 : ((nx + 1) % 1000 + j) % 1000 = nx := by omega
    have e2 : pre.length + 1 - 1000 + j = pre.length := by omega
    rw [e1, e2, List.getElem?_set_self (by omega)]
    simp
  · have e1 : ((nx + 1) % 1000 + j) % 1000 = (nx + (j + 1)) % 1000 := by omega
    have e2 : pre.length + 1 - 1000 + j = pre.length - 1000 + (j + 1) := by omega
    have e3 : nx ≠ (nx + (j + 1)) % 1000 := by omega
    rw [e1, e2, List.getElem?_set_ne e3, h4 _ (by omega), List.getElem?_append_left (by omega)]

theorem ring_len {pre os : List Oc} {nx : Nat} (h : Ring pre os nx) : os.length = (pre.drop (pre.length - 1000)).length := by
  rw [List.length_drop]
  rcases h with ⟨h1, rfl, _⟩ | ⟨h1, h2, _⟩
  · omega
  · omega
theorem ring_rot {pre os : List Oc} {nx : Nat} (h : Ring pre os nx) (j : Nat) (hj : j < (pre.drop (pre.length - 1000)).length) : os[(nx + j) % (pre.drop (pre.length - 1000)).length]? = (pre.drop (pre.length - 1000))[j]? := by
  have hl := ring_len h
  rw [List.getElem?_drop]
  rcases h with ⟨h1, rfl, rfl⟩ | ⟨h1, h2, h3, h4⟩
  · rw [← hl] at hj ⊢
    rw [Nat.zero_add, Nat.mod_eq_of_lt hj]
    congr 1
    omega
  · rw [← hl, h2] at hj ⊢
    exact h4 j hj

structure Inv (w : World) (wb base : Nat) (pre : List Oc) (os : List Oc) (nx : Nat) (xs : List Int) (sm fl tm lm : Int) : Prop where
  st : St w wb base (pre.length : Nat) os nx xs sm fl tm lm
  fig : Fig (pre.drop (pre.length - 1000)) xs sm fl tm lm
  ring : Ring pre os nx

theorem Inv.new {w w' : World} {wb base : Nat} {pre os : List Oc} {nx : Nat} {xs : List Int} {sm fl tm lm : Int} (h : Inv w wb base pre os nx xs sm fl tm lm) (hn : New w w') : Inv w' wb base pre os nx xs sm fl tm lm := ⟨h.st.new hn, h.fig, h.ring⟩

theorem fig_bounds {last : List Oc} {xs : List Int} {sm fl tm lm : Int} (h : Fig last xs sm fl tm lm) (hl : last.length ≤ 1000) : xs.length ≤ 1000 ∧ (0 ≤ fl ∧ fl ≤ 1000) ∧ (0 ≤ tm ∧ tm ≤ 1000) ∧ (0 ≤ lm ∧ lm ≤ 1000) := by
  have l0 := h.perm.length_eq
  have l0' := ans_le last
  have l1 := List.countP_le_length (p := Oc.failed) (l := last)
  have l2 := List.countP_le_length (p := Oc.tm) (l := last)
  have l3 := List.countP_le_length (p := fun o : Oc => o.st == 429) (l := last)
  have h1 := h.fl
  have h2 := h.tm
  have h3 := h.lm
  omega

def StepP (wb base : Nat) (pre : List Oc) (w : World) (e : Ending) (w' : World) : Prop := e = .returned (.tuple #[]) ∧ (∃ os nx xs sm fl tm lm, Inv w' wb base pre os nx xs sm fl tm lm) ∧ Fr (fun b => base ≤ b ∨ b = wb) w w'

theorem inv_step {wb base : Nat} {pre os : List Oc} {nx : Nat} {xs : List Int} {sm fl tm lm : Int} (o : Oc) (ho : o.ok) (hpre : ∀ p ∈ pre, p.ok) (w : World) (h : Inv w wb base pre os nx xs sm fl tm lm) (hlen : pre.length ≤ 4096) (hb : base ≤ w.heap.size) :
    Calls Try.prog 11 #[ptr wb, o.val] w (StepP wb base (pre ++ [o]) w) := by
  obtain ⟨hst, hfig, hring⟩ := h
  have hlast : (pre.drop (pre.length - 1000)).length ≤ 1000 := by rw [List.length_drop]; omega
  obtain ⟨b0, b1, b2, b3⟩ := fig_bounds hfig hlast
  have hlen1 : (pre ++ [o]).length = pre.length + 1 := by simp
  by_cases hl : pre.length < 1000
  · have hol : os.length < 1000 := by have := ring_len hring; rw [List.length_drop] at this; omega
    refine (zzTake_any o w (fun w1 hn1 => take_push o ho w1 (hst.new hn1) hfig.sorted b0 hol (by omega) (Nat.le_trans hb hn1.size) b1 b2 b3)).mono ?_
    rintro e w' ⟨rfl, h1, h2⟩
    refine ⟨rfl, ⟨os ++ [o], nx, admX o xs, admS o sm, tal fl 1 o.failed, tal tm 1 o.tm, tal lm 1 (o.st == 429), ⟨?_, ?_, hring.push hl o⟩⟩, h2⟩
    · rw [hlen1]
      exact h1
    · have := hfig.push o
      rw [Nat.sub_eq_zero_of_le (by omega), List.drop_zero] at this
      rw [Nat.sub_eq_zero_of_le (by omega), List.drop_zero]
      exact this
  · have hr := hring
    rcases hr with ⟨hx, _⟩ | ⟨_, hol, hnx, hrot⟩
    · omega
    have hnxl : nx < 1000 := by omega
    have hj : pre.length - 1000 < pre.length := by omega
    have hev : os[nx]? = some pre[pre.length - 1000] := by
      have := hrot 0 (by omega)
      rw [Nat.add_zero, Nat.mod_eq_of_lt hnxl, Nat.add_zero] at this
      rw [this]
      exact List.getElem?_eq_getElem hj
    have hevo : (pre[pre.length - 1000]).ok := hpre _ (List.getElem_mem hj)
    have hd : pre.drop (pre.length - 1000) = pre[pre.length - 1000] :: pre.drop (pre.length - 1000 + 1) := List.drop_eq_getElem_cons hj
    generalize pre[pre.length - 1000] = ev at hev hevo hd
    rw [hd] at hfig hlast
    have hev2 := hfig.evict
    have hrl : (pre.drop (pre.length - 1000 + 1)).length ≤ 1000 := by rw [List.length_cons] at hlast; omega
    obtain ⟨_, k1, k2, k3⟩ := fig_bounds hev2 hrl
    refine (zzTake_any o w (fun w1 hn1 => take_full o ev ho w1 (hst.new hn1) hol hnxl hev (by omega) (Nat.le_trans hb hn1.size) hfig.sorted b0 hevo hfig.hin hev2.sorted b1 b2 b3 k1 k2 k3)).mono ?_
    rintro e w' ⟨rfl, h1, h2⟩
    have e1 : (((nx + 1) % 1000 : Nat) : Int) = ((nx : Int) + 1) % 1000 := by omega
    refine ⟨rfl, ⟨os.set nx o, (nx + 1) % 1000, fullX o ev xs, fullS o ev sm, tal (tal fl (-1) ev.failed) 1 o.failed, tal (tal tm (-1) ev.tm) 1 o.tm, tal (tal lm (-1) (ev.st == 429)) 1 (o.st == 429), ⟨?_, ?_, hring.full (by omega) o⟩⟩, h2⟩
    · rw [hlen1, e1]
      exact h1
    · have h9 := hfig.full o
      have e2 : (pre ++ [o]).drop ((pre ++ [o]).length - 1000) = pre.drop (pre.length - 1000 + 1) ++ [o] := by
        rw [hlen1, show pre.length + 1 - 1000 = pre.length - 1000 + 1 by omega, List.drop_append_of_le_length (by omega)]
      rw [e2]
      exact h9
end Go.Proofs.Qxb6612353a
