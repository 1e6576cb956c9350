/-
  Law FnKeepsTurnsTrueJustAfterTheEarliestStamp: keepsEarliest.
-/
import Derived.Test.Qxb6612390aKeeps
import Derived.Deep.DeepCutAuto
namespace Go.Proofs.Qxb6612390a
open Go.ChangeShapes Go.WideShapes Go.ChangeAt Go.RowKit
open Go.ChangeMaps (setBlock)
set_option linter.unusedVariables false

/-- The waits that came in: two cells each. -/
def Waits (w : World) (a : Option Addr) (len : Nat) (W : Nat → Bool × Int) : Prop :=
  ∀ i, i < len → ∃ b off, a = some ⟨b, off, none⟩ ∧ w.cell? ⟨b, off + i * 2, none⟩ = some (.bool (W i).1) ∧ w.cell? ⟨b, off + i * 2 + 1, none⟩ = some (.int .u64 (W i).2) ∧ U64 (W i).2

def EarPost (p : Bool × Int) (w : World) (e : Ending) (w' : World) : Prop := e = .returned (.tuple #[.bool p.1, .int .u64 p.2]) ∧ w' = w

theorem ear0_cases (one : Bool) (s1 : Int) (inO : Bool) (bS : Int) : (one = true ∧ inO = true ∧ bS < s1 ∧ ear0 one s1 inO bS = (true, bS)) ∨ (one = true ∧ inO = true ∧ ¬ bS < s1 ∧ ear0 one s1 inO bS = (true, s1)) ∨
    (one = true ∧ inO = false ∧ ear0 one s1 inO bS = (true, s1)) ∨ (one = false ∧ inO = true ∧ ear0 one s1 inO bS = (true, bS)) ∨ (one = false ∧ inO = false ∧ ear0 one s1 inO bS = (false, 0)) := by
  cases one <;> cases inO
  · simp [ear0]
  · simp [ear0, step]
  · simp [ear0]
  · by_cases h : bS < s1 <;> simp [ear0, step, h]
theorem ear0_u64 (one : Bool) (s1 : Int) (inO : Bool) (bS : Int) (h1 : U64 s1) (h2 : U64 bS) : U64 (ear0 one s1 inO bS).2 := by
  rcases ear0_cases one s1 inO bS with ⟨_, _, _, h⟩ | ⟨_, _, _, h⟩ | ⟨_, _, h⟩ | ⟨_, _, h⟩ | ⟨_, _, h⟩ <;> rw [h]
  · exact h2
  · exact h1
  · exact h1
  · exact h2
  · exact ⟨by decide, by decide⟩

set_option maxRecDepth 100000 in
set_option maxHeartbeats 2000000 in
theorem earliest_any (one : Bool) (s1 : Int) (inO : Bool) (bS : Int) (a : Option Addr) (len cap : Nat) (W : Nat → Bool × Int) (w : World) (hl : len ≤ 65536) (h : Waits w a len W) (h1 : U64 s1) (h2 : U64 bS) :
    Calls Try.prog 25 #[.bool one, .int .u64 s1, .bool inO, .int .u64 bS, .slice a len cap] w (EarPost (ear (ear0 one s1 inO bS) W len) w) := by
  obtain ⟨h10, h11⟩ := h1
  obtain ⟨h20, h21⟩ := h2
  have hcs := ear0_cases one s1 inO bS
  generalize ear0 one s1 inO bS = p0 at hcs ⊢
  rcases hcs with ⟨rfl, rfl, hc, hp⟩ | ⟨rfl, rfl, hc, hp⟩ | ⟨rfl, rfl, hp⟩ | ⟨rfl, rfl, hp⟩ | ⟨rfl, rfl, hp⟩
  all_goals
    have HP : Hid (p0 = _) := hp
    clear hp
    go_enter Try.func25, Try.ntmps25
    go_wp2
    go_loop [12, 13, 14] (fun f s i => ∃ k : Nat, k ≤ len ∧ i = .int .i64 k ∧ f = .bool (ear p0 W k).1 ∧ s = .int .u64 (ear p0 W k).2) (fun _ _ i => len - (intOf i).toNat)
    case atStart =>
      exact ⟨0, by omega, rfl, by rw [HP.out]; rfl, by rw [HP.out]; rfl⟩
    case round =>
      obtain ⟨k, hk, rfl, rfl, rfl⟩ := hrel
      by_cases hlt : k < len
      · have HS : Hid (ear p0 W (k + 1) = stepW (ear p0 W k) (W k)) := ear_succ _ W k
        obtain ⟨b, off, rfl, c0, c1, hu0, hu1⟩ := h k hlt
        generalize W k = wk at HS c0 c1 hu0 hu1
        obtain ⟨on, sn⟩ := wk
        generalize ear p0 W k = pk at HS ⊢
        obtain ⟨fk, sk⟩ := pk
        simp only at HS c0 c1 hu0 hu1 ⊢
        clear h
        have hcase : (on = false) ∨ (on = true ∧ fk = false) ∨ (on = true ∧ fk = true ∧ sn < sk) ∨ (on = true ∧ fk = true ∧ ¬ sn < sk) := by
          cases on <;> cases fk <;> simp
          omega
        rcases hcase with rfl | ⟨rfl, rfl⟩ | ⟨rfl, rfl, hx⟩ | ⟨rfl, rfl, hx⟩
        all_goals
          go_wp2
          go_round
          case rel =>
            have hh := HS.out
            simp [stepW, step, *] at hh
            exact ⟨k + 1, by omega, by go_num, by rw [hh], by rw [hh]⟩
          case measure => simp [intOf]; omega
      · obtain rfl : k = len := by omega
        generalize he : ear p0 W k = pk
        obtain ⟨fk, sk⟩ := pk
        have HE : Hid (ear p0 W k = (fk, sk)) := he
        clear he
        simp only
        go_wp2
        go_ret2
        exact ⟨by rw [HE.out]; rfl, rfl⟩
end Go.Proofs.Qxb6612390a
