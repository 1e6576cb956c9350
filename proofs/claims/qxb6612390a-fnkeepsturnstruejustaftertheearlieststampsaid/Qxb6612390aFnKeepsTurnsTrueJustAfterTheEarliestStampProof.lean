/-
  Law FnKeepsTurnsTrueJustAfterTheEarliestStamp: the law's own walk and the row's step (after the guide's shell for slices).
-/
import Derived.Test.Qxb6612390aKeeps3
import Derived.Deep.SlicePairs
namespace Go.Proofs.Qxb6612390a.fnKeepsTurnsTrueJustAfterTheEarliestStamp
open Go.ChangeShapes Go.WideShapes Go.ChangeAt Go.RowKit
open Go.ChangeMaps (setBlock)
set_option linter.unusedVariables false

def RetBool (w : World) (e : Ending) (w' : World) : Prop := ∃ b : Bool, e = .returned (.bool b) ∧ w' = w
theorem RetBool.mk {w : World} (b : Bool) : RetBool w (.returned (.bool b)) w := ⟨b, rfl, rfl⟩

set_option maxHeartbeats 400000 in
theorem bytes_any (one : Bool) (s1 : Int) (inO : Bool) (bS : Int) (a1 : Option Addr) (l1 c1 : Nat) (a2 : Option Addr) (l2 c2 : Nat) (t : Int) (w : World) (hl1 : l1 ≤ maxLen) (hl2 : l2 ≤ maxLen) :
    Calls Try.prog 24 #[.bool one, .int .u64 s1, .bool inO, .int .u64 bS, .slice a1 l1 c1, .slice a2 l2 c2, .int .u64 t] w (RetBool w) := by
  unfold maxLen at hl1 hl2
  go_enter Try.func24, Try.ntmps24
  go_wp2
  all_goals
    go_ret
    exact RetBool.mk _

theorem keeps_val (one : Bool) (ob bb : Nat) (s1 : Int) (inO : Bool) (bS : Int) (n : Nat) (W : Nat → Bool × Int) (f : Bool) (s : Int) (h : ear (ear0 one s1 inO bS) W n = (f, s)) (hob : (ob == bb) = one) (hx : ¬ (one = true ∧ inO = true)) (t : Int) :
    ((holdF ob bb inO && decide (holdS ob bb s1 inO bS < t)) || anyW W n t) = (f && decide (s < t)) := by
  have h1 := ear_law (ear0 one s1 inO bS) W t n
  rw [h] at h1
  rw [h1]
  congr 1
  unfold holdF holdS
  rw [hob]
  cases one
  · have hne : ob ≠ bb := by
      intro e
      subst e
      simp at hob
    rw [if_neg hne]
    cases inO
    · simp [ear0]
    · simp [ear0, step]
  · have he : ob = bb := by simpa using hob
    rw [if_pos he]
    cases inO
    · simp [ear0]
    · exact absurd ⟨rfl, rfl⟩ hx

set_option maxRecDepth 100000 in
set_option maxHeartbeats 1000000 in
theorem walk (one : Bool) (s1 : Int) (inO : Bool) (bS : Int) (a1 : Option Addr) (l1 c1 : Nat) (Z : Nat → Int) (a2 : Option Addr) (l2 c2 : Nat) (W : Nat → Bool × Int) (t : Int) (w : World)
    (hl1 : l1 ≤ maxLen) (hl2 : l2 ≤ maxLen) (hZ : Nums w a1 l1 Z) (hW : Waits w a2 l2 W) (u1 : U64 s1) (u2 : U64 bS) (u3 : U64 t) :
    Calls Try.prog 6 #[.bool one, .int .u64 s1, .bool inO, .int .u64 bS, .slice a1 l1 c1, .slice a2 l2 c2, .int .u64 t] w fun e w' => e = .returned (.bool true) ∧ Below w.heap.size w w' := by
  go_enter Try.func6, Try.ntmps6
  go_wp2_with fail
  refine (bytes_any one s1 inO bS a1 l1 c1 a2 l2 c2 t w hl1 hl2).mono ?_
  rintro e w' ⟨b, rfl, hw⟩
  subst hw
  cases b
  · go_wp2_with fail
    go_ret
    exact ⟨rfl, Below.refl _ _⟩
  unfold maxLen at hl1 hl2
  by_cases h1 : l1 ≤ 65536
  · by_cases h2 : l2 ≤ 65536
    · by_cases h3 : 8 * l1 + 16 * l2 ≤ 1048576
      · by_cases hx : one = true ∧ inO = true
        · obtain ⟨rfl, rfl⟩ := hx
          go_wp2_with fail
          go_ret
          exact ⟨rfl, Below.refl _ _⟩
        · have hpk : ∃ f s, ear (ear0 one s1 inO bS) W l2 = (f, s) := ⟨_, _, rfl⟩
          obtain ⟨f, s, hfs⟩ := hpk
          have hus := ear_u64 (ear0 one s1 inO bS) W l2 (ear0_u64 one s1 inO bS u1 u2) (fun i hi => by
            obtain ⟨_, _, _, _, _, hu⟩ := hW i hi
            exact hu) l2 (Nat.le_refl _)
          rw [hfs] at hus
          obtain ⟨hs0, hs1⟩ := hus
          simp only at hs0 hs1
          have HFS : Hid (ear (ear0 one s1 inO bS) W l2 = (f, s)) := hfs
          have hin : one = false ∨ (one = true ∧ inO = false) := by
            cases one
            · exact .inl rfl
            · cases inO
              · exact .inr ⟨rfl, rfl⟩
              · exact absurd ⟨rfl, rfl⟩ hx
          clear hfs hx
          obtain ⟨u30, u31⟩ := u3
          rcases hin with rfl | ⟨rfl, rfl⟩
          all_goals
            go_wp2_with fail
            refine (earliest_any _ _ _ _ _ _ _ W _ h2 hW u1 u2).mono ?_
            rintro e w2 ⟨rfl, hw⟩
            rw [hw, HFS.out]
            clear hw
            go_wp2_with fail
            refine (build_any _ _ _ _ _ _ _ Z _ _ _ W _ h1 h2 hZ hW).mono ?_
            rintro e w3 ⟨rb, bb, ob, mv, wb, rfl, hks, hob, hb3⟩
            have HV := fun t => keeps_val _ ob bb s1 _ bS l2 W f s HFS.out hob (fun hh => by simp at hh) t
            have HVH : Hid (∀ t, ((holdF ob bb _ && decide (holdS ob bb s1 _ bS < t)) || anyW W l2 t) = (f && decide (s < t))) := HV
            clear HV hob hZ hW u1 u2 HFS
            go_wp2_with fail
            refine (keeps_any hks h2 _).mono ?_
            rintro e w4 ⟨rfl, hb4⟩
            rw [HVH.out]
            have hks4 := hks.below hb4
            have hb4' := hb3.trans (hb4.mono hb3.size)
            clear hks hb3 hb4
            cases f
            · go_wp2_with fail
              refine (keeps_any hks4 h2 _).mono ?_
              rintro e w5 ⟨rfl, hb5⟩
              rw [HVH.out]
              have hb5' := hb4'.trans (hb5.mono hb4'.size)
              go_wp2_with fail
              go_ret
              exact ⟨rfl, hb5'⟩
            · by_cases hst : s < t
              all_goals
                simp only [hst, decide_true, decide_false, Bool.and_true, Bool.and_false]
                go_wp2_with fail
                refine (keeps_any hks4 h2 _).mono ?_
                rintro e w5 ⟨rfl, hb5⟩
                rw [HVH.out]
                have hks5 := hks4.below hb5
                have hb5' := hb4'.trans (hb5.mono hb4'.size)
                clear hks4 hb4' hb5
                have hss : ¬ s < s := by omega
                simp only [hss, decide_false, Bool.and_false]
                by_cases hmax : s = 18446744073709551615
                · have hm1 : (s == 18446744073709551615) = true := beq_iff_eq.2 hmax
                  clear hmax
                  go_wp2_with fail
                  go_ret
                  exact ⟨rfl, hb5'⟩
                · have hm1 : (s == 18446744073709551615) = false := beq_eq_false_iff_ne.2 hmax
                  have hle : s ≤ 18446744073709551614 := by omega
                  clear hmax
                  go_wp2_with fail
                  refine (keeps_any hks5 h2 _).mono ?_
                  rintro e w6 ⟨rfl, hb6⟩
                  rw [HVH.out]
                  have hb6' := hb5'.trans (hb6.mono hb5'.size)
                  have hs1' : s < s + 1 := by omega
                  simp only [hs1', decide_true, Bool.and_true]
                  go_wp2_with fail
                  go_ret
                  exact ⟨rfl, hb6'⟩
      · go_wp2_with fail
        go_ret
        exact ⟨rfl, Below.refl _ _⟩
    · go_wp2_with fail
      go_ret
      exact ⟨rfl, Below.refl _ _⟩
  · go_wp2_with fail
    go_ret
    exact ⟨rfl, Below.refl _ _⟩

theorem own : ownKnob Try.prog.godebug = none := by kernel_rfl
theorem laidOut : laidOutB Try.prog = true := by kernel_rfl
theorem cells114 : Try.prog.cellsOf 114 = 2 := by kernel_rfl
theorem cells4 : Try.prog.cellsOf 4 = 1 := by kernel_rfl
theorem cells31 : Try.prog.cellsOf 31 = 1 := by kernel_rfl
theorem cells_plain {w : World} {a : Addr} {v : Value} (h : w.cell? (a.add 0) = some v) : ∃ b off, a = ⟨b, off, none⟩ := by
  obtain ⟨b, off, spot⟩ := a
  have hspot : spot = none := by simpa [Addr.add] using World.cell?_spot h
  subst hspot
  exact ⟨b, off, rfl⟩

theorem nums_of {H : Type} {enc : TypeId × Value → H} {W : World} {a : Option Addr} {len cap : Nat} {d : DataW H} {p : List MemPlace}
    (h : DataW.Trod enc Try.prog W 0 (fun _ => true) true 52 (.slice a len cap) d p) : ∃ Z, len ≤ maxLen ∧ Nums W a len Z := by
  obtain ⟨fuel, hf⟩ := h
  rcases open_ints Try.underlying52 Try.underlying31 cells31 hf with ⟨hcs, _⟩ | ⟨x, l, c, zs, hcs, _, hl, hm, hz, _, hcell, hwz⟩
  · simp [Value.cells] at hcs
    obtain ⟨rfl, rfl, rfl⟩ := hcs
    exact ⟨fun _ => 0, by unfold maxLen; omega, fun i hi => by omega⟩
  · simp [Value.cells] at hcs
    obtain ⟨rfl, rfl, rfl⟩ := hcs
    have hz' : zs.length = cap := by simpa using hz
    refine ⟨fun i => zs.getD i 0, by omega, fun i hi => ?_⟩
    obtain ⟨b, off, rfl⟩ := cells_plain (hcell 0 (by omega))
    refine ⟨b, off, rfl, ?_⟩
    have := hcell i (by omega)
    rwa [add_plain] at this

theorem waits_of {H : Type} {enc : TypeId × Value → H} {W : World} {a : Option Addr} {len cap : Nat} {d : DataW H} {p : List MemPlace}
    (h : DataW.Trod enc Try.prog W 0 (fun _ => true) true 53 (.slice a len cap) d p) : ∃ F, len ≤ maxLen ∧ Waits W a len F := by
  obtain ⟨fuel, hf⟩ := h
  rcases Go.Deep.open_slice_pairs Try.underlying53 Try.underlying114 cells114 rfl rfl cells4 cells31 hf with ⟨hcs, _⟩ | ⟨x, l, c, m, n, V0, V1, D0, D1, P0, P1, hcs, _, hl, hm, hmm, _, hx⟩
  · simp [Value.cells] at hcs
    obtain ⟨rfl, rfl, rfl⟩ := hcs
    exact ⟨fun _ => (false, 0), by unfold maxLen; omega, fun i hi => by omega⟩
  · simp [Value.cells] at hcs
    obtain ⟨rfl, rfl, rfl⟩ := hcs
    simp at hmm
    subst hmm
    have each : ∀ i, i < m → ∃ q : Bool × Int, V0 i = .bool q.1 ∧ V1 i = .int .u64 q.2 ∧ U64 q.2 := fun i hi => by
      obtain ⟨_, _, h2, h3⟩ := hx i hi
      obtain ⟨b, hb, _⟩ := DataW.trod_bool Try.underlying4 h2
      obtain ⟨z, hz, _, hw⟩ := DataW.trod_int Try.underlying31 h3
      exact ⟨(b, z), by simpa using hb, by simpa using hz, bounds_u64 hw⟩
    obtain ⟨F, hF⟩ := Go.Deep.choose_lt each
    refine ⟨F, by omega, fun i hi => ?_⟩
    obtain ⟨b, off, rfl⟩ := cells_plain (by simpa using (hx 0 (by omega)).1)
    obtain ⟨h0, h1, _, _⟩ := hx i (by omega)
    obtain ⟨e0, e1, e2⟩ := hF i (by omega)
    rw [add_plain, e0] at h0
    rw [add_plain, e1] at h1
    exact ⟨b, off, rfl, h0, h1, e2⟩

set_option maxRecDepth 100000 in
theorem lifted (os : Os) (started : os.Started) (H : Type) (enc : TypeId × Value → H) :
    ReturnsInHanded {} Try.checked os 6 .any (Rows.fnKeepsTurnsTrueJustAfterTheEarliestStampSpec.pre6 enc Try.prog Try.f6 Rows.fnKeepsTurnsTrueJustAfterTheEarliestStampRow.domain false) (Rows.fnKeepsTurnsTrueJustAfterTheEarliestStampSpec.post enc Try.prog Try.f6 false true false false) := by
  refine returnsInHanded_of_change (C := Try.checked) own started (by kernel_rfl) Try.func6
    (ChangeSpec.witness6 (enc := enc) (C := Try.checked) false ⟨#[], #[.bool false, .int .u64 0, .bool false, .int .u64 0, .slice none 0 0, .slice none 0 0, .int .u64 0], []⟩ 8 (by kernel_rfl) (by kernel_rfl) (by kernel_rfl) (by kernel_rfl)) ?_
  intro W base args ds gs before hval0 hW hcnd _
  have hval : ∀ (j : Nat) t v, Try.f6.params[j]? = some t → args[j]? = some v → Value.okWide Try.prog W .any base t v := hval0
  have hW' := hW
  obtain ⟨p, q, hA0, hV, rfl, hfz, hnd⟩ := hW
  have hA : DataW.TrodAll enc Try.prog W 0 (fun _ => true) true Try.f6.params.toList args.toList ds p := hA0
  rw [Try.params6] at hA hval
  obtain ⟨v0, vs0, d0, ds0, p0, q0, hargs, rfl, rfl, h0, r0⟩ := trodAll_cons hA
  obtain ⟨v1, vs1, d1, ds1, p1, q1, rfl, rfl, rfl, h1, r1⟩ := trodAll_cons r0
  obtain ⟨v2, vs2, d2, ds2, p2, q2, rfl, rfl, rfl, h2, r2⟩ := trodAll_cons r1
  obtain ⟨v3, vs3, d3, ds3, p3, q3, rfl, rfl, rfl, h3, r3⟩ := trodAll_cons r2
  obtain ⟨v4, vs4, d4, ds4, p4, q4, rfl, rfl, rfl, h4, r4⟩ := trodAll_cons r3
  obtain ⟨v5, vs5, d5, ds5, p5, q5, rfl, rfl, rfl, h5, r5⟩ := trodAll_cons r4
  obtain ⟨v6, vs6, d6, ds6, p6, q6, rfl, rfl, rfl, h6, r6⟩ := trodAll_cons r5
  obtain ⟨rfl, rfl, rfl⟩ := trodAll_nil r6
  obtain rfl : args = #[v0, v1, v2, v3, v4, v5, v6] := by cases args; simp_all
  obtain ⟨rfl, rfl⟩ := trodVars_none hV
  obtain ⟨a0, rfl, rfl, rfl⟩ := open_bool Try.underlying4 (hval 0 4 v0 rfl rfl) h0
  obtain ⟨a1, rfl, rfl, rfl, w1⟩ := open_int Try.underlying31 (hval 1 31 v1 rfl rfl) h1
  obtain ⟨a2, rfl, rfl, rfl⟩ := open_bool Try.underlying4 (hval 2 4 v2 rfl rfl) h2
  obtain ⟨a3, rfl, rfl, rfl, w3⟩ := open_int Try.underlying31 (hval 3 31 v3 rfl rfl) h3
  obtain ⟨a4, len4, cap4, rfl⟩ := okWide_slice Try.underlying52 (hval 4 52 v4 rfl rfl)
  have k4 := h4
  have lt4 : ∀ x ∈ p4, x.block < W.heap.size := by obtain ⟨m, hm⟩ := k4; exact DataW.trod_lt m _ _ _ hm
  obtain ⟨Z, hl4, hZ⟩ := nums_of h4
  obtain ⟨a5, len5, cap5, rfl⟩ := okWide_slice Try.underlying53 (hval 5 53 v5 rfl rfl)
  have k5 := h5
  have lt5 : ∀ x ∈ p5, x.block < W.heap.size := by obtain ⟨m, hm⟩ := k5; exact DataW.trod_lt m _ _ _ hm
  obtain ⟨F, hl5, hF⟩ := waits_of h5
  obtain ⟨a6, rfl, rfl, rfl, w6⟩ := open_int Try.underlying31 (hval 6 31 v6 rfl rfl) h6
  clear hA0 hval0
  refine (walk a0 a1 a2 a3 a4 len4 cap4 Z a5 len5 cap5 F a6 W hl4 hl5 hZ hF (bounds_u64 w1) (bounds_u64 w3) (bounds_u64 w6)).mono fun e W' ⟨he, bel⟩ => ?_
  subst he
  exact ⟨_, rfl, _, _, _, [], _, [], hW', trodAll_mk1 (shut_bool Try.underlying4 _), (trodAll_cons_mk (shut_bool Try.underlying4 _) (trodAll_cons_mk (shut_int Try.underlying31 w1) (trodAll_cons_mk (shut_bool Try.underlying4 _) (trodAll_cons_mk (shut_int Try.underlying31 w3) (trodAll_cons_mk (Below.trod laidOut (by kernel_rfl) (of_decide_eq_true (by kernel_rfl)) k4 bel lt4) (trodAll_cons_mk (Below.trod laidOut (by kernel_rfl) (of_decide_eq_true (by kernel_rfl)) k5 bel lt5) (trodAll_cons_mk (shut_int Try.underlying31 w6) trodAll_mk0))))))), rfl, bel.frame _, fun h => by cases h⟩

theorem over : Rows.fnKeepsTurnsTrueJustAfterTheEarliestStampRow.holds Try.pinned (OpenSpec.ofChange Rows.fnKeepsTurnsTrueJustAfterTheEarliestStampSpec) :=
  OpenClaim.holds_of_wide 6 Try.f6 rfl rfl rfl rfl rfl rfl rfl ⟨rfl, rfl, rfl, rfl, rfl⟩ rfl rfl rfl rfl rfl (by kernel_rfl) Try.func6 (by kernel_rfl)
    (of_decide_eq_true (by kernel_rfl)) (by unfold Func.isWrapper; first | (rw [if_pos (by decide +kernel)]; kernel_rfl) | (rw [if_neg (by decide +kernel)]; exact ⟨rfl, rfl⟩))
    (fun os started H enc _ => lifted os started H enc)

/-- ████ THE STATEMENT ████ -/
theorem proved : Rows.FnKeepsTurnsTrueJustAfterTheEarliestStampSaid := over
#print axioms proved
end Go.Proofs.Qxb6612390a.fnKeepsTurnsTrueJustAfterTheEarliestStamp
