/-
  The script of setQueue calls: the table, the resources and the lengths between two steps, and what one call makes of them.
-/
import Derived.Test.Qxb6612390aMaking
namespace Go.Proofs.Qxb6612390a.fnSetQueueScriptKeepsQueuedListExact
open Go.ChangeShapes Go.WideShapes Go.ChangeAt Go.RowKit
set_option linter.unusedVariables false

def cnt (f : Nat → Nat) : Nat → Nat
  | 0 => 0
  | n + 1 => cnt f n + if 0 < f n then 1 else 0
def upd (f : Nat → Nat) (r v : Nat) (j : Nat) : Nat := if j = r then v else f j
theorem upd_same (f : Nat → Nat) (r v : Nat) : upd f r v r = v := by simp [upd]
theorem upd_other (f : Nat → Nat) (r v : Nat) {j : Nat} (h : j ≠ r) : upd f r v j = f j := by simp [upd, h]
theorem cnt_upd_ge (f : Nat → Nat) (r v : Nat) : ∀ n, n ≤ r → cnt (upd f r v) n = cnt f n
  | 0, _ => rfl
  | n + 1, h => by
    unfold cnt
    rw [cnt_upd_ge f r v n (by omega), upd_other f r v (by omega)]
theorem cnt_upd (f : Nat → Nat) (r v : Nat) : ∀ n, r < n → cnt (upd f r v) n + (if 0 < f r then 1 else 0) = cnt f n + (if 0 < v then 1 else 0)
  | 0, h => by omega
  | n + 1, h => by
    unfold cnt
    by_cases e : r = n
    · subst e
      rw [cnt_upd_ge f r v r (Nat.le_refl _), upd_same]
      omega
    · have := cnt_upd f r v n (by omega)
      rw [upd_other f r v (Ne.symm e)]
      omega
theorem cnt_le (f : Nat → Nat) : ∀ n, cnt f n ≤ n
  | 0 => Nat.le_refl _
  | n + 1 => by
    unfold cnt
    have := cnt_le f n
    split <;> omega

/-- The lengths' array. -/
def Lens (w : World) (lb nres : Nat) (La : Nat → Nat) : Prop := ∃ c, w.heap[lb]? = some (.cells c 3 (0, 0)) ∧ c.size = nres ∧ ∀ j, j < nres → c[j]? = some (.int .i64 (La j : Nat))

/-- Between two steps. -/
structure Sc (tb rsb nres : Nat) (Ln Qa : Nat → Nat) (L : List Nat) (wr : World) : Prop where
  tab : ∃ ua uc, Tab wr tb (.slice ua L.length uc) ∧ wr.ownsRow (rsb + 1) 36 1 (.slice ua L.length uc) L.length (L.map ptr)
  rs : Arr wr 36 rsb nres (fun j => rsb + 1 + j)
  res : ∀ j, j < nres → ∃ a c, Res wr (rsb + 1 + j) (.slice a (Ln j) c) (Qa j : Nat) 0
  small : ∀ j, j < nres → Ln j ≤ 65536
  cn : L.length = cnt Ln nres
  fwd : ∀ j, j < nres → 0 < Ln j → L[Qa j]? = some (rsb + 1 + j)
  bwd : ∀ (i b : Nat), L[i]? = some b → ∃ j, j < nres ∧ b = rsb + 1 + j ∧ 0 < Ln j ∧ Qa j = i

/-- Blocks of other kinds stay. -/
def Tags (w w' : World) : Prop := ∀ (b : Nat) (c : Array Value) (t : TypeId), w.heap[b]? = some (.cells c t (0, 0)) → t ≠ 78 → t ≠ 92 → t ≠ 111 → t ≠ 36 → w'.heap[b]? = some (.cells c t (0, 0))
theorem Tags.refl (w : World) : Tags w w := fun _ _ _ h _ _ _ _ => h
theorem Tags.trans {a b c : World} (h : Tags a b) (k : Tags b c) : Tags a c := fun x y t hx h1 h2 h3 h4 => k x y t (h x y t hx h1 h2 h3 h4) h1 h2 h3 h4
theorem Tags.of_fr {S : Nat → Prop} {w w' : World} (hf : Fr S w w') (hS : ∀ b, S b → ∃ c t, w.heap[b]? = some (.cells c t (0, 0)) ∧ (t = 78 ∨ t = 92 ∨ t = 111 ∨ t = 36)) : Tags w w' := fun b c t hb h1 h2 h3 h4 => by
  refine (hf.block b (heap_lt hb) (fun hs => ?_)).trans hb
  obtain ⟨c', t', hc, ht⟩ := hS b hs
  rw [hb] at hc
  simp at hc
  rcases ht with e | e | e | e
  · exact h1 (hc.2.trans e)
  · exact h2 (hc.2.trans e)
  · exact h3 (hc.2.trans e)
  · exact h4 (hc.2.trans e)

theorem Sc.fr {tb rsb nres : Nat} {Ln Qa : Nat → Nat} {L : List Nat} {wr w' : World} (h : Sc tb rsb nres Ln Qa L wr) (hb : Below wr.heap.size wr w') : Sc tb rsb nres Ln Qa L w' := by
  have hf : Fr (fun _ => False) wr w' := Fr.of_below hb
  obtain ⟨⟨ua, uc, h1, h2⟩, h3, h4, h5, h6, h7, h8⟩ := h
  refine ⟨⟨ua, uc, h1.fr hf (fun h => h), own_fr h2 hf (fun _ _ h => h)⟩, h3.fr hf (fun h => h), fun j hj => ?_, h5, h6, h7, h8⟩
  obtain ⟨a, c, hr⟩ := h4 j hj
  exact ⟨a, c, hr.fr hf (fun h => h)⟩

/-- What a call leaves. -/
def ScP (tb rsb nres : Nat) (Ln : Nat → Nat) (r qb ql B : Nat) (w : World) (e : Ending) (w' : World) : Prop :=
  e = .returned (.tuple #[]) ∧ (∃ Qa' L', Sc tb rsb nres (upd Ln r ql) Qa' L' w' ∧ Res w' (rsb + 1 + r) (.slice (some ⟨qb, 0, none⟩) ql ql) (Qa' r : Nat) 0) ∧ Reqs w' ql (fun j => qb + 1 + j) (fun j : Nat => (j : Int)) ∧ Tags w w' ∧ Below B w w'

theorem newAt0 (A : Nat → Int) : newAt 0 A = fun j : Nat => (j : Int) := by
  funext j
  simp [newAt]

section
variable {tb rsb nres : Nat} {Ln Qa : Nat → Nat} {L : List Nat} {w : World} {B qb ql r : Nat}

theorem own_some' {w : World} {base n : Nat} {ua : Option Addr} {l uc : Nat} {xs : List Value} (h : w.ownsRow base 36 1 (.slice ua l uc) n xs) (hn : 0 < n) : ∃ ub, ua = some ⟨ub, 0, none⟩ := by
  rcases h.2 with ⟨_, hh⟩ | ⟨g, cap, cur, hh, _⟩
  · omega
  · simp at hh
    exact ⟨g, hh.1⟩

theorem call_step (h : Sc tb rsb nres Ln Qa L w) (hr : r < nres) (hn : nres ≤ 4096) (hql : ql ≤ 65536) (A : Nat → Int) (harr : Arr w 34 qb ql (fun j => qb + 1 + j)) (hreq : Reqs w ql (fun j => qb + 1 + j) A)
    (hB1 : B ≤ w.heap.size) (hB2 : B ≤ qb) (hB3 : B ≤ rsb) (hB4 : B ≤ tb) :
    Calls Try.prog 16 #[ptr tb, ptr (rsb + 1 + r), .slice (some ⟨qb, 0, none⟩) ql ql, .int .i64 0] w (ScP tb rsb nres Ln r qb ql B w) := by
  obtain ⟨oa, oc, hres⟩ := h.res r hr
  obtain ⟨ua, uc, htab, hown⟩ := h.tab
  have hask : Ask w (rsb + 1 + r) qb ql (fun j => qb + 1 + j) A (.slice oa (Ln r) oc) (Qa r : Nat) 0 := ⟨harr, hreq, inj_add ql qb, hres⟩
  have hLn := h.small r hr
  have hcl := cnt_le Ln nres
  have hcn := h.cn
  have hcu := cnt_upd Ln r ql nres hr
  have hrl : rsb + 1 ≤ w.heap.size := by
    obtain ⟨c, hc, _⟩ := h.rs
    exact heap_lt hc
  have hsm : ∀ j, j < nres → upd Ln r ql j ≤ 65536 := fun j hj => by
    unfold upd
    split
    · exact hql
    · exact h.small j hj
  -- kinds of the blocks
  have krq : ∀ b, (∃ j, j < ql ∧ b = qb + 1 + j) → ∃ c t, w.heap[b]? = some (.cells c t (0, 0)) ∧ (t = 78 ∨ t = 92 ∨ t = 111 ∨ t = 36) := fun b ⟨j, hj, e⟩ => by
    subst e
    exact ⟨_, _, hreq j hj, .inl rfl⟩
  have krs : ∀ b j, j < nres → b = rsb + 1 + j → ∃ c t, w.heap[b]? = some (.cells c t (0, 0)) ∧ (t = 78 ∨ t = 92 ∨ t = 111 ∨ t = 36) := fun b j hj e => by
    subst e
    obtain ⟨a, c, hr⟩ := h.res j hj
    exact ⟨_, _, hr, .inr (.inl rfl)⟩
  have ktb : ∀ b, b = tb → ∃ c t, w.heap[b]? = some (.cells c t (0, 0)) ∧ (t = 78 ∨ t = 92 ∨ t = 111 ∨ t = 36) := fun b e => by
    subst e
    obtain ⟨d, hd, _⟩ := htab
    exact ⟨_, _, hd, .inr (.inr (.inl rfl))⟩
  have kow : ∀ b, (Value.slice ua L.length uc).ownBlock = some b → ∃ c t, w.heap[b]? = some (.cells c t (0, 0)) ∧ (t = 78 ∨ t = 92 ∨ t = 111 ∨ t = 36) := fun b e => by
    obtain ⟨d, hd⟩ := own_tag hown e
    exact ⟨_, _, hd, .inr (.inr (.inr rfl))⟩
  have hrsT : ∀ {w' : World} {S : Nat → Prop}, Fr S w w' → (¬ S rsb) → Arr w' 36 rsb nres (fun j => rsb + 1 + j) := fun hf hn => h.rs.fr hf hn
  have rsq : ∀ j, j < ql → rsb ≠ qb + 1 + j := fun j hj => by
    obtain ⟨c, hc, _⟩ := h.rs
    exact ne_tag hc (hreq j hj) (by decide)
  have rst : rsb ≠ tb := by
    obtain ⟨c, hc, _⟩ := h.rs
    obtain ⟨d, hd, _⟩ := htab
    exact ne_tag hc hd (by decide)
  have rsr : ∀ j, rsb ≠ rsb + 1 + j := fun j => by omega
  have rso : ∀ g, (Value.slice ua L.length uc).ownBlock = some g → rsb + 1 ≤ g := fun g hg => (hown.lt g hg).1
  by_cases h0 : 0 < Ln r
  · by_cases h1 : 0 < ql
    · refine (zzSet_any (fun e w' hq => hq.1) (setQueue_keep tb (rsb + 1 + r) qb ql ql 0 _ _ _ _ _ _ _ _ hask hql hLn (by omega) ⟨fun _ => h1, fun _ => h0⟩)).mono ?_
      rintro e w' ⟨rfl, k1, k2, k3⟩
      rw [newAt0] at k1
      have hS : ∀ b, Touch ql (fun j => qb + 1 + j) (rsb + 1 + r) (fun _ => False) b → ∃ c t, w.heap[b]? = some (.cells c t (0, 0)) ∧ (t = 78 ∨ t = 92 ∨ t = 111 ∨ t = 36) := by
        rintro b (hb | hb | hb)
        · exact krq b hb
        · exact krs b r hr hb
        · exact hb.elim
      have hn1 : ¬ Touch ql (fun j => qb + 1 + j) (rsb + 1 + r) (fun _ => False) rsb := by
        rintro (⟨j, hj, e⟩ | e | e)
        · exact rsq j hj e
        · exact rsr r e
        · exact e
      refine ⟨rfl, ⟨Qa, L, ⟨⟨ua, uc, htab.fr k3 ?_, own_fr hown k3 ?_⟩, hrsT k3 hn1, ?_, hsm, ?_, ?_, ?_⟩, k2⟩, k1, Tags.of_fr k3 hS, k3.below hB1 ?_⟩
      · rintro (⟨j, hj, e⟩ | e | e)
        · obtain ⟨d, hd, _⟩ := htab
          exact ne_tag hd (hreq j hj) (by decide) e
        · obtain ⟨d, hd, _⟩ := htab
          exact ne_tag hd hres (by decide) e
        · exact e
      · rintro g hg (⟨j, hj, e⟩ | e | e)
        · obtain ⟨d, hd⟩ := own_tag hown hg
          exact ne_tag hd (hreq j hj) (by decide) e
        · obtain ⟨d, hd⟩ := own_tag hown hg
          exact ne_tag hd hres (by decide) e
        · exact e
      · intro j hj
        by_cases e : j = r
        · subst e
          rw [upd_same]
          exact ⟨_, _, k2⟩
        · rw [upd_other _ _ _ e]
          obtain ⟨a, c, hrj⟩ := h.res j hj
          refine ⟨a, c, hrj.fr k3 ?_⟩
          rintro (⟨i, hi, e'⟩ | e' | e')
          · exact ne_tag hrj (hreq i hi) (by decide) e'
          · omega
          · exact e'
      · rw [hcn]
        rw [if_pos h0, if_pos h1] at hcu
        omega
      · intro j hj hp
        by_cases e : j = r
        · subst e
          exact h.fwd j hj h0
        · rw [upd_other _ _ _ e] at hp
          exact h.fwd j hj hp
      · intro i b hb
        obtain ⟨j, hj, e1, e2, e3⟩ := h.bwd i b hb
        refine ⟨j, hj, e1, ?_, e3⟩
        by_cases e : j = r
        · subst e
          rw [upd_same]
          exact h1
        · rw [upd_other _ _ _ e]
          exact e2
      · rintro b hb (⟨j, hj, e⟩ | e | e)
        · have e' : b = qb + 1 + j := e
          omega
        · omega
        · exact e
    · obtain rfl : ql = 0 := by omega
      have hlp : 0 < L.length := by
        have := (List.getElem?_eq_some_iff.1 (h.fwd r hr h0)).1
        omega
      obtain ⟨ub, rfl⟩ := own_some' hown hlp
      obtain ⟨m, hm⟩ : ∃ m, L[L.length - 1]? = some m := ⟨_, List.getElem?_eq_getElem (by omega)⟩
      obtain ⟨jm, hjm, rfl, hjp, hjq⟩ := h.bwd _ _ hm
      obtain ⟨ma, mc, hmr⟩ := h.res jm hjm
      have hpl := (List.getElem?_eq_some_iff.1 (h.fwd r hr h0)).1
      have hne : (rsb + 1 + jm = rsb + 1 + r ∧ Qa r = L.length - 1) ∨ (rsb + 1 + jm ≠ rsb + 1 + r ∧ Qa r < L.length - 1) := by
        by_cases e : jm = r
        · subst e
          exact .inl ⟨rfl, hjq⟩
        · refine .inr ⟨by omega, ?_⟩
          have : Qa r ≠ L.length - 1 := fun e' => by
            have hf := h.fwd r hr h0
            rw [e', hm] at hf
            simp at hf
            omega
          omega
      refine (zzSet_any (fun e w' hq => hq.1) (setQueue_drop tb (rsb + 1 + r) qb 0 0 (fun j => qb + 1 + j) A oa (Ln r) oc (Qa r) 0 w (rsb + 1) ub uc L (rsb + 1 + jm) _ _ _ hask htab hown hmr (by omega) hpl (h.fwd r hr h0) hm hLn h0 hne (by omega))).mono ?_
      rintro e w' ⟨rfl, k1, k2, k3, k4, k5⟩
      have hLl : ((L.set (Qa r) (rsb + 1 + jm)).take (L.length - 1)).length = L.length - 1 := by simp
      have hS : ∀ b, (b = rsb + 1 + r ∨ b = tb ∨ b = ub ∨ b = rsb + 1 + jm) → ∃ c t, w.heap[b]? = some (.cells c t (0, 0)) ∧ (t = 78 ∨ t = 92 ∨ t = 111 ∨ t = 36) := by
        rintro b (hb | hb | hb | hb)
        · exact krs b r hr hb
        · exact ktb b hb
        · exact kow b (by rw [hb]; rfl)
        · exact krs b jm hjm hb
      have hubg := rso ub rfl
      have hq : (upd Qa jm (Qa r)) r = Qa r := by
        by_cases e : r = jm
        · subst e
          rw [upd_same]
        · rw [upd_other _ _ _ e]
      refine ⟨rfl, ⟨upd Qa jm (Qa r), (L.set (Qa r) (rsb + 1 + jm)).take (L.length - 1), ⟨⟨some ⟨ub, 0, none⟩, uc, by rw [hLl]; exact k3, by rw [hLl]; exact k4⟩, hrsT k5 ?_, ?_, hsm, ?_, ?_, ?_⟩, ?_⟩, fun j hj => absurd hj (by omega), Tags.of_fr k5 hS, k5.below hB1 ?_⟩
      · rintro (e | e | e | e)
        · omega
        · exact rst e
        · omega
        · omega
      · intro j hj
        by_cases e : j = r
        · subst e
          rw [upd_same, hq]
          exact ⟨_, _, k1⟩
        · rw [upd_other _ _ _ e]
          by_cases e2 : j = jm
          · subst e2
            rw [upd_same]
            exact ⟨_, _, k2 (by omega)⟩
          · rw [upd_other _ _ _ e2]
            obtain ⟨a, c, hrj⟩ := h.res j hj
            refine ⟨a, c, hrj.fr k5 ?_⟩
            rintro (e' | e' | e' | e')
            · omega
            · obtain ⟨d, hd, _⟩ := htab
              exact ne_tag hrj hd (by decide) e'
            · obtain ⟨d, hd⟩ := own_tag hown rfl
              exact ne_tag hrj hd (by decide) e'
            · omega
      · rw [hLl]
        rw [if_pos h0, if_neg (by omega)] at hcu
        omega
      · intro j hj hp
        by_cases e : j = r
        · subst e
          rw [upd_same] at hp
          omega
        · rw [upd_other _ _ _ e] at hp
          have hf := h.fwd j hj hp
          have hjl := (List.getElem?_eq_some_iff.1 hf).1
          by_cases e2 : j = jm
          · subst e2
            rw [upd_same]
            have hlt : Qa r < L.length - 1 := by
              rcases hne with ⟨e3, _⟩ | ⟨_, e3⟩
              · omega
              · exact e3
            rw [List.getElem?_take, if_pos hlt, List.getElem?_set_self (by omega)]
          · rw [upd_other _ _ _ e2]
            have n1 : Qa j ≠ L.length - 1 := fun e' => by
              rw [e', hm] at hf
              simp at hf
              omega
            have n2 : Qa r ≠ Qa j := fun e' => by
              have hg := h.fwd r hr h0
              rw [e', hf] at hg
              simp at hg
              omega
            rw [List.getElem?_take, if_pos (by omega), List.getElem?_set_ne n2]
            exact hf
      · intro i b hb
        have hil : i < L.length - 1 := by
          have := (List.getElem?_eq_some_iff.1 hb).1
          omega
        rw [List.getElem?_take, if_pos hil] at hb
        by_cases e : Qa r = i
        · subst e
          rw [List.getElem?_set_self (by omega)] at hb
          simp at hb
          have hjr : jm ≠ r := fun e' => by
            rw [e'] at hjq
            omega
          exact ⟨jm, hjm, hb.symm, by rw [upd_other _ _ _ hjr]; exact hjp, upd_same _ _ _⟩
        · rw [List.getElem?_set_ne e] at hb
          obtain ⟨j, hj, e1, e2, e3⟩ := h.bwd i b hb
          have hjr : j ≠ r := fun e' => by
            rw [e'] at e3
            omega
          have hjm' : j ≠ jm := fun e' => by
            rw [e'] at e3
            omega
          exact ⟨j, hj, e1, by rw [upd_other _ _ _ hjr]; exact e2, by rw [upd_other _ _ _ hjm']; exact e3⟩
      · rw [hq]
        exact k1
      · rintro b hb (e | e | e | e)
        · omega
        · omega
        · omega
        · omega
  · have hz : Ln r = 0 := by omega
    by_cases h1 : 0 < ql
    · rw [hz] at hask
      refine (zzSet_any (fun e w' hq => hq.1) (setQueue_add tb (rsb + 1 + r) qb ql ql 0 (fun j => qb + 1 + j) A _ oc _ 0 w (rsb + 1) _ _ _ hask htab hown hrl (by omega) hql (by omega) h1)).mono ?_
      rintro e w' ⟨rfl, k1, k2, ⟨v', k3, k4⟩, k5⟩
      rw [newAt0] at k1
      obtain ⟨ua', uc', rfl⟩ : ∃ ua' uc', v' = .slice ua' (L.length + 1) uc' := by
        rcases k4.2 with ⟨_, hh⟩ | ⟨g, cap, cur, rfl, _⟩
        · omega
        · exact ⟨_, _, rfl⟩
      have hLl : (L ++ [rsb + 1 + r]).length = L.length + 1 := by simp
      have hLm : (L ++ [rsb + 1 + r]).map ptr = L.map ptr ++ [ptr (rsb + 1 + r)] := by simp
      have hS : ∀ b, Touch ql (fun j => qb + 1 + j) (rsb + 1 + r) (fun b => b = tb ∨ (Value.slice ua L.length uc).ownBlock = some b) b → ∃ c t, w.heap[b]? = some (.cells c t (0, 0)) ∧ (t = 78 ∨ t = 92 ∨ t = 111 ∨ t = 36) := by
        rintro b (hb | hb | hb | hb)
        · exact krq b hb
        · exact krs b r hr hb
        · exact ktb b hb
        · exact kow b hb
      refine ⟨rfl, ⟨upd Qa r L.length, L ++ [rsb + 1 + r], ⟨⟨ua', uc', by rw [hLl]; exact k3, by rw [hLl, hLm]; exact k4⟩, hrsT k5 ?_, ?_, hsm, ?_, ?_, ?_⟩, ?_⟩, k1, Tags.of_fr k5 hS, k5.below hB1 ?_⟩
      · rintro (⟨j, hj, e⟩ | e | e | e)
        · exact rsq j hj e
        · omega
        · exact rst e
        · have := rso _ e
          omega
      · intro j hj
        by_cases e : j = r
        · subst e
          rw [upd_same, upd_same]
          exact ⟨_, _, k2⟩
        · rw [upd_other _ _ _ e, upd_other _ _ _ e]
          obtain ⟨a, c, hrj⟩ := h.res j hj
          refine ⟨a, c, hrj.fr k5 ?_⟩
          rintro (⟨i, hi, e'⟩ | e' | e' | e')
          · exact ne_tag hrj (hreq i hi) (by decide) e'
          · omega
          · obtain ⟨d, hd, _⟩ := htab
            exact ne_tag hrj hd (by decide) e'
          · obtain ⟨d, hd⟩ := own_tag hown e'
            exact ne_tag hrj hd (by decide) rfl
      · rw [hLl]
        rw [if_neg h0, if_pos h1] at hcu
        omega
      · intro j hj hp
        by_cases e : j = r
        · subst e
          rw [upd_same]
          simp
        · rw [upd_other _ _ _ e] at hp ⊢
          have hf := h.fwd j hj hp
          rw [List.getElem?_append_left (List.getElem?_eq_some_iff.1 hf).1]
          exact hf
      · intro i b hb
        by_cases e : i < L.length
        · rw [List.getElem?_append_left e] at hb
          obtain ⟨j, hj, e1, e2, e3⟩ := h.bwd i b hb
          have hjr : j ≠ r := fun e' => by
            rw [e'] at e2
            omega
          exact ⟨j, hj, e1, by rw [upd_other _ _ _ hjr]; exact e2, by rw [upd_other _ _ _ hjr]; exact e3⟩
        · have hil : i = L.length := by
            have := (List.getElem?_eq_some_iff.1 hb).1
            simp at this
            omega
          subst hil
          simp at hb
          exact ⟨r, hr, hb.symm, by rw [upd_same]; exact h1, upd_same _ _ _⟩
      · rw [upd_same]
        exact k2
      · rintro b hb (⟨j, hj, e⟩ | e | e | e)
        · have e' : b = qb + 1 + j := e
          omega
        · omega
        · omega
        · have := rso _ e
          omega
    · obtain rfl : ql = 0 := by omega
      refine (zzSet_any (fun e w' hq => hq.1) (setQueue_keep tb (rsb + 1 + r) qb 0 0 0 _ _ _ _ _ _ _ _ hask hql hLn (by omega) ⟨fun hh => absurd hh h0, fun hh => absurd hh h1⟩)).mono ?_
      rintro e w' ⟨rfl, k1, k2, k3⟩
      have hS : ∀ b, Touch 0 (fun j => qb + 1 + j) (rsb + 1 + r) (fun _ => False) b → ∃ c t, w.heap[b]? = some (.cells c t (0, 0)) ∧ (t = 78 ∨ t = 92 ∨ t = 111 ∨ t = 36) := by
        rintro b (hb | hb | hb)
        · exact krq b hb
        · exact krs b r hr hb
        · exact hb.elim
      have hno : ∀ b, b ≠ rsb + 1 + r → ¬ Touch 0 (fun j => qb + 1 + j) (rsb + 1 + r) (fun _ => False) b := by
        rintro b hne (⟨j, hj, e⟩ | e | e)
        · omega
        · exact hne e
        · exact e
      have hup : ∀ j, upd Ln r 0 j = Ln j := fun j => by
        unfold upd
        split
        · rename_i e
          rw [e, hz]
        · rfl
      refine ⟨rfl, ⟨Qa, L, ⟨⟨ua, uc, htab.fr k3 (hno _ ?_), own_fr hown k3 (fun g hg => hno _ ?_)⟩, hrsT k3 (hno _ (by omega)), ?_, hsm, ?_, ?_, ?_⟩, k2⟩, fun j hj => absurd hj (by omega), Tags.of_fr k3 hS, k3.below hB1 (fun b hb => hno b (by omega))⟩
      · obtain ⟨d, hd, _⟩ := htab
        exact fun e => ne_tag hd hres (by decide) e
      · obtain ⟨d, hd⟩ := own_tag hown hg
        exact fun e => ne_tag hd hres (by decide) e
      · intro j hj
        by_cases e : j = r
        · subst e
          rw [upd_same]
          exact ⟨_, _, k2⟩
        · rw [hup]
          obtain ⟨a, c, hrj⟩ := h.res j hj
          exact ⟨a, c, hrj.fr k3 (hno _ (by omega))⟩
      · rw [hcn]
        rw [if_neg h0, if_neg h1] at hcu
        omega
      · intro j hj hp
        rw [hup] at hp
        exact h.fwd j hj hp
      · intro i b hb
        obtain ⟨j, hj, e1, e2, e3⟩ := h.bwd i b hb
        exact ⟨j, hj, e1, by rw [hup]; exact e2, e3⟩
end

/-- The resources being made. -/
structure MadeR (rsb n k : Nat) (w0 wr : World) : Prop where
  bel : Below rsb w0 wr
  size : wr.heap.size = rsb + 1 + k
  arr : ∃ c, wr.heap[rsb]? = some (.cells c 36 (0, 0)) ∧ c.size = n ∧ ∀ j, j < k → c[j]? = some (ptr (rsb + 1 + j))
  res : ∀ j, j < k → Res wr (rsb + 1 + j) (.slice none 0 0) 0 0
theorem MadeR.start (n : Nat) (w0 : World) : MadeR w0.heap.size n 0 w0 (w0.alloc (.cells (madeCells #[.pointer none] n) 36)) :=
  ⟨(Below.refl _ _).alloc (Nat.le_refl _) _, size_alloc _ _, ⟨_, heap_new _ _, size_madeCells _ _, fun j hj => by omega⟩, fun j hj => by omega⟩
theorem MadeR.step {rsb n k : Nat} {w0 wr : World} (h : MadeR rsb n k w0 wr) (hk : k < n) :
    MadeR rsb n (k + 1) w0 ((wr.setCell ⟨rsb, k, none⟩ (ptr wr.heap.size)).alloc (.cells (rsC (.slice none 0 0) 0 0) 92)) := by
  obtain ⟨h1, h2, ⟨c, hc, hs, hcj⟩, h4⟩ := h
  have hf := (fr1 wr rsb k (ptr wr.heap.size)).alloc (.cells (rsC (.slice none 0 0) 0 0) 92)
  have hz : (wr.setCell ⟨rsb, k, none⟩ (ptr wr.heap.size)).heap.size = wr.heap.size := by simp [World.setCell]
  have hn := heap_new (wr.setCell ⟨rsb, k, none⟩ (ptr wr.heap.size)) (.cells (rsC (.slice none 0 0) 0 0) 92)
  rw [hz] at hn
  refine ⟨h1.trans (hf.below (by omega) (fun b hb => by omega)), by rw [size_alloc, hz, h2]; omega, ⟨_, heap_old (heap_setCell hc k _) _, by simpa using hs, fun j hj => ?_⟩, fun j hj => ?_⟩
  · rw [Array.getElem?_setIfInBounds]
    by_cases e : k = j
    · subst e
      simp [hs, hk, h2]
    · rw [if_neg e]
      exact hcj j (by omega)
  · by_cases e : j = k
    · subst e
      rw [show rsb + 1 + j = wr.heap.size from h2.symm]
      exact hn
    · exact (h4 j (by omega)).fr hf (by omega)

/-- Nothing is queued at the start. -/
theorem Sc.start {rsb nres tb : Nat} {w0 wr w' : World} (h : MadeR rsb nres nres w0 wr) (ht : Tab w0 tb (.slice none 0 0)) (hs : w0.heap.size = rsb) (hb : Below wr.heap.size wr w') : Sc tb rsb nres (fun _ => 0) (fun _ => 0) [] w' := by
  obtain ⟨h1, h2, ⟨c, hc, hcs, hcj⟩, h4⟩ := h
  have hf : Fr (fun _ => False) wr w' := Fr.of_below hb
  have hf0 : Fr (fun _ => False) w0 wr := Fr.of_below (by rw [hs]; exact h1)
  have hc0 : ∀ n, cnt (fun _ => 0) n = 0 := fun n => by
    induction n with
    | zero => rfl
    | succ n ih => simp [cnt, ih]
  refine ⟨⟨none, 0, (ht.fr hf0 (fun h => h)).fr hf (fun h => h), ⟨by simp, .inl ⟨rfl, rfl⟩⟩⟩, ⟨c, (hb.block _ (heap_lt hc)).trans hc, hcj⟩, fun j hj => ⟨none, 0, (h4 j hj).fr hf (fun h => h)⟩, fun j _ => by omega, by rw [hc0]; rfl, fun j _ hp => by omega, fun i b hb => by simp at hb⟩

theorem Lens.cell {w : World} {lb nres : Nat} {La : Nat → Nat} (h : Lens w lb nres La) {j : Nat} (hj : j < nres) : w.cell? ⟨lb, j, none⟩ = some (.int .i64 (La j : Nat)) := by
  obtain ⟨c, hc, _, h3⟩ := h
  rw [cell_of hc]
  exact h3 j hj
theorem Lens.free {w : World} {lb nres : Nat} {La : Nat → Nat} (h : Lens w lb nres La) (i : Nat) : w.frozen? ⟨lb, i, none⟩ = false := by
  obtain ⟨c, hc, _⟩ := h
  simp [World.frozen?, hc]
theorem Lens.lt {w : World} {lb nres : Nat} {La : Nat → Nat} (h : Lens w lb nres La) : lb < w.heap.size := by
  obtain ⟨c, hc, _⟩ := h
  exact heap_lt hc
theorem Lens.tags {w w' : World} {lb nres : Nat} {La : Nat → Nat} (h : Lens w lb nres La) (ht : Tags w w') : Lens w' lb nres La := by
  obtain ⟨c, hc, h2, h3⟩ := h
  exact ⟨c, ht _ _ _ hc (by decide) (by decide) (by decide) (by decide), h2, h3⟩
theorem Lens.below {w w' : World} {lb nres : Nat} {La : Nat → Nat} (h : Lens w lb nres La) (ht : Below w.heap.size w w') : Lens w' lb nres La := by
  obtain ⟨c, hc, h2, h3⟩ := h
  exact ⟨c, (ht.block _ (heap_lt hc)).trans hc, h2, h3⟩
theorem Lens.set {w : World} {lb nres : Nat} {La : Nat → Nat} (h : Lens w lb nres La) {r : Nat} (hr : r < nres) (v : Nat) : Lens (w.setCell ⟨lb, r, none⟩ (.int .i64 (v : Nat))) lb nres (upd La r v) := by
  obtain ⟨c, hc, h2, h3⟩ := h
  refine ⟨_, heap_setCell hc r _, by simpa using h2, fun j hj => ?_⟩
  rw [Array.getElem?_setIfInBounds]
  by_cases e : r = j
  · subst e
    simp [upd_same, h2, hr]
  · rw [if_neg e, upd_other _ _ _ (Ne.symm e)]
    exact h3 j hj
theorem Lens.zero (w : World) (n : Nat) : Lens (w.alloc (.cells (madeCells #[.int .i64 0] n) 3)) w.heap.size n (fun _ => 0) := by
  refine ⟨_, heap_new _ _, size_madeCells _ _, fun j hj => ?_⟩
  have hl : j < (madeCells #[.int .i64 0] n).size := by rw [size_madeCells]; omega
  rw [Array.getElem?_eq_getElem hl]
  simp [madeCells, Nat.mod_one]
end Go.Proofs.Qxb6612390a.fnSetQueueScriptKeepsQueuedListExact
