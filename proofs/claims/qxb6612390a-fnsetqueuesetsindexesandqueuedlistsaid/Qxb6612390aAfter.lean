/-
  The law of one call of setQueue: what lies there ahead of the call, and behind it.
-/
import Derived.Test.Qxb6612390aMaking
import Derived.Deep.CutBlock
namespace Go.Proofs.Qxb6612390a.fnSetQueueSetsIndexesAndQueuedList
open Go.ChangeShapes Go.WideShapes Go.ChangeAt Go.RowKit
set_option linter.unusedVariables false

def RetBool (w : World) (e : Ending) (w' : World) : Prop := ∃ b : Bool, e = .returned (.bool b) ∧ w' = w
theorem RetBool.mk {w : World} (b : Bool) : RetBool w (.returned (.bool b)) w := ⟨b, rfl, rfl⟩
def NumsI (w : World) (a : Option Addr) (len : Nat) (Z : Nat → Int) : Prop :=
  ∀ i, i < len → ∃ b off, a = some ⟨b, off, none⟩ ∧ w.cell? ⟨b, off + i, none⟩ = some (.int .i64 (Z i))

set_option maxHeartbeats 400000 in
theorem bytes_any (a1 : Option Addr) (l1 c1 : Nat) (a2 : Option Addr) (l2 c2 : Nat) (x y z t : Int) (w : World) (hl1 : l1 ≤ maxLen) (hl2 : l2 ≤ maxLen) :
    Calls Try.prog 12 #[.slice a1 l1 c1, .slice a2 l2 c2, .int .i64 x, .int .i64 y, .int .i64 z, .int .u64 t] w (RetBool w) := by
  unfold maxLen at hl1 hl2
  go_enter Try.func12, Try.ntmps12
  go_wp2
  all_goals
    go_ret
    exact RetBool.mk _

theorem cell_lt' {w : World} {b i : Nat} {v : Value} (h : w.cell? ⟨b, i, none⟩ = some v) : b < w.heap.size := by
  apply Decidable.byContradiction
  intro hn
  have : w.heap[b]? = none := by simp; omega
  simp [World.cell?, this] at h

/-- A pointer appended to a row of the law's own. -/
theorem wpList_push {w : World} {ops : Array Oper} {rest : List Oper} {o : Oper} {a : Act} {Q : Exit → Act → World → Prop} (hgd : o.guard = none) (s x : Operand)
    (ho : o.op = .call { callee := .builtin .append, args := #[s, x], argTypes := #[38, 38] }) (base : Nat) (ua : Option Addr) (n uc : Nat) (xs : List Value) (b y : Nat)
    (hs : a.eval s = .slice ua n uc) (hx : a.eval x = .slice (some ⟨b, 0, none⟩) 1 1) (hown : w.ownsRow base 36 1 (.slice ua n uc) n xs) (hc : w.cell? ⟨b, 0, none⟩ = some (ptr y)) (hn : n ≤ 1000000) (hb : base ≤ w.heap.size)
    (h : ∀ ua' uc' w', w'.ownsRow base 36 1 (.slice ua' (n + 1) uc') (n + 1) (xs ++ [ptr y]) → Fr (fun b => (Value.slice ua n uc).ownBlock = some b) w w' → wpList Try.prog ops Q rest (a.put o.dst (.slice ua' (n + 1) uc')) w') : wpList Try.prog ops Q (o :: rest) a w := by
  obtain ⟨i0, hi, hz0, hz1, hz2⟩ := info_parts info36
  refine wpList_append_own w hgd s x 38 ho base 36 i0 (.pointer none) 1 8 Try.underlying38 hi hz0 hz1 hz2 rfl (by decide) _ n xs hs hown ⟨b, 0, none⟩ 1 1 [ptr y] hx rfl ?_ ?_ (by unfold maxLen; omega) (by omega) hb ?_
  · intro j u hj
    match j, hj with
    | 0, hj =>
      simp at hj
      subst hj
      simpa [Addr.add] using hc
    | j + 1, hj => simp at hj
  · intro u hu
    simp at hu
    subst hu
    rfl
  · intro v' w' h1 h2 _
    obtain ⟨ua', uc', rfl⟩ : ∃ ua' uc', v' = .slice ua' (n + 1) uc' := by
      rcases h1.2 with ⟨_, hh⟩ | ⟨g, cap, cur, rfl, _⟩
      · omega
      · exact ⟨_, _, rfl⟩
    exact h ua' uc' w' h1 (fr_grown h2)

theorem oth_more3 {rb o0 n pos : Nat} {was : Bool} {w2 : World} {Ol Lq : List Nat} {uv : Value} {wx : World} (h : Oth rb o0 n pos was w2 Ol Lq uv wx) (hsz : rb + 1 ≤ w2.heap.size) (ho : rb < o0) (hk : Ol.length < n) (o1 o2 : Obj) (a : Option Addr) (l c : Nat) (at_ : Int)
    (hat : at_ = if was = true ∧ pos ≤ Ol.length then (Ol.length : Int) + 1 else Ol.length) :
    Oth rb o0 n pos was w2 (Ol ++ [wx.heap.size + 1 + 1]) Lq uv ((((wx.setCell ⟨o0, Ol.length, none⟩ (.pointer (some ⟨wx.heap.size + 1 + 1, 0, none⟩))).alloc o1).alloc o2).alloc (.cells (rsC (.slice a l c) at_ 0) 92)) := by
  have h1 := h.fr hsz (((Below.refl _ wx).alloc (Nat.le_refl _) o1).alloc (by rw [size_alloc]; omega) o2)
  have h2 := h1.more hsz ho hk a l c
  rw [size_alloc, size_alloc] at h2
  obtain ⟨d, hd, _⟩ := h.arr
  have hlt := heap_lt hd
  unfold ptr at h2
  rw [World.setCell_alloc_past _ _ _ _ (by rw [size_alloc]; omega), World.setCell_alloc_past _ _ _ _ hlt] at h2
  rw [hat]
  exact h2

theorem cell_top (X : World) (n : Nat) (h : X.heap.size = n) (v : Value) (t : TypeId) : (X.alloc (.cells #[v] t)).cell? ⟨n, 0, none⟩ = some v := by
  subst h
  simp
theorem size_setCell (w : World) (a : Addr) (v : Value) : (w.setCell a v).heap.size = w.heap.size := by simp [World.setCell]
theorem made1 (v : Value) : madeCells #[v] 1 = #[v] := by
  apply Array.ext
  · simp [madeCells]
  · intro i h1 h2
    simp at h2
    subst h2
    simp [madeCells]

/-- All that lies there ahead of the call of setQueue. -/
structure Pre (w : World) (lo : Nat) (Z0 : Nat → Int) (rb pos : Nat) (wk : Int) (o0 n : Nat) (was : Bool) (w2 : World) (Ol Lq : List Nat) (tb : Nat) (uv : Value) (nb la : Nat) (Z1 : Nat → Int) (w6 : World) : Prop where
  oarr : Arr w6 34 w.heap.size lo (fun j => w.heap.size + 1 + j)
  oreq : Reqs w6 lo (fun j => w.heap.size + 1 + j) Z0
  res : Res w6 rb (.slice (some ⟨w.heap.size, 0, none⟩) lo lo) pos wk
  oth : Oth rb o0 n pos was w2 Ol Lq uv w6
  tab : Tab w6 tb uv
  narr : Arr w6 34 nb la (fun j => nb + 1 + j)
  nreq : Reqs w6 la (fun j => nb + 1 + j) Z1
  bel : Below w.heap.size w w6
  base : w.heap.size ≤ rb
  btb : w.heap.size ≤ tb
  bnb : w.heap.size ≤ nb
  gap : ∀ i j, i < lo → j < la → w.heap.size + 1 + i ≠ nb + 1 + j

theorem pre_of {w wq w2 w4 w5 w6 : World} {lo : Nat} {Z0 : Nat → Int} {rb pos : Nat} {wk : Int} {o0 n : Nat} {was : Bool} {Ol Lq : List Nat} {tb : Nat} {uv : Value} {la : Nat} {Z1 : Nat → Int}
    (hmq : MadeQ w.heap.size lo Z0 lo w wq) (hrb : rb = wq.heap.size) (hw2 : w2 = wq.alloc (.cells (rsC (.slice (some ⟨w.heap.size, 0, none⟩) lo lo) pos wk) 92)) (hoth : Oth rb o0 n pos was w2 Ol Lq uv w4)
    (htab : Tab w5 tb uv) (htb : tb = w4.heap.size) (hb5 : Below w4.heap.size w4 w5) (hmn : MadeQ w5.heap.size la Z1 la w5 w6) : Pre w lo Z0 rb pos wk o0 n was w2 Ol Lq tb uv w5.heap.size la Z1 w6 := by
  have hz2 : w2.heap.size = rb + 1 := by rw [hw2, size_alloc, hrb]
  have b2 : Below wq.heap.size wq w2 := by rw [hw2]; exact (Below.refl _ _).alloc (Nat.le_refl _) _
  have b6 : Below w5.heap.size w5 w6 := hmn.bel
  have b46 : Below w4.heap.size w4 w6 := hb5.trans (b6.mono hb5.size)
  have b26 : Below w2.heap.size w2 w6 := (hoth.bel.mono (by omega)).trans (b46.mono (by have := hoth.bel.size; omega))
  have bq6 : Below wq.heap.size wq w6 := b2.trans (b26.mono b2.size)
  have hres : Res w2 rb (.slice (some ⟨w.heap.size, 0, none⟩) lo lo) pos wk := by
    rw [hw2, hrb]
    exact heap_new _ _
  obtain ⟨o1, o2⟩ := hmq.below bq6
  obtain ⟨n1, n2⟩ := hmn.below (Below.refl _ w6)
  have hq := hmq.size
  refine ⟨o1, o2, hres.fr (Fr.of_below (S := fun _ => False) b26) (fun h => h), hoth.fr (by omega) b46, htab.fr (Fr.of_below (S := fun _ => False) b6) (fun h => h), n1, n2, hmq.bel.trans (bq6.mono (by omega)), by omega, ?_, ?_, fun i j hi hj => ?_⟩
  all_goals
    have := b2.size
    have := hoth.bel.size
    have := hb5.size
    omega

/-- The list that is wanted behind the call, and the resource's place. -/
def wantL (was is_ : Bool) (pos rb : Nat) (Ol : List Nat) : List Nat :=
  match was, is_ with
  | false, true => Ol ++ [rb]
  | true, false => if pos < Ol.length then (Ol.take pos ++ [Ol.getD (Ol.length - 1) 0]) ++ (Ol.take (Ol.length - 1)).drop pos else Ol
  | true, true => (Ol.take pos ++ [rb]) ++ Ol.drop pos
  | false, false => Ol
def wantAt (was is_ : Bool) (pos n : Nat) : Nat := if is_ = true ∧ was = false then n else pos

/-- What lies there behind the call. -/
structure After (w : World) (lo : Nat) (Z0 : Nat → Int) (rb pos o0 n : Nat) (was is_ : Bool) (Ol : List Nat) (tb nb la from_ : Nat) (Z1 : Nat → Int) (w7 : World) : Prop where
  oarr : Arr w7 34 w.heap.size lo (fun j => w.heap.size + 1 + j)
  oreq : Reqs w7 lo (fun j => w.heap.size + 1 + j) Z0
  narr : Arr w7 34 nb la (fun j => nb + 1 + j)
  nreq : Reqs w7 la (fun j => nb + 1 + j) (newAt from_ Z1)
  res : Res w7 rb (.slice (some ⟨nb, 0, none⟩) la la) (wantAt was is_ pos n : Nat) 0
  tab : ∃ ua uc, Tab w7 tb (.slice ua (wantL was is_ pos rb Ol).length uc) ∧ w7.ownsRow (o0 + 1) 36 1 (.slice ua (wantL was is_ pos rb Ol).length uc) (wantL was is_ pos rb Ol).length ((wantL was is_ pos rb Ol).map ptr)
  each : ∀ (j b : Nat), (wantL was is_ pos rb Ol)[j]? = some b → ∃ q wk, Res w7 b q (j : Nat) wk
  others : ∃ c, w7.heap[o0]? = some (.cells c 36 (0, 0)) ∧ c.size = n ∧ ∀ j, j < Ol.length → c[j]? = (Ol[j]?).map ptr
  bel : Below w.heap.size w w7

def AfterP (w : World) (lo : Nat) (Z0 : Nat → Int) (rb pos o0 n : Nat) (was is_ : Bool) (Ol : List Nat) (tb nb la from_ : Nat) (Z1 : Nat → Int) (e : Ending) (w7 : World) : Prop :=
  e = .returned (.tuple #[]) ∧ After w lo Z0 rb pos o0 n was is_ Ol tb nb la from_ Z1 w7

/-- The blocks that a call may write. -/
def Tou (rb tb nb la : Nat) (uv : Value) (Ol : List Nat) (b : Nat) : Prop := (∃ j, j < la ∧ b = nb + 1 + j) ∨ b = rb ∨ b = tb ∨ uv.ownBlock = some b ∨ b ∈ Ol

section
variable {w : World} {lo : Nat} {Z0 : Nat → Int} {rb pos : Nat} {wk : Int} {o0 n : Nat} {was : Bool} {w2 : World} {Ol Lq : List Nat} {tb : Nat} {uv : Value} {nb la : Nat} {Z1 : Nat → Int} {w6 : World}

theorem Pre.memRes (h : Pre w lo Z0 rb pos wk o0 n was w2 Ol Lq tb uv nb la Z1 w6) {b : Nat} (hb : b ∈ Ol) : ∃ q a k, Res w6 b q a k := by
  obtain ⟨j, hj, rfl⟩ := List.mem_iff_getElem.1 hb
  obtain ⟨a, l, c, hr⟩ := h.oth.res j _ (List.getElem?_eq_getElem hj)
  exact ⟨_, _, _, hr⟩

theorem Pre.untouched (h : Pre w lo Z0 rb pos wk o0 n was w2 Ol Lq tb uv nb la Z1 w6) {b : Nat} {c : Array Value} {t : TypeId} (hb : w6.heap[b]? = some (.cells c t (0, 0))) (h1 : t = 78 → ∀ j, j < la → b ≠ nb + 1 + j) (h2 : t ≠ 92) (h3 : t ≠ 111) (h4 : t = 36 → uv.ownBlock ≠ some b) : ¬ Tou rb tb nb la uv Ol b := by
  rintro (⟨j, hj, e⟩ | e | e | e | e)
  · by_cases ht : t = 78
    · exact h1 ht j hj e
    · exact ne_tag hb (h.nreq j hj) ht e
  · exact ne_tag hb h.res h2 e
  · obtain ⟨d, hd, _⟩ := h.tab
    exact ne_tag hb hd h3 e
  · by_cases ht : t = 36
    · exact h4 ht e
    · obtain ⟨d, hd⟩ := own_tag h.oth.own e
      exact ne_tag hb hd ht rfl
  · obtain ⟨q, a, k, hr⟩ := h.memRes e
    exact ne_tag hb hr h2 rfl

/-- What no call touches. -/
theorem Pre.rest (h : Pre w lo Z0 rb pos wk o0 n was w2 Ol Lq tb uv nb la Z1 w6) (hro : rb < o0) {w7 : World} (hf : Fr (Tou rb tb nb la uv Ol) w6 w7) :
    Arr w7 34 w.heap.size lo (fun j => w.heap.size + 1 + j) ∧ Reqs w7 lo (fun j => w.heap.size + 1 + j) Z0 ∧ Arr w7 34 nb la (fun j => nb + 1 + j) ∧
    (∃ c, w7.heap[o0]? = some (.cells c 36 (0, 0)) ∧ c.size = n ∧ ∀ j, j < Ol.length → c[j]? = (Ol[j]?).map ptr) ∧ Below w.heap.size w w7 := by
  refine ⟨h.oarr.fr hf ?_, h.oreq.fr hf (fun i hi => ?_), h.narr.fr hf ?_, ?_, h.bel.trans (hf.below h.bel.size ?_)⟩
  · obtain ⟨c, hc, _⟩ := h.oarr
    exact h.untouched hc (fun e => absurd e (by decide)) (by decide) (by decide) (fun e => absurd e (by decide))
  · exact h.untouched (h.oreq i hi) (fun _ j hj => h.gap i j hi hj) (by decide) (by decide) (fun e => absurd e (by decide))
  · obtain ⟨c, hc, _⟩ := h.narr
    exact h.untouched hc (fun e => absurd e (by decide)) (by decide) (by decide) (fun e => absurd e (by decide))
  · obtain ⟨c, hc, hs, hj⟩ := h.oth.arr
    refine ⟨c, (hf.block o0 (heap_lt hc) ?_).trans hc, hs, hj⟩
    exact h.untouched hc (fun e => absurd e (by decide)) (by decide) (by decide) (fun _ e => by have := (h.oth.own.lt o0 e).1; omega)
  · have hbase := h.base
    rintro b hb (⟨j, hj, e⟩ | e | e | e | e)
    · have := h.bnb; omega
    · omega
    · have := h.btb; omega
    · have := (h.oth.own.lt b e).1; omega
    · have := h.oth.gt b e; omega
end

theorem own_some {w : World} {base n : Nat} {ua : Option Addr} {l uc : Nat} {xs : List Value} (h : w.ownsRow base 36 1 (.slice ua l uc) n xs) (hn : 0 < n) : ∃ ub, ua = some ⟨ub, 0, none⟩ := by
  rcases h.2 with ⟨_, hh⟩ | ⟨g, cap, cur, hh, _⟩
  · omega
  · simp at hh
    exact ⟨g, hh.1⟩

theorem mid_lt {Ol : List Nat} {pos x : Nat} (hp : pos ≤ Ol.length) {j : Nat} (hj : j < pos) : ((Ol.take pos ++ [x]) ++ Ol.drop pos)[j]? = Ol[j]? := by
  rw [List.append_assoc, List.getElem?_append_left (by simp; omega), List.getElem?_take, if_pos hj]
theorem mid_eq {Ol : List Nat} {pos x : Nat} (hp : pos ≤ Ol.length) : ((Ol.take pos ++ [x]) ++ Ol.drop pos)[pos]? = some x := by
  rw [List.append_assoc, List.getElem?_append_right (by simp; omega)]
  simp [Nat.min_eq_left hp]
theorem mid_gt {Ol : List Nat} {pos x : Nat} (hp : pos ≤ Ol.length) {j : Nat} (hj : pos < j) : ((Ol.take pos ++ [x]) ++ Ol.drop pos)[j]? = Ol[j - 1]? := by
  rw [List.getElem?_append_right (by simp; omega), List.getElem?_drop]
  simp [Nat.min_eq_left hp]
  congr 1
  omega

theorem wantL_drop {pos rb : Nat} {Ol : List Nat} (hp : pos ≤ Ol.length) {m : Nat} (hm : (insM true pos rb Ol)[Ol.length]? = some m) :
    (((insM true pos rb Ol).set pos m).take Ol.length) = wantL true false pos rb Ol := by
  have hi : insM true pos rb Ol = (Ol.take pos ++ [rb]) ++ Ol.drop pos := by
    unfold insM
    rw [if_pos ⟨rfl, hp⟩]
    simp
  rw [hi] at hm ⊢
  unfold wantL
  by_cases hlt : pos < Ol.length
  · simp only [if_pos hlt]
    rw [mid_gt hp hlt] at hm
    have hm' : Ol.getD (Ol.length - 1) 0 = m := by
      rw [List.getD_eq_getElem?_getD, hm]
      rfl
    rw [hm']
    apply List.ext_getElem?
    intro j
    by_cases hj : j < Ol.length
    · rw [List.getElem?_take, if_pos hj]
      by_cases e1 : j = pos
      · subst e1
        rw [List.getElem?_set_self (by simp; omega), List.append_assoc, List.getElem?_append_right (by simp; omega)]
        simp [Nat.min_eq_left hp]
      · rw [List.getElem?_set_ne (Ne.symm e1)]
        by_cases e2 : j < pos
        · rw [mid_lt hp e2, List.append_assoc, List.getElem?_append_left (by simp; omega), List.getElem?_take, if_pos e2]
        · rw [mid_gt hp (by omega), List.getElem?_append_right (by simp; omega), List.getElem?_drop, List.getElem?_take]
          have : (Ol.take pos ++ [m]).length = pos + 1 := by simp; omega
          rw [this, if_pos (by omega)]
          congr 1
          omega
    · rw [List.getElem?_eq_none (by simp; omega), List.getElem?_eq_none (by simp; omega)]
  · have he : pos = Ol.length := by omega
    subst he
    simp only [if_neg hlt]
    apply List.ext_getElem?
    intro j
    by_cases hj : j < Ol.length
    · rw [List.getElem?_take, if_pos hj, List.getElem?_set_ne (by omega), mid_lt hp hj]
    · rw [List.getElem?_eq_none (by simp; omega), List.getElem?_eq_none (by omega)]

theorem call_after {w : World} {lo : Nat} {Z0 : Nat → Int} {rb pos : Nat} {wk : Int} {o0 n : Nat} {was is_ : Bool} {w2 : World} {Ol : List Nat} {tb : Nat} {ua : Option Addr} {uc : Nat} {nb la : Nat} {Z1 : Nat → Int} {w6 : World} (from_ : Nat)
    (h : Pre w lo Z0 rb pos wk o0 n was w2 Ol (insM was pos rb Ol) tb (.slice ua (insM was pos rb Ol).length uc) nb la Z1 w6) (hOl : Ol.length = n) (hp : pos ≤ n) (hn : n ≤ 65536) (hlo : lo ≤ 65536) (hla : la ≤ 65536) (hfr : (from_ : Int) ≤ 9223372036854775807)
    (hwas : was = decide (0 < lo)) (his : is_ = decide (0 < la)) (hro : rb < o0) :
    Calls Try.prog 16 #[ptr tb, ptr rb, .slice (some ⟨nb, 0, none⟩) la la, .int .i64 from_] w6 (AfterP w lo Z0 rb pos o0 n was is_ Ol tb nb la from_ Z1) := by
  have hask : Ask w6 rb nb la (fun j => nb + 1 + j) Z1 (.slice (some ⟨w.heap.size, 0, none⟩) lo lo) pos wk := ⟨h.narr, h.nreq, inj_add la nb, h.res⟩
  subst hOl
  have hlen : was = true → insM was pos rb Ol = (Ol.take pos ++ [rb]) ++ Ol.drop pos := fun hw => by
    unfold insM
    rw [if_pos ⟨hw, hp⟩]
    simp
  have hlen0 : was = false → insM was pos rb Ol = Ol := fun hw => by
    unfold insM
    rw [if_neg (by rw [hw]; simp)]
  have hob : o0 + 1 ≤ w6.heap.size := by
    obtain ⟨c, hc, _⟩ := h.oth.arr
    exact heap_lt hc
  by_cases h0 : 0 < lo
  · have hw : was = true := by rw [hwas]; simp [h0]
    clear hwas
    subst hw
    have hL := hlen rfl
    have hLn : (insM true pos rb Ol).length = Ol.length + 1 := by rw [hL]; simp; omega
    by_cases h1 : 0 < la
    · have hi : is_ = true := by rw [his]; simp [h1]
      clear his
      subst hi
      refine (zzSet_any (fun e w' hq => hq.1) (setQueue_keep tb rb nb la la from_ _ _ _ _ _ _ _ _ hask hla hlo hfr ⟨fun _ => h1, fun _ => h0⟩)).mono ?_
      rintro e w7 ⟨rfl, k1, k2, k3⟩
      have hf : Fr (Tou rb tb nb la (.slice ua (insM true pos rb Ol).length uc) Ol) w6 w7 := k3.mono (fun b _ hb => by
        rcases hb with hb | hb | hb
        · exact .inl hb
        · exact .inr (.inl hb)
        · exact hb.elim)
      obtain ⟨r1, r2, r3, r4, r5⟩ := h.rest hro hf
      have hno : ∀ b c t, w6.heap[b]? = some (.cells c t (0, 0)) → t ≠ 78 → b ≠ rb → ¬ Touch la (fun j => nb + 1 + j) rb (fun _ => False) b := by
        rintro b c t hb ht hne (⟨j, hj, e⟩ | e | e)
        · exact ne_tag hb (h.nreq j hj) ht e
        · exact hne e
        · exact e
      have hwl : wantL true true pos rb Ol = insM true pos rb Ol := hL.symm
      refine ⟨rfl, r1, r2, r3, k1, by simpa [wantAt] using k2, ⟨ua, uc, ?_, ?_⟩, ?_, r4, r5⟩
      · rw [hwl]
        refine h.tab.fr k3 ?_
        obtain ⟨d, hd, _⟩ := h.tab
        exact hno _ _ _ hd (by decide) (fun e => ne_tag hd h.res (by decide) e)
      · rw [hwl]
        refine own_fr h.oth.own k3 (fun g hg => ?_)
        obtain ⟨d, hd⟩ := own_tag h.oth.own hg
        exact hno _ _ _ hd (by decide) (fun e => ne_tag hd h.res (by decide) e)
      · intro j b hj
        have hj' : ((Ol.take pos ++ [rb]) ++ Ol.drop pos)[j]? = some b := hj
        by_cases e1 : j < pos
        · rw [mid_lt hp e1] at hj'
          obtain ⟨a, l, c, hr⟩ := h.oth.res j b hj'
          rw [if_neg (by omega)] at hr
          exact ⟨_, _, hr.fr k3 (hno _ _ _ hr (by decide) (fun e => by have := h.oth.gt b (List.mem_of_getElem? hj'); omega))⟩
        · by_cases e2 : j = pos
          · subst e2
            rw [mid_eq hp] at hj'
            cases hj'
            exact ⟨_, _, k2⟩
          · rw [mid_gt hp (by omega)] at hj'
            obtain ⟨a, l, c, hr⟩ := h.oth.res (j - 1) b hj'
            rw [if_pos ⟨rfl, by omega⟩] at hr
            have e3 : ((j - 1 : Nat) : Int) + 1 = j := by omega
            rw [e3] at hr
            exact ⟨_, _, hr.fr k3 (hno _ _ _ hr (by decide) (fun e => by have := h.oth.gt b (List.mem_of_getElem? hj'); omega))⟩
    · have hi : is_ = false := by rw [his]; simp [h1]
      clear his
      subst hi
      obtain rfl : la = 0 := by omega
      obtain ⟨ub, rfl⟩ := own_some h.oth.own (by omega)
      have htab := h.tab
      have hown := h.oth.own
      obtain ⟨m, hm⟩ : ∃ m, (insM true pos rb Ol)[Ol.length]? = some m := ⟨_, List.getElem?_eq_getElem (by omega)⟩
      have hpr : (insM true pos rb Ol)[pos]? = some rb := by rw [hL]; exact mid_eq hp
      have hcase : (m = rb ∧ pos = Ol.length) ∨ (pos < Ol.length ∧ Ol[Ol.length - 1]? = some m) := by
        by_cases e : pos < Ol.length
        · refine .inr ⟨e, ?_⟩
          rw [hL, mid_gt hp e] at hm
          exact hm
        · have e' : pos = Ol.length := by omega
          refine .inl ⟨?_, e'⟩
          rw [← e', hpr] at hm
          cases hm
          rfl
      obtain ⟨mq, ma, mk, hmr, hmp⟩ : ∃ mq ma mk, Res w6 m mq ma mk ∧ (m ≠ rb → mk = 0) := by
        rcases hcase with ⟨rfl, _⟩ | ⟨_, hmo⟩
        · exact ⟨_, _, _, h.res, fun e => absurd rfl e⟩
        · obtain ⟨a, l, c, hr⟩ := h.oth.res _ _ hmo
          exact ⟨_, _, _, hr, fun _ => rfl⟩
      have hgt : pos < Ol.length → m ≠ rb ∧ m ∈ Ol := fun e => by
        rcases hcase with ⟨_, e'⟩ | ⟨_, hmo⟩
        · omega
        · have hme := List.mem_of_getElem? hmo
          have := h.oth.gt m hme
          exact ⟨by omega, hme⟩
      refine (zzSet_any (fun e w' hq => hq.1) (setQueue_drop tb rb nb 0 from_ (fun j => nb + 1 + j) Z1 _ lo lo pos wk w6 (o0 + 1) ub uc (insM true pos rb Ol) m mq ma mk hask htab hown hmr (by omega) (by omega) hpr (by rw [hLn]; exact hm) hlo h0 ?_ hfr)).mono ?_
      · rcases hcase with ⟨e1, e2⟩ | ⟨e1, _⟩
        · exact .inl ⟨e1, by omega⟩
        · exact .inr ⟨(hgt e1).1, by omega⟩
      rintro e w7 ⟨rfl, k1, k2, k3, k4, k5⟩
      rw [hLn, Nat.add_sub_cancel] at k3 k4
      rw [wantL_drop hp hm] at k4
      have hwn : (wantL true false pos rb Ol).length = Ol.length := by
        rw [← wantL_drop hp hm]
        simp
        omega
      have hf : Fr (Tou rb tb nb 0 (.slice (some ⟨ub, 0, none⟩) (insM true pos rb Ol).length uc) Ol) w6 w7 := k5.mono (fun b _ hb => by
        rcases hb with hb | hb | hb | hb
        · exact .inr (.inl hb)
        · exact .inr (.inr (.inl hb))
        · subst hb
          exact .inr (.inr (.inr (.inl rfl)))
        · rcases hcase with ⟨e1, e2⟩ | ⟨e1, _⟩
          · exact .inr (.inl (hb.trans e1))
          · subst hb
            exact .inr (.inr (.inr (.inr (hgt e1).2))))
      obtain ⟨r1, r2, r3, r4, r5⟩ := h.rest hro hf
      have hno : ∀ b q a k, Res w6 b q a k → b ≠ rb → b ≠ m → ¬ (b = rb ∨ b = tb ∨ b = ub ∨ b = m) := by
        rintro b q a k hb h1 h2 (e | e | e | e)
        · exact h1 e
        · obtain ⟨d, hd, _⟩ := htab
          exact ne_tag hb hd (by decide) e
        · obtain ⟨d, hd⟩ := own_tag hown rfl
          exact ne_tag hb hd (by decide) e
        · exact h2 e
      refine ⟨rfl, r1, r2, r3, fun j hj => absurd hj (by omega), by simpa [wantAt] using k1, ⟨some ⟨ub, 0, none⟩, uc, by rw [hwn]; exact k3, by rw [hwn]; exact k4⟩, ?_, r4, r5⟩
      intro j b hj
      have hjn : j < Ol.length := by
        have := (List.getElem?_eq_some_iff.1 hj).1
        omega
      rw [← wantL_drop hp hm, List.getElem?_take, if_pos hjn] at hj
      by_cases e1 : j = pos
      · subst e1
        rw [List.getElem?_set_self (by omega)] at hj
        cases hj
        exact ⟨_, _, k2 (hgt hjn).1⟩
      · rw [List.getElem?_set_ne (Ne.symm e1), hL] at hj
        have hneq : ∀ i, i < Ol.length - 1 → Ol[i]? = some b → b ≠ m := fun i hi hb e => by
          subst e
          rcases hcase with ⟨e3, _⟩ | ⟨_, hmo⟩
          · have := h.oth.gt b (List.mem_of_getElem? hb)
            omega
          · obtain ⟨b1, b2⟩ := List.getElem?_eq_some_iff.1 hb
            obtain ⟨c1, c2⟩ := List.getElem?_eq_some_iff.1 hmo
            exact List.pairwise_iff_getElem.1 h.oth.nod i (Ol.length - 1) b1 c1 hi (b2.trans c2.symm)
        by_cases e2 : j < pos
        · rw [mid_lt hp e2] at hj
          obtain ⟨a, l, c, hr⟩ := h.oth.res j b hj
          rw [if_neg (by omega)] at hr
          have hgb := h.oth.gt b (List.mem_of_getElem? hj)
          refine ⟨_, _, hr.fr k5 (hno _ _ _ _ hr (by omega) ?_)⟩
          rcases hcase with ⟨e3, _⟩ | ⟨e3, _⟩
          · omega
          · exact hneq j (by omega) hj
        · rw [mid_gt hp (by omega)] at hj
          obtain ⟨a, l, c, hr⟩ := h.oth.res (j - 1) b hj
          rw [if_pos ⟨rfl, by omega⟩] at hr
          have e3 : ((j - 1 : Nat) : Int) + 1 = j := by omega
          rw [e3] at hr
          have hgb := h.oth.gt b (List.mem_of_getElem? hj)
          exact ⟨_, _, hr.fr k5 (hno _ _ _ _ hr (by omega) (hneq (j - 1) (by omega) hj))⟩
  · have hw : was = false := by rw [hwas]; simp [h0]
    clear hwas
    subst hw
    obtain rfl : lo = 0 := by omega
    have hL := hlen0 rfl
    by_cases h1 : 0 < la
    · have hi : is_ = true := by rw [his]; simp [h1]
      clear his
      subst hi
      refine (zzSet_any (fun e w' hq => hq.1) (setQueue_add tb rb nb la la from_ (fun j => nb + 1 + j) Z1 _ 0 pos wk w6 (o0 + 1) _ _ _ hask h.tab h.oth.own hob (by rw [hL]; omega) hla hfr h1)).mono ?_
      rintro e w7 ⟨rfl, k1, k2, ⟨v', k3, k4⟩, k5⟩
      rw [hL] at k2 k4
      have hf : Fr (Tou rb tb nb la (.slice ua (insM false pos rb Ol).length uc) Ol) w6 w7 := k5.mono (fun b _ hb => by
        rcases hb with hb | hb | hb | hb
        · exact .inl hb
        · exact .inr (.inl hb)
        · exact .inr (.inr (.inl hb))
        · exact .inr (.inr (.inr (.inl hb))))
      obtain ⟨r1, r2, r3, r4, r5⟩ := h.rest hro hf
      have hwl : wantL false true pos rb Ol = Ol ++ [rb] := rfl
      have hwn : (wantL false true pos rb Ol).length = Ol.length + 1 := by rw [hwl]; simp
      have hwm : (wantL false true pos rb Ol).map ptr = Ol.map ptr ++ [ptr rb] := by rw [hwl]; simp
      obtain ⟨ua', uc', rfl⟩ : ∃ ua' uc', v' = .slice ua' (Ol.length + 1) uc' := by
        rcases k4.2 with ⟨_, hh⟩ | ⟨g, cap, cur, rfl, _⟩
        · omega
        · exact ⟨_, _, rfl⟩
      refine ⟨rfl, r1, r2, r3, k1, by simpa [wantAt] using k2, ⟨ua', uc', by rw [hwn]; exact k3, by rw [hwn, hwm]; exact k4⟩, ?_, r4, r5⟩
      intro j b hj
      rw [hwl] at hj
      by_cases e1 : j < Ol.length
      · rw [List.getElem?_append_left e1] at hj
        obtain ⟨a, l, c, hr⟩ := h.oth.res j b hj
        rw [if_neg (by simp)] at hr
        have hgb := h.oth.gt b (List.mem_of_getElem? hj)
        refine ⟨_, _, hr.fr k5 ?_⟩
        rintro (⟨j', hj', e⟩ | e | e | e)
        · exact ne_tag hr (h.nreq j' hj') (by decide) e
        · omega
        · obtain ⟨d, hd, _⟩ := h.tab
          exact ne_tag hr hd (by decide) e
        · obtain ⟨d, hd⟩ := own_tag h.oth.own e
          exact ne_tag hr hd (by decide) rfl
      · have hjl : j = Ol.length := by
          have := (List.getElem?_eq_some_iff.1 hj).1
          simp at this
          omega
        subst hjl
        simp at hj
        subst hj
        exact ⟨_, _, k2⟩
    · have hi : is_ = false := by rw [his]; simp [h1]
      clear his
      subst hi
      obtain rfl : la = 0 := by omega
      refine (zzSet_any (fun e w' hq => hq.1) (setQueue_keep tb rb nb 0 0 from_ _ _ _ _ _ _ _ _ hask hla hlo hfr ⟨fun hh => absurd hh (by omega), fun hh => absurd hh (by omega)⟩)).mono ?_
      rintro e w7 ⟨rfl, k1, k2, k3⟩
      have hf : Fr (Tou rb tb nb 0 (.slice ua (insM false pos rb Ol).length uc) Ol) w6 w7 := k3.mono (fun b _ hb => by
        rcases hb with hb | hb | hb
        · exact .inl hb
        · exact .inr (.inl hb)
        · exact hb.elim)
      obtain ⟨r1, r2, r3, r4, r5⟩ := h.rest hro hf
      have hno : ∀ b, b ≠ rb → ¬ Touch 0 (fun j => nb + 1 + j) rb (fun _ => False) b := by
        rintro b hne (⟨j, hj, e⟩ | e | e)
        · omega
        · exact hne e
        · exact e
      have hwl : wantL false false pos rb Ol = insM false pos rb Ol := hL.symm
      refine ⟨rfl, r1, r2, r3, k1, by simpa [wantAt] using k2, ⟨ua, uc, ?_, ?_⟩, ?_, r4, r5⟩
      · rw [hwl]
        refine h.tab.fr k3 ?_
        obtain ⟨d, hd, _⟩ := h.tab
        exact hno _ (fun e => ne_tag hd h.res (by decide) e)
      · rw [hwl]
        refine own_fr h.oth.own k3 (fun g hg => ?_)
        obtain ⟨d, hd⟩ := own_tag h.oth.own hg
        exact hno _ (fun e => ne_tag hd h.res (by decide) e)
      · intro j b hj
        have hj' : Ol[j]? = some b := hj
        obtain ⟨a, l, c, hr⟩ := h.oth.res j b hj'
        rw [if_neg (by simp)] at hr
        exact ⟨_, _, hr.fr k3 (hno _ (fun e => by have := h.oth.gt b (List.mem_of_getElem? hj'); omega))⟩

theorem After.drewN {w : World} {lo : Nat} {Z0 : Nat → Int} {rb pos o0 n : Nat} {was is_ : Bool} {Ol : List Nat} {tb nb la from_ : Nat} {Z1 : Nat → Int} {w7 : World} (h : After w lo Z0 rb pos o0 n was is_ Ol tb nb la from_ Z1 w7) (m : Nat) : After w lo Z0 rb pos o0 n was is_ Ol tb nb la from_ Z1 (w7.drewN m) :=
  ⟨h.oarr, h.oreq, h.narr, h.nreq, h.res, h.tab, h.each, h.others, ⟨h.bel.os, h.bel.tape, h.bel.output, h.bel.size, h.bel.block⟩⟩
end Go.Proofs.Qxb6612390a.fnSetQueueSetsIndexesAndQueuedList
