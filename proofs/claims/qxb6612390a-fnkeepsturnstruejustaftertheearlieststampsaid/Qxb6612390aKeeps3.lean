/-
  Law FnKeepsTurnsTrueJustAfterTheEarliestStamp: keepsBuild.
-/
import Derived.Test.Qxb6612390aKeeps2
import Derived.Test.Qxb6612390aFrame
namespace Go.Proofs.Qxb6612390a
open Go.ChangeShapes Go.WideShapes Go.ChangeAt Go.RowKit
open Go.ChangeMaps (setBlock)
set_option linter.unusedVariables false

/-- Numbers that came in. -/
def Nums (w : World) (a : Option Addr) (len : Nat) (Z : Nat → Int) : Prop :=
  ∀ i, i < len → ∃ b off, a = some ⟨b, off, none⟩ ∧ w.cell? ⟨b, off + i, none⟩ = some (.int .u64 (Z i))

theorem makeMap87 (n : Int) (w : World) : (Instr.makeMap 87 (some (.int .i64 n))).run Try.prog w = .ok (.map (some w.heap.size)) (w.alloc (.map #[] 0)) := by
  simp [Instr.makeMap, run_underlying Try.underlying87, asInt, asIntOf, newObj]
  rfl

def BuildPost (s1 : Int) (one inO : Bool) (bS : Int) (n : Nat) (W : Nat → Bool × Int) (w : World) (e : Ending) (w' : World) : Prop :=
  ∃ rb bb ob mv wb, e = .returned (.tuple #[.pointer (some ⟨rb, 0, none⟩), .pointer (some ⟨bb, 0, none⟩)]) ∧ KS w' rb bb ob s1 mv inO bS wb n W ∧ (ob == bb) = one ∧ Below w.heap.size w w'

/-- A new owner. -/
def ownC : Array Value := #[.pointer none, .int .u64 0, .int .i64 0, .chan none, .int .i32 0, .int .u32 0, .bool false, .pointer none, .int .u32 0, .pointer none, .slice none 0 0, .int .i64 0, .map none, .slice none 0 0, .int .i64 0, .int .u64 0, .bool false, .int .u64 0, .int .i64 0, .pointer none, .pointer none]

/-- The two owners lie at n and n + 1; nothing below n has turned. -/
def Two (n : Nat) (w wr : World) : Prop := wr.heap[n]? = some (.cells ownC 126 (0, 0)) ∧ wr.heap[n + 1]? = some (.cells ownC 126 (0, 0)) ∧ Below n w wr ∧ n + 2 ≤ wr.heap.size

def KeysAbove (w : World) (m : Nat) (es : List MapEntry) : Prop := ∀ e ∈ es, ∃ x, e.key = .pointer (some ⟨x, 0, none⟩) ∧ Cel w x ∧ m < x

/-- The map being filled. -/
def Fill (n : Nat) (w wr : World) : Prop := Two n w wr ∧ ∃ (es : Array MapEntry) (cl : Nat), wr.heap[n + 2]? = some (.map es cl) ∧ KeysAbove wr (n + 2) es.toList

theorem KeysAbove.but {w : World} {m k : Nat} {es : List MapEntry} (h : KeysAbove w m es) (hk : k ≤ m) : KeysBut w k es := by
  intro e he
  obtain ⟨x, h1, h2, h3⟩ := h e he
  exact ⟨x, h1, h2, by omega⟩
theorem KeysAbove.fresh {w : World} {m k : Nat} {es : List MapEntry} (h : KeysAbove w m es) (hk : w.heap.size ≤ k) : KeysBut w k es := by
  intro e he
  obtain ⟨x, h1, h2, h3⟩ := h e he
  have := h2.lt
  exact ⟨x, h1, h2, by omega⟩

theorem Two.fr {n : Nat} {w wr wr' : World} (h : Two n w wr) (hf : Fr (fun b => b = n + 2) wr wr') : Two n w wr' := by
  obtain ⟨h1, h2, h3, h4⟩ := h
  exact ⟨(hf.block n (heap_lt h1) (by omega)).trans h1, (hf.block (n + 1) (heap_lt h2) (by omega)).trans h2, h3.trans (hf.below (by omega) (fun b hb => by omega)), Nat.le_trans h4 hf.size⟩

theorem Fill.step {n : Nat} {w wr : World} {es : Array MapEntry} {cl : Nat} (ht : Two n w wr) (hm : wr.heap[n + 2]? = some (.map es cl)) (hk : KeysAbove wr (n + 2) es.toList) (c1 c2 : Array Value) (v : Value) :
    Fill n w (setBlock ((wr.alloc (.cells c1 126)).alloc (.cells c2 86)) (n + 2) (.map (es.push { key := .pointer (some ⟨wr.heap.size, 0, none⟩), val := v, born := cl }) (cl + 1))) := by
  have hf : Fr (fun b => b = n + 2) wr (setBlock ((wr.alloc (.cells c1 126)).alloc (.cells c2 86)) (n + 2) (.map (es.push { key := .pointer (some ⟨wr.heap.size, 0, none⟩), val := v, born := cl }) (cl + 1))) :=
    Fr.setBlock (S := fun b => b = n + 2) (((Fr.refl _ _).alloc _).alloc _) (n + 2) (.inl rfl) _
  refine ⟨ht.fr hf, _, _, Go.ChangeMaps.heap_setBlock_same (heap_old (heap_old hm _) _) _, ?_⟩
  intro e he
  rw [Array.toList_push, List.mem_append] at he
  rcases he with he | he
  · obtain ⟨x, h1, h2, h3⟩ := hk e he
    exact ⟨x, h1, h2.fr hf (by omega), h3⟩
  · simp at he
    subst he
    refine ⟨wr.heap.size, rfl, ?_, heap_lt hm⟩
    refine ⟨c1, 126, ?_⟩
    rw [Go.ChangeMaps.heap_setBlock_other (heap_old (heap_old hm _) _) _ (by have := heap_lt hm; omega)]
    exact heap_old (heap_new _ _) _

theorem two0 (w : World) : Two w.heap.size w ((w.alloc (.cells ownC 126)).alloc (.cells ownC 126)) := by
  refine ⟨heap_old (heap_new _ _) _, ?_, ((Below.refl _ _).alloc (Nat.le_refl _) _).alloc (by rw [size_alloc]; omega) _, by rw [size_alloc, size_alloc]; omega⟩
  have := heap_new (w.alloc (.cells ownC 126)) (.cells ownC 126)
  rwa [size_alloc] at this
theorem fill0 (w : World) : Fill w.heap.size w (((w.alloc (.cells ownC 126)).alloc (.cells ownC 126)).alloc (.map #[] 0)) := by
  refine ⟨(two0 w).fr ((Fr.refl _ _).alloc _), #[], 0, ?_, fun e he => by simp at he⟩
  have := heap_new ((w.alloc (.cells ownC 126)).alloc (.cells ownC 126)) (.map #[] 0)
  rwa [size_alloc, size_alloc] at this

theorem mapNew (w : World) (r k : Nat) (es : Array MapEntry) (cl : Nat) (hr : w.heap[r]? = some (.map es cl)) (hk : Cel w k) (h : KeysBut w k es.toList) (x : Value) :
    (Instr.mapUpdate 87 (.map (some r)) (.pointer (some ⟨k, 0, none⟩)) x).run Try.prog w = .ok () (setBlock w r (.map (es.push { key := .pointer (some ⟨k, 0, none⟩), val := x, born := cl }) (cl + 1))) := by
  obtain ⟨j, hj, hs⟩ := size_of info126
  exact run_mapUpdate_new Try.underlying87 Try.underlying57 hj (by omega) w r k es cl hr hk h x

/-- Behind the map's making. -/
def MapDone (n : Nat) (w : World) (inO : Bool) (bS : Int) (mv : Value) (wr : World) : Prop := ∃ m, mv = .map m ∧ Two n w wr ∧ MapSt wr m n inO bS

theorem Fill.last {n : Nat} {w wr : World} {es : Array MapEntry} {cl : Nat} (ht : Two n w wr) (hm : wr.heap[n + 2]? = some (.map es cl)) (hk : KeysAbove wr (n + 2) es.toList) (c2 : Array Value) (bS : Int) :
    MapDone n w true bS (.map (some (n + 2))) (setBlock (wr.alloc (.cells c2 86)) (n + 2) (.map (es.push { key := .pointer (some ⟨n, 0, none⟩), val := holdV bS, born := cl }) (cl + 1))) := by
  have hf : Fr (fun b => b = n + 2) wr (setBlock (wr.alloc (.cells c2 86)) (n + 2) (.map (es.push { key := .pointer (some ⟨n, 0, none⟩), val := holdV bS, born := cl }) (cl + 1))) :=
    Fr.setBlock (S := fun b => b = n + 2) ((Fr.refl _ _).alloc _) (n + 2) (.inl rfl) _
  refine ⟨_, rfl, ht.fr hf, .inr ⟨n + 2, _, _, rfl, Go.ChangeMaps.heap_setBlock_same (heap_old hm _) _, .inr ⟨rfl, es, _, rfl, rfl, rfl, ?_⟩⟩⟩
  intro e he
  obtain ⟨x, h1, h2, h3⟩ := hk e he
  exact ⟨x, h1, h2.fr hf (by omega), by omega⟩
theorem Fill.done {n : Nat} {w wr : World} (h : Fill n w wr) (bS : Int) : MapDone n w false bS (.map (some (n + 2))) wr := by
  obtain ⟨ht, es, cl, hm, hk⟩ := h
  exact ⟨_, rfl, ht, .inr ⟨n + 2, es, cl, rfl, hm, .inl ⟨rfl, hk.but (by omega)⟩⟩⟩

/-! ### The waiting requests -/
theorem info34 : (Try.prog.info? 34).map (fun i => (i.zero, i.size, i.bytes)) = some (some (.pointer none), 1, 8) := by kernel_rfl
theorem make33 (n : Nat) (hn : n ≤ 65536) (W : World) : (Instr.makeSlice 33 (.int .i64 (n : Int)) (.int .i64 (n : Int))).run Try.prog W = .ok (.slice (some ⟨W.heap.size, 0, none⟩) n n) (W.alloc (.cells (madeCells #[.pointer none] n) 34)) := by
  obtain ⟨i0, hi, hz0, hz1, hz2⟩ := info_parts info34
  have := run_make (P := Try.prog) (w := W) 33 34 i0 _ Try.underlying33 hi hz0 .i64 .i64 (n : Int) (n : Int) (by omega) (by omega) (by rw [hz2]; omega) (by omega)
  rw [this, hz1]
  simp [Value.cells]

/-- The first k requests are made: the array lies at wb, behind it the requests; below wb nothing has turned since w2. -/
def Made (rb eb wb n : Nat) (W : Nat → Bool × Int) (k : Nat) (w2 wr : World) : Prop :=
  Below wb w2 wr ∧ (∃ c, wr.heap[wb]? = some (.cells c 34 (0, 0)) ∧ c.size = n) ∧
  ∀ i, i < k → ∃ q, wr.cell? ⟨wb, i, none⟩ = some (.pointer (some ⟨q, 0, none⟩)) ∧ wr.cell? ⟨q, 2, none⟩ = some (.pointer (some ⟨if (W i).1 then rb else eb, 0, none⟩)) ∧ wr.cell? ⟨q, 7, none⟩ = some (.int .u64 (W i).2) ∧ wb < q

theorem made0 (rb eb n : Nat) (W : Nat → Bool × Int) (w2 : World) : Made rb eb w2.heap.size n W 0 w2 (w2.alloc (.cells (madeCells #[.pointer none] n) 34)) :=
  ⟨(Below.refl _ _).alloc (Nat.le_refl _) _, ⟨_, heap_new _ _, size_madeCells _ _⟩, fun i hi => by omega⟩

theorem Made.step {rb eb wb n : Nat} {W : Nat → Bool × Int} {k : Nat} {w2 wr : World} (h : Made rb eb wb n W k w2 wr) (hk : k < n) (x : Nat) (hx : x = if (W k).1 then rb else eb) :
    Made rb eb wb n W (k + 1) w2 ((wr.alloc (.cells (reqC (some ⟨x, 0, none⟩) (W k).2) 78)).setCell ⟨wb, k, none⟩ (.pointer (some ⟨wr.heap.size, 0, none⟩))) := by
  obtain ⟨h1, ⟨c, hc, hs⟩, h3⟩ := h
  have hlt := heap_lt hc
  have hc' := heap_old hc (.cells (reqC (some ⟨x, 0, none⟩) (W k).2) 78)
  have hn := heap_new wr (.cells (reqC (some ⟨x, 0, none⟩) (W k).2) 78)
  have hw := heap_setCell hc' k (.pointer (some ⟨wr.heap.size, 0, none⟩))
  have hf : Fr (fun b => b = wb) wr ((wr.alloc (.cells (reqC (some ⟨x, 0, none⟩) (W k).2) 78)).setCell ⟨wb, k, none⟩ (.pointer (some ⟨wr.heap.size, 0, none⟩))) :=
    Fr.setCell (S := fun b => b = wb) ((Fr.refl _ _).alloc _) _ (.inl rfl) _
  have hq : ((wr.alloc (.cells (reqC (some ⟨x, 0, none⟩) (W k).2) 78)).setCell ⟨wb, k, none⟩ (.pointer (some ⟨wr.heap.size, 0, none⟩))).heap[wr.heap.size]? = some (.cells (reqC (some ⟨x, 0, none⟩) (W k).2) 78 (0, 0)) :=
    (Below.heap_setCell _ _ _ _ (by show wr.heap.size ≠ wb; omega)).trans hn
  refine ⟨h1.trans (hf.below (by omega) (fun b hb => by omega)), ⟨_, hw, by simpa using hs⟩, fun i hi => ?_⟩
  by_cases e : i = k
  · subst e
    refine ⟨wr.heap.size, ?_, ?_, ?_, hlt⟩
    · rw [cell_of hw, Array.getElem?_setIfInBounds]; simp [hs, hk]
    · rw [cell_of hq, hx]; rfl
    · rw [cell_of hq]; rfl
  · obtain ⟨q, q1, q2, q3, q4⟩ := h3 i (by omega)
    refine ⟨q, ?_, hf.cell q2 (by omega), hf.cell q3 (by omega), q4⟩
    rw [cell_of hc] at q1
    rw [cell_of hw, Array.getElem?_setIfInBounds, if_neg (fun hh => e hh.symm)]
    exact q1

theorem Made.step' {rb eb wb n : Nat} {W : Nat → Bool × Int} {k : Nat} {w2 wr : World} (h : Made rb eb wb n W k w2 wr) (hk : k < n) (x : Nat) (hx : x = if (W k).1 then rb else eb) :
    Made rb eb wb n W (k + 1) w2 ((wr.setCell ⟨wb, k, none⟩ (.pointer (some ⟨wr.heap.size, 0, none⟩))).alloc (.cells (reqC (some ⟨x, 0, none⟩) (W k).2) 78)) := by
  have h1 := h.step hk x hx
  obtain ⟨_, ⟨c, hc, _⟩, _⟩ := h
  rw [World.setCell_alloc_past _ _ _ _ (heap_lt hc)] at h1
  exact h1

/-- The world with the two resources made. -/
def six (wc : World) (ob : Nat) (s1 : Int) (m : Option Nat) : World :=
  (((((wc.alloc (.cells (holdC s1) 86)).alloc (.cells (holdC s1) 86)).alloc (.cells (resC (some ⟨ob, 0, none⟩) s1 m) 92)).alloc (.cells (holdC 0) 86)).alloc (.cells (holdC 0) 86)).alloc (.cells (resC none 0 none) 92)
theorem six_size (wc : World) (ob : Nat) (s1 : Int) (m : Option Nat) : (six wc ob s1 m).heap.size = wc.heap.size + 6 := by
  simp only [six, size_alloc]
theorem six_below (wc : World) (ob : Nat) (s1 : Int) (m : Option Nat) : Below wc.heap.size wc (six wc ob s1 m) :=
  (Fr.below (S := fun _ => False) ((((((((Fr.refl _ wc).alloc _).alloc _).alloc _).alloc _).alloc _).alloc _)) (Nat.le_refl _) (fun _ _ h => h))
theorem six_res (wc : World) (ob : Nat) (s1 : Int) (m : Option Nat) : (six wc ob s1 m).heap[wc.heap.size + 2]? = some (.cells (resC (some ⟨ob, 0, none⟩) s1 m) 92 (0, 0)) := by
  have h := heap_new ((wc.alloc (.cells (holdC s1) 86)).alloc (.cells (holdC s1) 86)) (.cells (resC (some ⟨ob, 0, none⟩) s1 m) 92)
  rw [size_alloc, size_alloc] at h
  exact heap_old (heap_old (heap_old h _) _) _
theorem six_els (wc : World) (ob : Nat) (s1 : Int) (m : Option Nat) : (six wc ob s1 m).heap[wc.heap.size + 5]? = some (.cells (resC none 0 none) 92 (0, 0)) := by
  have h := heap_new (((((wc.alloc (.cells (holdC s1) 86)).alloc (.cells (holdC s1) 86)).alloc (.cells (resC (some ⟨ob, 0, none⟩) s1 m) 92)).alloc (.cells (holdC 0) 86)).alloc (.cells (holdC 0) 86)) (.cells (resC none 0 none) 92)
  simp only [size_alloc] at h
  exact h
theorem six_made (wc : World) (ob : Nat) (s1 : Int) (m : Option Nat) (n : Nat) (W : Nat → Bool × Int) :
    Made (wc.heap.size + 2) (wc.heap.size + 5) (wc.heap.size + 6) n W 0 (six wc ob s1 m) ((six wc ob s1 m).alloc (.cells (madeCells #[.pointer none] n) 34)) := by
  have := made0 (wc.heap.size + 2) (wc.heap.size + 5) n W (six wc ob s1 m)
  rwa [six_size] at this

theorem MapSt.kept {w w' : World} {mv : Option Nat} {bb : Nat} {inO : Bool} {bS : Int} (h : MapSt w mv bb inO bS) (hc : ∀ b, Cel w b → Cel w' b) (hm : ∀ (b : Nat) (es : Array MapEntry) (cl : Nat), w.heap[b]? = some (Obj.map es cl) → w'.heap[b]? = some (Obj.map es cl)) : MapSt w' mv bb inO bS := by
  have hk : ∀ es, KeysBut w bb es → KeysBut w' bb es := fun es hk e he => by
    obtain ⟨b, h1, h2, h3⟩ := hk e he
    exact ⟨b, h1, hc b h2, h3⟩
  rcases h with h | ⟨mb, es, cl, h1, h2, h3⟩
  · exact .inl h
  · refine .inr ⟨mb, es, cl, h1, hm _ _ _ h2, ?_⟩
    rcases h3 with ⟨h4, h5⟩ | ⟨h4, es', x, h5, h6, h7, h8⟩
    · exact .inl ⟨h4, hk _ h5⟩
    · exact .inr ⟨h4, es', x, h5, h6, h7, hk _ h8⟩

theorem ks_final {n : Nat} {w wc wr : World} {ob : Nat} {s1 : Int} {m : Option Nat} {inO : Bool} {bS : Int} {l2 : Nat} {W : Nat → Bool × Int} (ht : Two n w wc) (hm : MapSt wc m n inO bS) (hob : ob = n ∨ ob = n + 1)
    (hd : Made (wc.heap.size + 2) (wc.heap.size + 5) (wc.heap.size + 6) l2 W l2 (six wc ob s1 m) wr) :
    KS (wr.setCell ⟨n, 13, none⟩ (.slice (some ⟨wc.heap.size + 6, 0, none⟩) l2 l2)) (wc.heap.size + 2) n ob s1 m inO bS (wc.heap.size + 6) l2 W ∧
      Below n w (wr.setCell ⟨n, 13, none⟩ (.slice (some ⟨wc.heap.size + 6, 0, none⟩) l2 l2)) := by
  obtain ⟨t1, t2, t3, t4⟩ := ht
  obtain ⟨d1, ⟨c, hc, hs⟩, d3⟩ := hd
  have l1 := heap_lt t1
  have b6 := six_below wc ob s1 m
  have z6 := six_size wc ob s1 m
  have bwr : Below wc.heap.size wc wr := b6.trans (d1.mono (by omega))
  have hf : Fr (fun b => b = n) wr (wr.setCell ⟨n, 13, none⟩ (.slice (some ⟨wc.heap.size + 6, 0, none⟩) l2 l2)) := Fr.setCell (S := fun b => b = n) (Fr.refl _ _) _ (.inl rfl) _
  have n1 : wr.heap[n]? = some (.cells ownC 126 (0, 0)) := (bwr.block n l1).trans t1
  have n2 : wr.heap[n + 1]? = some (.cells ownC 126 (0, 0)) := (bwr.block (n + 1) (heap_lt t2)).trans t2
  have hn := heap_setCell n1 13 (.slice (some ⟨wc.heap.size + 6, 0, none⟩) l2 l2)
  have hce : ∀ b, Cel wr b → Cel (wr.setCell ⟨n, 13, none⟩ (.slice (some ⟨wc.heap.size + 6, 0, none⟩) l2 l2)) b := fun b h => h.setCell _ _
  have rs : wr.heap[wc.heap.size + 2]? = some (.cells (resC (some ⟨ob, 0, none⟩) s1 m) 92 (0, 0)) := (d1.block _ (by omega)).trans (six_res wc ob s1 m)
  have es : wr.heap[wc.heap.size + 5]? = some (.cells (resC none 0 none) 92 (0, 0)) := (d1.block _ (by omega)).trans (six_els wc ob s1 m)
  have hr := heap_lt rs
  refine ⟨⟨?_, ?_, hce _ ⟨_, _, n1⟩, ?_, ?_, fun i hi => ?_⟩, t3.trans ((bwr.mono (by omega)).trans (hf.below (by have := bwr.size; omega) (fun b hb => by omega)))⟩
  · exact (hf.block _ hr (by omega)).trans rs
  · rcases hob with rfl | rfl
    · exact hce _ ⟨_, _, n1⟩
    · exact hce _ ⟨_, _, n2⟩
  · refine (hm.below bwr).kept hce (fun b e cl hb => ?_)
    refine (hf.block b (heap_lt hb) (fun hbn => ?_)).trans hb
    subst hbn
    rw [n1] at hb
    cases hb
  · rw [cell_of hn]; rfl
  · obtain ⟨q, q1, q2, q3, q4⟩ := d3 i hi
    refine ⟨q, _, hf.cell q1 (by omega), hf.cell q2 (by omega), hf.cell q3 (by omega), ?_, ?_⟩
    · cases (W i).1
      · exact hce _ ⟨_, _, es⟩
      · exact hce _ ⟨_, _, rs⟩
    · cases (W i).1
      · exact beq_eq_false_iff_ne.2 (by simp)
      · simp

set_option maxRecDepth 100000 in
set_option maxHeartbeats 1000000 in
theorem build_any (one : Bool) (s1 : Int) (inO : Bool) (bS : Int) (a1 : Option Addr) (l1 c1 : Nat) (Z : Nat → Int) (a2 : Option Addr) (l2 c2 : Nat) (W : Nat → Bool × Int) (w : World) (hl1 : l1 ≤ 65536) (hl2 : l2 ≤ 65536) (hZ : Nums w a1 l1 Z) (hW : Waits w a2 l2 W) :
    Calls Try.prog 26 #[.bool one, .int .u64 s1, .bool inO, .int .u64 bS, .slice a1 l1 c1, .slice a2 l2 c2] w (BuildPost s1 one inO bS l2 W w) := by
  have hmm := makeMap87
  · go_enter Try.func26, Try.ntmps26
    go_upto_if 25 with fail
    go_cut [15] (fun o wx => ∃ ob, o = .pointer (some ⟨ob, 0, none⟩) ∧ (ob == w.heap.size) = one ∧ (ob = w.heap.size ∨ ob = w.heap.size + 1) ∧ wx = (w.alloc (.cells ownC 126)).alloc (.cells ownC 126))
    case first =>
      cases one
      · go_wp2_with fail
        go_meet
        case rel => exact ⟨_, rfl, beq_eq_false_iff_ne.2 (by omega), .inr rfl, rfl⟩
      · go_wp2_with fail
        go_meet
        case rel => exact ⟨_, rfl, beq_self_eq_true _, .inl rfl, rfl⟩
    case rest =>
      obtain ⟨ob, rfl, hob, hob2, rfl⟩ := hcut
      have HOB : Hid ((ob == w.heap.size) = one) := hob
      clear hob
      go_upto_region 6 with fail
      go_cut [32] (fun t wx => ∃ tb : Bool, t = .bool tb ∧ tb = (inO || decide (0 < l1)) ∧ wx = (w.alloc (.cells ownC 126)).alloc (.cells ownC 126))
      case first =>
        cases inO
        · go_wp2_with fail
          go_meet
          case rel => exact ⟨_, rfl, by simp, rfl⟩
        · go_wp2_with fail
          go_meet
          case rel => exact ⟨_, rfl, by simp, rfl⟩
      obtain ⟨tb, rfl, htb, rfl⟩ := hcut
      have HTB : Hid (tb = (inO || decide (0 < l1))) := htb
      clear htb
      go_upto_if 32 with fail
      go_cut [16] (fun m wx => MapDone w.heap.size w inO bS m wx)
      case first =>
        cases tb
        · have hin : inO = false := by
            have := HTB.out
            cases inO
            · rfl
            · simp at this
          subst hin
          go_wp2_with fail
          go_meet
          case rel => exact ⟨none, rfl, two0 w, .inl ⟨rfl, rfl⟩⟩
        · go_wp2_with fail
          go_loopw [17] (fun i wr => ∃ k : Nat, k ≤ l1 ∧ i = .int .i64 k ∧ Fill w.heap.size w wr) (fun i _ => l1 - (intOf i).toNat)
          case atStart => exact ⟨0, by omega, rfl, fill0 w⟩
          case round =>
            obtain ⟨k, hk, rfl, hfil⟩ := hrel
            by_cases hlt : k < l1
            · obtain ⟨ht, es, cl, hm, hka⟩ := hfil
              obtain ⟨b, off, rfl, hc⟩ := hZ k hlt
              have hbn := cell_lt hc
              have hcr : wr.cell? ⟨b, off + k, none⟩ = some (.int .u64 (Z k)) := (ht.2.2.1.cell (p := ⟨b, off + k, none⟩) hbn).trans hc
              have hbr : b < wr.heap.size := Nat.lt_of_lt_of_le hbn ht.2.2.1.size
              have hmu := fun (c1 c2 : Array Value) (x : Value) => mapNew ((wr.alloc (.cells c1 126)).alloc (.cells c2 86)) (w.heap.size + 2) wr.heap.size es cl (heap_old (heap_old hm _) _) (Cel.alloc (Cel.new _ _ _) _) (KeysBut.alloc (KeysBut.alloc (hka.fresh (Nat.le_refl _)) _) _) x
              have hst := fun (c1 c2 : Array Value) (x : Value) => Fill.step ht hm hka c1 c2 x
              clear ht hka hm hc
              go_wp2_with (go_at_call 30; refine (newHold_any _ _).mono ?_; rintro e w' ⟨rfl, rfl⟩)
              go_roundw
              case rel => exact ⟨k + 1, by omega, by go_num, hst _ _ _⟩
              case measure => simp [intOf]; omega
            · cases inO
              · go_wp2_with fail
                go_meet
                case rel => exact hfil.done bS
              · obtain ⟨ht, es, cl, hm, hka⟩ := hfil
                have hcn : Cel wr w.heap.size := ⟨_, _, ht.1⟩
                have hmu := fun (c2 : Array Value) (x : Value) => mapNew (wr.alloc (.cells c2 86)) (w.heap.size + 2) w.heap.size es cl (heap_old hm _) (hcn.alloc _) (KeysBut.alloc (hka.but (by omega)) _) x
                have hst := fun (c2 : Array Value) (x : Int) => Fill.last ht hm hka c2 x
                clear ht hka hm hcn
                go_wp2_with (go_at_call 30; refine (newHold_any _ _).mono ?_; rintro e w' ⟨rfl, rfl⟩)
                go_meet
                case rel => exact hst _ _
      case rest =>
        obtain ⟨m, rfl, ht, hms⟩ := hcut
        have hmk := make33 l2 hl2
        clear hmm
        go_wp2_with fail
        refine (newHold_any _ _).mono ?_
        rintro e w' ⟨rfl, rfl⟩
        go_wp2_with fail
        refine (newHeld_any _ _ _ _).mono ?_
        rintro e w' ⟨rfl, rfl⟩
        go_wp2_with fail
        refine (newHold_any _ _).mono ?_
        rintro e w' ⟨rfl, rfl⟩
        go_wp2_with fail
        refine (newHeld_any _ _ _ _).mono ?_
        rintro e w' ⟨rfl, rfl⟩
        go_wp2_with fail
        obtain ⟨wb, hwb⟩ : ∃ x, x = wc.heap.size + 1 + 1 + 1 + 1 + 1 + 1 := ⟨_, rfl⟩
        obtain ⟨eb, heb⟩ : ∃ x, x = wc.heap.size + 1 + 1 + 1 + 1 + 1 := ⟨_, rfl⟩
        obtain ⟨rb, hrb⟩ : ∃ x, x = wc.heap.size + 1 + 1 := ⟨_, rfl⟩
        rw [← hwb, ← heb, ← hrb]
        have HB : Hid (wb = wc.heap.size + 6 ∧ eb = wc.heap.size + 5 ∧ rb = wc.heap.size + 2) := ⟨hwb, heb, hrb⟩
        clear hwb heb hrb hmk
        go_loopw [21] (fun i wr => ∃ k : Nat, k ≤ l2 ∧ i = .int .i64 k ∧ Made rb eb wb l2 W k (six wc ob s1 m) wr) (fun i _ => l2 - (intOf i).toNat)
        case atStart =>
          obtain ⟨rfl, rfl, rfl⟩ := HB.out
          exact ⟨0, by omega, rfl, six_made wc ob s1 m l2 W⟩
        case round =>
          obtain ⟨k, hk, rfl, hmd⟩ := hrel
          have hbw : Below w.heap.size w wr := by
            have h6 := six_below wc ob s1 m
            have hz := six_size wc ob s1 m
            have h8 := ht.2.2.2
            refine ht.2.2.1.trans ((h6.mono (by omega)).trans (hmd.1.mono ?_))
            have := HB.out.1
            omega
          by_cases hlt : k < l2
          · obtain ⟨b, off, rfl, hc0, hc1, hu⟩ := hW k hlt
            have hbn := cell_lt hc0
            have hcr0 : wr.cell? ⟨b, off + k * 2, none⟩ = some (.bool (W k).1) := (hbw.cell (p := ⟨b, off + k * 2, none⟩) hbn).trans hc0
            have hcr1 : wr.cell? ⟨b, off + k * 2 + 1, none⟩ = some (.int .u64 (W k).2) := (hbw.cell (p := ⟨b, off + k * 2 + 1, none⟩) hbn).trans hc1
            have hbr : b < wr.heap.size := Nat.lt_of_lt_of_le hbn hbw.size
            have hst := fun x hx => hmd.step' hlt x hx
            obtain ⟨_, ⟨c, hcc, hcs⟩, _⟩ := hmd
            have hwr := heap_lt hcc
            have hcw : wr.cell? ⟨wb, k, none⟩ = some (c[k]'(by omega)) := by rw [cell_of hcc]; simp [hcs, hlt]
            have hfw : wr.frozen? ⟨wb, k, none⟩ = false := by simp [World.frozen?, hcc]
            generalize c[k]'(by omega) = v0 at hcw
            generalize W k = wk at hcr0 hcr1 hst
            obtain ⟨on, sn⟩ := wk
            simp only at hcr0 hcr1 hst
            clear hc0 hc1 hu hcc hcs hbw ht hms
            cases on
            · go_wp2_with (go_at_call 32; refine (newWait_any _ _ _).mono ?_; rintro e w' ⟨rfl, rfl⟩)
              go_roundw
              case rel => exact ⟨k + 1, by omega, by go_num, hst _ rfl⟩
              case measure => simp [intOf]; omega
            · go_wp2_with (go_at_call 32; refine (newWait_any _ _ _).mono ?_; rintro e w' ⟨rfl, rfl⟩)
              go_roundw
              case rel => exact ⟨k + 1, by omega, by go_num, hst _ rfl⟩
              case measure => simp [intOf]; omega
          · obtain rfl : k = l2 := by omega
            obtain ⟨rfl, rfl, rfl⟩ := HB.out
            have hfin := ks_final ht hms hob2 hmd
            have hbwr : Below wc.heap.size wc wr := (six_below wc ob s1 m).trans (hmd.1.mono (by omega))
            have hn0 := (hbwr.block _ (heap_lt ht.1)).trans ht.1
            have hc13 : wr.cell? ⟨w.heap.size, 13, none⟩ = some (.slice none 0 0) := by rw [cell_of hn0]; rfl
            have hf13 : wr.frozen? ⟨w.heap.size, 13, none⟩ = false := by simp [World.frozen?, hn0]
            have HF : Hid _ := hfin
            clear hfin hmd hn0 hbwr hbw ht hms hob2
            go_wp2_with fail
            refine (setWaiting_any _ _ _ hc13 hf13 _ _ _).mono ?_
            rintro e w' ⟨rfl, rfl⟩
            go_wp2_with fail
            go_ret2
            exact ⟨_, _, _, _, _, rfl, HF.out.1, HOB.out, HF.out.2⟩
end Go.Proofs.Qxb6612390a
