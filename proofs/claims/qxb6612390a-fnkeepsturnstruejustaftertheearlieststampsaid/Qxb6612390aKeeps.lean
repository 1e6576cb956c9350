/-
  Law FnKeepsTurnsTrueJustAfterTheEarliestStamp: holdOf, keeps; the plain law on the earliest stamp.
-/
import Derived.Test.Qxb6612390aMem
namespace Go.Proofs.Qxb6612390a
open Go.ChangeShapes Go.WideShapes Go.ChangeAt Go.RowKit
open Go.ChangeMaps (setBlock)
set_option linter.unusedVariables false

def holdC (s : Int) : Array Value := #[.int .u8 0, .pointer none, .int .i32 0, .int .i32 0, .int .u64 s]
def holdV (s : Int) : Value := .agg (holdC s)
def resC (o : Option Addr) (s : Int) (m : Option Nat) : Array Value :=
  #[.nilIface, .int .u64 0, .int .i64 0, .pointer o, .int .u8 0, .pointer none, .int .i32 0, .int .i32 0, .int .u64 s, .map m,
    .slice none 0 0, .slice none 0 0, .int .i64 0, .slice none 0 0, .slice none 0 0, .int .u64 0, .slice none 0 0, .map none]
def reqC (o : Option Addr) (s : Int) : Array Value :=
  #[.pointer none, .int .u8 0, .pointer o, .nilIface, .int .i64 0, .chan none, .nilIface, .int .u64 s, .pointer none, .pointer none,
    .bool false, .slice none 0 0, .int .i64 0, .int .i32 0, .int .i32 0, .int .i32 0, .int .i32 0]

set_option maxHeartbeats 400000 in
theorem newHold_any (s : Int) (w : World) : Calls Try.prog 30 #[.int .u64 s] w fun e w' => e = .returned (holdV s) ∧ w' = w.alloc (.cells (holdC s) 86) := by
  unfold holdV holdC
  go_enter Try.func30, Try.ntmps30
  go_wp2
  simp [bodyPost, results, Try.results30, go_sem]

set_option maxHeartbeats 400000 in
theorem newHeld_any (o : Option Addr) (s : Int) (m : Option Nat) (w : World) : Calls Try.prog 31 #[.pointer o, holdV s, .map m] w fun e w' =>
    e = .returned (.pointer (some ⟨w.heap.size + 1, 0, none⟩)) ∧ w' = (w.alloc (.cells (holdC s) 86)).alloc (.cells (resC o s m) 92) := by
  unfold holdV holdC resC
  go_enter Try.func31, Try.ntmps31
  go_wp2
  go_ret
  exact ⟨rfl, rfl⟩
set_option maxHeartbeats 400000 in
theorem newWait_any (o : Option Addr) (s : Int) (w : World) : Calls Try.prog 32 #[.pointer o, .int .u64 s] w fun e w' =>
    e = .returned (.pointer (some ⟨w.heap.size, 0, none⟩)) ∧ w' = w.alloc (.cells (reqC o s) 78) := by
  unfold reqC
  go_enter Try.func32, Try.ntmps32
  go_wp2
  go_ret
  exact ⟨rfl, rfl⟩
set_option maxHeartbeats 400000 in
theorem setWaiting_any (b : Nat) (v : Value) (w : World) (hc : w.cell? ⟨b, 13, none⟩ = some v) (hf : w.frozen? ⟨b, 13, none⟩ = false) (a : Option Addr) (len cap : Nat) :
    Calls Try.prog 33 #[.pointer (some ⟨b, 0, none⟩), .slice a len cap] w fun e w' => e = .returned (.tuple #[]) ∧ w' = w.setCell ⟨b, 13, none⟩ (.slice a len cap) := by
  go_enter Try.func33, Try.ntmps33
  go_wp2
  go_end0
  exact ⟨rfl, rfl⟩

theorem info126 : (Try.prog.info? 126).map (fun i => i.size) = some 21 := by kernel_rfl
theorem info92 : (Try.prog.info? 92).map (fun i => i.size) = some 18 := by kernel_rfl
theorem size_of {P : Program} {t : TypeId} {n : Nat} (h : (P.info? t).map (fun i => i.size) = some n) : ∃ j, P.info? t = some j ∧ j.size = n := by
  cases hq : P.info? t with
  | none => simp [hq] at h
  | some j => exact ⟨j, rfl, by simpa [hq] using h⟩

theorem eql57 (w : World) (a b : Nat) (ha : Cel w a) (hb : Cel w b) : (binOp .eql 57 (.pointer (some ⟨a, 0, none⟩)) (.pointer (some ⟨b, 0, none⟩))).run Try.prog w = .ok (.bool (a == b)) w := by
  obtain ⟨j, hj, hs⟩ := size_of info126
  exact run_eql_ptr Try.underlying57 hj (by omega) w a b ha hb
theorem eql36 (w : World) (a b : Nat) (ha : Cel w a) (hb : Cel w b) : (binOp .eql 36 (.pointer (some ⟨a, 0, none⟩)) (.pointer (some ⟨b, 0, none⟩))).run Try.prog w = .ok (.bool (a == b)) w := by
  obtain ⟨j, hj, hs⟩ := size_of info92
  exact run_eql_ptr Try.underlying36 hj (by omega) w a b ha hb
theorem zero86 (w : World) : (zeroValue 86).run Try.prog w = .ok (holdV 0) w := by kernel_rfl

/-- The map of the other holders: what it says of the owner at block bb. -/
def MapSt (w : World) (mv : Option Nat) (bb : Nat) (inO : Bool) (bS : Int) : Prop :=
  (mv = none ∧ inO = false) ∨ ∃ (mb : Nat) (es : Array MapEntry) (cl : Nat), mv = some mb ∧ w.heap[mb]? = some (.map es cl) ∧
    ((inO = false ∧ KeysBut w bb es.toList) ∨ (inO = true ∧ ∃ (es' : Array MapEntry) (x : MapEntry), es = es'.push x ∧ x.key = .pointer (some ⟨bb, 0, none⟩) ∧ x.val = holdV bS ∧ KeysBut w bb es'.toList))

theorem KeysBut.below {w w' : World} {k B : Nat} {es : List MapEntry} (h : KeysBut w k es) (hb : Below B w w') (hB : w.heap.size ≤ B) : KeysBut w' k es := by
  intro e he
  obtain ⟨b, h1, h2, h3⟩ := h e he
  exact ⟨b, h1, h2.below hb (Nat.lt_of_lt_of_le h2.lt hB), h3⟩
theorem MapSt.below {w w' : World} {mv : Option Nat} {bb : Nat} {inO : Bool} {bS : Int} (h : MapSt w mv bb inO bS) (hb : Below w.heap.size w w') : MapSt w' mv bb inO bS := by
  rcases h with h | ⟨mb, es, cl, h1, h2, h3⟩
  · exact .inl h
  · refine .inr ⟨mb, es, cl, h1, (hb.block mb (Array.getElem?_eq_some_iff.1 h2).1).trans h2, ?_⟩
    rcases h3 with ⟨h4, h5⟩ | ⟨h4, es', x, h5, h6, h7, h8⟩
    · exact .inl ⟨h4, h5.below hb (Nat.le_refl _)⟩
    · exact .inr ⟨h4, es', x, h5, h6, h7, h8.below hb (Nat.le_refl _)⟩

theorem heap_alloc_old {w : World} {b : Nat} {x : Obj} (h : w.heap[b]? = some x) (o : Obj) : (w.alloc o).heap[b]? = some x :=
  (Below.heap_alloc w o b (Array.getElem?_eq_some_iff.1 h).1).trans h
theorem len87 (w : World) (mb : Nat) (es : Array MapEntry) (cl : Nat) (h : w.heap[mb]? = some (.map es cl)) : (Builtin.len_ #[87] 3 #[.map (some mb)]).run Try.prog w = .ok (.int .i64 es.size) w := by
  simp [Builtin.len_, Sem.run_bind, run_underlying Try.underlying87, Result.andThen, getObj, Sem.run, h, goInt]
theorem look_none (w : World) (mb bb : Nat) (es : Array MapEntry) (cl : Nat) (h : w.heap[mb]? = some (.map es cl)) (hb : Cel w bb) (hk : KeysBut w bb es.toList) :
    (Instr.lookup 87 (.map (some mb)) (.pointer (some ⟨bb, 0, none⟩)) true).run Try.prog w = .ok (.tuple #[holdV 0, .bool false]) w := by
  obtain ⟨j, hj, hs⟩ := size_of info126
  exact run_lookup_none Try.underlying87 Try.underlying57 hj (by omega) zero86 w mb bb es cl h hb hk
theorem look_last (w : World) (mb bb : Nat) (es : Array MapEntry) (x : MapEntry) (hx : x.key = .pointer (some ⟨bb, 0, none⟩)) (cl : Nat) (h : w.heap[mb]? = some (.map (es.push x) cl)) (hb : Cel w bb) (hk : KeysBut w bb es.toList) :
    (Instr.lookup 87 (.map (some mb)) (.pointer (some ⟨bb, 0, none⟩)) true).run Try.prog w = .ok (.tuple #[x.val, .bool true]) w := by
  obtain ⟨j, hj, hs⟩ := size_of info126
  exact run_lookup_last Try.underlying87 Try.underlying57 hj (by omega) w mb bb es x hx cl h hb hk
theorem KeysBut.alloc {w : World} {k : Nat} {es : List MapEntry} (h : KeysBut w k es) (o : Obj) : KeysBut (w.alloc o) k es :=
  h.below ((Below.refl w.heap.size w).alloc (Nat.le_refl _) o) (Nat.le_refl _)

/-- What holdOf answers. -/
def HoldPost (s : Int) (f : Bool) (w : World) (e : Ending) (w' : World) : Prop := e = .returned (.tuple #[holdV s, .bool f]) ∧ Below w.heap.size w w'

set_option maxHeartbeats 400000 in
theorem holdOf_one (rb ob : Nat) (s1 : Int) (mv : Option Nat) (w : World) (hr : w.heap[rb]? = some (.cells (resC (some ⟨ob, 0, none⟩) s1 mv) 92 (0, 0))) (ho : Cel w ob) :
    Calls Try.prog 36 #[.pointer (some ⟨rb, 0, none⟩), .pointer (some ⟨ob, 0, none⟩)] w (HoldPost s1 true w) := by
  have hlt := (Array.getElem?_eq_some_iff.1 hr).1
  have c3 : w.cell? ⟨rb, 3, none⟩ = some (.pointer (some ⟨ob, 0, none⟩)) := by simp [World.cell?, hr, resC]
  have c4 : w.cell? ⟨rb, 4, none⟩ = some (.int .u8 0) := by simp [World.cell?, hr, resC]
  have c5 : w.cell? ⟨rb, 5, none⟩ = some (.pointer none) := by simp [World.cell?, hr, resC]
  have c6 : w.cell? ⟨rb, 6, none⟩ = some (.int .i32 0) := by simp [World.cell?, hr, resC]
  have c7 : w.cell? ⟨rb, 7, none⟩ = some (.int .i32 0) := by simp [World.cell?, hr, resC]
  have c8 : w.cell? ⟨rb, 8, none⟩ = some (.int .u64 s1) := by simp [World.cell?, hr, resC]
  have heq := fun o => eql57 (w.alloc o) ob ob (ho.alloc o) (ho.alloc o)
  simp only [beq_self_eq_true] at heq
  clear hr ho
  go_enter Try.func36, Try.ntmps36
  go_wp2
  exact bodyPost_ret (v := .tuple #[holdV s1, .bool true]) (by simp [results, Try.results36, go_sem, holdV, holdC]) rfl ⟨rfl, (Below.refl _ _).alloc (Nat.le_refl _) _⟩

set_option maxHeartbeats 800000 in
set_option maxRecDepth 100000 in
theorem holdOf_other (rb ob bb : Nat) (s1 : Int) (mv : Option Nat) (w : World) (hr : w.heap[rb]? = some (.cells (resC (some ⟨ob, 0, none⟩) s1 mv) 92 (0, 0))) (ho : Cel w ob) (hb : Cel w bb) (hne : ob ≠ bb) (inO : Bool) (bS : Int) (hm : MapSt w mv bb inO bS) :
    Calls Try.prog 36 #[.pointer (some ⟨rb, 0, none⟩), .pointer (some ⟨bb, 0, none⟩)] w (HoldPost (if inO then bS else 0) inO w) := by
  have hlt := (Array.getElem?_eq_some_iff.1 hr).1
  have c3 : w.cell? ⟨rb, 3, none⟩ = some (.pointer (some ⟨ob, 0, none⟩)) := by simp [World.cell?, hr, resC]
  have c9 : w.cell? ⟨rb, 9, none⟩ = some (.map mv) := by simp [World.cell?, hr, resC]
  have heq := fun o => eql57 (w.alloc o) ob bb (ho.alloc o) (hb.alloc o)
  have hf : (ob == bb) = false := beq_eq_false_iff_ne.2 hne
  simp only [hf] at heq
  clear hr ho hf hne
  rcases hm with ⟨rfl, rfl⟩ | ⟨mb, es, cl, rfl, h2, h3⟩
  · go_enter Try.func36, Try.ntmps36
    go_wp2
    exact bodyPost_ret (v := .tuple #[holdV 0, .bool false]) (by simp [results, Try.results36, go_sem, holdV, holdC]) rfl ⟨rfl, (Below.refl _ _).alloc (Nat.le_refl _) _⟩
  · by_cases h0 : es.size = 0
    · have hin : inO = false := by
        rcases h3 with ⟨h4, _⟩ | ⟨_, es', x, rfl, _⟩
        · exact h4
        · simp at h0
      subst hin
      have hlen : ((es.size : Int) == 0) = true := by rw [h0]; rfl
      have hl := fun o => len87 (w.alloc o) mb es cl (heap_alloc_old h2 o)
      clear h3 h0 h2
      go_enter Try.func36, Try.ntmps36
      go_wp2
      exact bodyPost_ret (v := .tuple #[holdV 0, .bool false]) (by simp [results, Try.results36, go_sem, holdV, holdC]) rfl ⟨rfl, (Below.refl _ _).alloc (Nat.le_refl _) _⟩
    · have hlen : ((es.size : Int) == 0) = false := beq_eq_false_iff_ne.2 (by omega)
      have hl := fun o => len87 (w.alloc o) mb es cl (heap_alloc_old h2 o)
      have hk : ∀ o, (Instr.lookup 87 (.map (some mb)) (.pointer (some ⟨bb, 0, none⟩)) true).run Try.prog (w.alloc o) = .ok (.tuple #[.agg #[.int .u8 0, .pointer none, .int .i32 0, .int .i32 0, .int .u64 (if inO then bS else 0)], .bool inO]) (w.alloc o) := by
        intro o
        rcases h3 with ⟨rfl, hk⟩ | ⟨rfl, es', x, rfl, hx, hv, hk⟩
        · exact look_none (w.alloc o) mb bb es cl (heap_alloc_old h2 o) (hb.alloc o) (hk.alloc o)
        · have := look_last (w.alloc o) mb bb es' x hx cl (heap_alloc_old h2 o) (hb.alloc o) (hk.alloc o)
          rw [hv] at this
          exact this
      clear h3 h0 h2
      generalize (if inO then bS else 0) = hs at hk ⊢
      go_enter Try.func36, Try.ntmps36
      go_wp2
      exact bodyPost_ret (v := .tuple #[holdV hs, .bool inO]) (by simp [results, Try.results36, go_sem, holdV, holdC]) rfl ⟨rfl, ((Below.refl _ _).alloc (Nat.le_refl _) _).alloc (by simp) _⟩

/-- The resource and the owner that the law has built. -/
structure KS (w : World) (rb bb ob : Nat) (s1 : Int) (mv : Option Nat) (inO : Bool) (bS : Int) (wb n : Nat) (W : Nat → Bool × Int) : Prop where
  res : w.heap[rb]? = some (.cells (resC (some ⟨ob, 0, none⟩) s1 mv) 92 (0, 0))
  one : Cel w ob
  own : Cel w bb
  map : MapSt w mv bb inO bS
  wai : w.cell? ⟨bb, 13, none⟩ = some (.slice (some ⟨wb, 0, none⟩) n n)
  req : ∀ i, i < n → ∃ q x, w.cell? ⟨wb, i, none⟩ = some (.pointer (some ⟨q, 0, none⟩)) ∧ w.cell? ⟨q, 2, none⟩ = some (.pointer (some ⟨x, 0, none⟩)) ∧ w.cell? ⟨q, 7, none⟩ = some (.int .u64 (W i).2) ∧ Cel w x ∧ (x == rb) = (W i).1

theorem cell_lt {w : World} {b i : Nat} {v : Value} (h : w.cell? ⟨b, i, none⟩ = some v) : b < w.heap.size := by
  apply Decidable.byContradiction
  intro hn
  have : w.heap[b]? = none := by simp; omega
  simp [World.cell?, this] at h

theorem KS.below {w w' : World} {rb bb ob : Nat} {s1 : Int} {mv : Option Nat} {inO : Bool} {bS : Int} {wb n : Nat} {W : Nat → Bool × Int} (h : KS w rb bb ob s1 mv inO bS wb n W) (hb : Below w.heap.size w w') : KS w' rb bb ob s1 mv inO bS wb n W := by
  refine ⟨(hb.block rb (Array.getElem?_eq_some_iff.1 h.res).1).trans h.res, h.one.below hb h.one.lt, h.own.below hb h.own.lt, h.map.below hb, (hb.cell (p := ⟨bb, 13, none⟩) h.own.lt).trans h.wai, fun i hi => ?_⟩
  obtain ⟨q, x, h1, h2, h3, h4, h5⟩ := h.req i hi
  exact ⟨q, x, (hb.cell (p := ⟨wb, i, none⟩) (cell_lt h1)).trans h1, (hb.cell (p := ⟨q, 2, none⟩) (cell_lt h2)).trans h2, (hb.cell (p := ⟨q, 7, none⟩) (cell_lt h3)).trans h3, h4.below hb h4.lt, h5⟩

/-- Has one of the first k requests a stamp below t? -/
def anyW (W : Nat → Bool × Int) (k : Nat) (t : Int) : Bool := (List.range k).any fun i => (W i).1 && decide ((W i).2 < t)
theorem anyW_succ (W : Nat → Bool × Int) (k : Nat) (t : Int) : anyW W (k + 1) t = (anyW W k t || ((W k).1 && decide ((W k).2 < t))) := by
  simp [anyW, List.range_succ]
theorem anyW_hit (W : Nat → Bool × Int) (n k : Nat) (t : Int) (hk : k < n) (h : ((W k).1 && decide ((W k).2 < t)) = true) : anyW W n t = true := by
  unfold anyW
  rw [List.any_eq_true]
  exact ⟨k, by simp [hk], h⟩

def holdF (ob bb : Nat) (inO : Bool) : Bool := (ob == bb) || inO
def holdS (ob bb : Nat) (s1 : Int) (inO : Bool) (bS : Int) : Int := if ob = bb then s1 else if inO then bS else 0

theorem holdOf_any {w : World} {rb bb ob : Nat} {s1 : Int} {mv : Option Nat} {inO : Bool} {bS : Int} {wb n : Nat} {W : Nat → Bool × Int} (h : KS w rb bb ob s1 mv inO bS wb n W) :
    Calls Try.prog 36 #[.pointer (some ⟨rb, 0, none⟩), .pointer (some ⟨bb, 0, none⟩)] w (HoldPost (holdS ob bb s1 inO bS) (holdF ob bb inO) w) := by
  by_cases e : ob = bb
  · subst e
    have e1 : holdS ob ob s1 inO bS = s1 := by simp [holdS]
    have e2 : holdF ob ob inO = true := by simp [holdF]
    rw [e1, e2]
    exact holdOf_one rb ob s1 mv w h.res h.one
  · have e1 : holdS ob bb s1 inO bS = if inO then bS else 0 := by simp [holdS, e]
    have e2 : holdF ob bb inO = inO := by
      have : (ob == bb) = false := beq_eq_false_iff_ne.2 e
      simp [holdF, this]
    rw [e1, e2]
    exact holdOf_other rb ob bb s1 mv w h.res h.one h.own e inO bS h.map

def KeepPost (r : Bool) (w : World) (e : Ending) (w' : World) : Prop := e = .returned (.bool r) ∧ Below w.heap.size w w'
theorem KeepPost.mk {r r' : Bool} {w w' : World} (hr : r' = r) (h : Below w.heap.size w w') : KeepPost r w (.returned (.bool r')) w' := ⟨by rw [hr], h⟩

def HoldSays (rb bb : Nat) (hs : Int) (hf : Bool) (w : World) : Prop := Calls Try.prog 36 #[.pointer (some ⟨rb, 0, none⟩), .pointer (some ⟨bb, 0, none⟩)] w (HoldPost hs hf w)

set_option maxRecDepth 100000 in
set_option maxHeartbeats 1000000 in
theorem keeps_in {w : World} {rb bb ob : Nat} {s1 : Int} {mv : Option Nat} {inO : Bool} {bS : Int} {wb n : Nat} {W : Nat → Bool × Int} (h : KS w rb bb ob s1 mv inO bS wb n W) (hn : n ≤ 65536) (t : Int) (hs : Int) (hf : Bool) (hH : HoldSays rb bb hs hf w) :
    Calls Try.prog 34 #[.pointer (some ⟨rb, 0, none⟩), .pointer (some ⟨bb, 0, none⟩), .int .u64 t] w (KeepPost ((hf && decide (hs < t)) || anyW W n t) w) := by
  by_cases hy : hf = true ∧ hs < t
  · obtain ⟨rfl, hy⟩ := hy
    go_enter Try.func34, Try.ntmps34
    go_wp2_with fail
    refine (show Calls _ _ _ _ _ from hH).mono ?_
    rintro e w1 ⟨rfl, hb1⟩
    unfold holdV holdC
    clear h
    go_wp2_with fail
    go_ret
    exact KeepPost.mk (by simp [hy]) (hb1.alloc hb1.size _)
  · have hff : (hf && decide (hs < t)) = false := by
      cases hf
      · rfl
      · simp at hy; simp; omega
    rw [hff, Bool.false_or]
    clear hff
    go_enter Try.func34, Try.ntmps34
    go_wp2_with fail
    refine (show Calls _ _ _ _ _ from hH).mono ?_
    rintro e w1 ⟨rfl, hb1⟩
    have h1 := h.below hb1
    have hc13 := h1.wai
    have hl13 := h1.own.lt
    unfold holdV holdC
    clear h hH
    cases hf
    all_goals
      first
        | (have hge : ¬ hs < t := fun hh => hy ⟨rfl, hh⟩)
        | skip
      clear hy
      go_wp2_with fail
      go_loop [29] (fun i => ∃ k : Nat, k ≤ n ∧ i = .int .i64 k ∧ anyW W k t = false) (fun i => n - (intOf i).toNat)
      case atStart => exact ⟨0, by omega, rfl, rfl⟩
      case round =>
        obtain ⟨k, hk, rfl, ha⟩ := hrel
        by_cases hlt : k < n
        · obtain ⟨q, x, r1, r2, r3, r4, r5⟩ := h1.req k hlt
          have l1 := cell_lt r1
          have l2 := cell_lt r2
          have hrc : Cel w1 rb := ⟨_, _, h1.res⟩
          have heq := fun o => eql36 (w1.alloc o) x rb (r4.alloc o) (hrc.alloc o)
          have HS : Hid (anyW W (k + 1) t = (anyW W k t || ((W k).1 && decide ((W k).2 < t)))) := anyW_succ W k t
          have HA : Hid (anyW W k t = false) := ha
          have HT := fun hh => anyW_hit W n k t hlt hh
          rw [r5] at heq
          generalize W k = wk at r3 heq HS HT
          obtain ⟨on, sn⟩ := wk
          simp only at r3 heq HS HT
          clear h1 r4 r5 hrc ha
          cases on
          · go_wp2_with fail
            go_round
            case rel => exact ⟨k + 1, by omega, by go_num, by rw [HS.out, HA.out]; rfl⟩
            case measure => simp [intOf]; omega
          · by_cases hst : sn < t
            · go_wp2_with fail
              go_ret
              exact KeepPost.mk (by first | rfl | exact (HT (by simp [hst])).symm) (hb1.alloc hb1.size _)
            · go_wp2_with fail
              go_round
              case rel => exact ⟨k + 1, by omega, by go_num, by rw [HS.out, HA.out]; simp; omega⟩
              case measure => simp [intOf]; omega
        · obtain rfl : k = n := by omega
          have HA : Hid (anyW W k t = false) := ha
          clear ha
          go_wp2_with fail
          go_ret
          exact KeepPost.mk HA.out.symm (hb1.alloc hb1.size _)

theorem keeps_any {w : World} {rb bb ob : Nat} {s1 : Int} {mv : Option Nat} {inO : Bool} {bS : Int} {wb n : Nat} {W : Nat → Bool × Int} (h : KS w rb bb ob s1 mv inO bS wb n W) (hn : n ≤ 65536) (t : Int) :
    Calls Try.prog 27 #[.pointer (some ⟨rb, 0, none⟩), .pointer (some ⟨bb, 0, none⟩), .int .u64 t] w (KeepPost ((holdF ob bb inO && decide (holdS ob bb s1 inO bS < t)) || anyW W n t) w) := by
  have hin := keeps_in h hn t _ _ (holdOf_any h)
  generalize ((holdF ob bb inO && decide (holdS ob bb s1 inO bS < t)) || anyW W n t) = r at hin ⊢
  have HI : Hid (Calls Try.prog 34 #[.pointer (some ⟨rb, 0, none⟩), .pointer (some ⟨bb, 0, none⟩), .int .u64 t] w (KeepPost r w)) := hin
  clear hin h
  go_enter Try.func27, Try.ntmps27
  go_wp2_with fail
  refine HI.out.mono ?_
  rintro e w1 ⟨rfl, hb1⟩
  go_wp2_with fail
  go_ret
  exact KeepPost.mk rfl hb1

/-! ### The plain function: the earliest stamp -/
/-- One stamp more. -/
def step (p : Bool × Int) (x : Int) : Bool × Int := if !p.1 || decide (x < p.2) then (true, x) else p
def stepW (p : Bool × Int) (x : Bool × Int) : Bool × Int := if x.1 then step p x.2 else p
def ear0 (one : Bool) (s1 : Int) (inO : Bool) (bS : Int) : Bool × Int :=
  let p := if one then (true, s1) else (false, 0)
  if inO then step p bS else p
def ear (p : Bool × Int) (W : Nat → Bool × Int) (k : Nat) : Bool × Int := (List.range k).foldl (fun p i => stepW p (W i)) p
theorem ear_succ (p : Bool × Int) (W : Nat → Bool × Int) (k : Nat) : ear p W (k + 1) = stepW (ear p W k) (W k) := by
  simp [ear, List.range_succ]

theorem step_law (p : Bool × Int) (x t : Int) : ((step p x).1 && decide ((step p x).2 < t)) = ((p.1 && decide (p.2 < t)) || decide (x < t)) := by
  obtain ⟨f, s⟩ := p
  unfold step
  cases f
  · simp
  · by_cases h : x < s
    · simp only [Bool.not_true, Bool.false_or, h, decide_true, if_true, Bool.true_and]
      rw [Bool.eq_iff_iff]; simp; omega
    · simp only [Bool.not_true, Bool.false_or, h, decide_false, Bool.true_and]
      rw [Bool.eq_iff_iff]; simp; omega
theorem ear_law (p : Bool × Int) (W : Nat → Bool × Int) (t : Int) : ∀ k, ((ear p W k).1 && decide ((ear p W k).2 < t)) = ((p.1 && decide (p.2 < t)) || anyW W k t)
  | 0 => by
    show _ = (_ || false)
    rw [Bool.or_false]
    rfl
  | k + 1 => by
    rw [ear_succ, anyW_succ, ← Bool.or_assoc, ← ear_law p W t k]
    unfold stepW
    cases hx : (W k).1
    · simp
    · simp only [if_true, Bool.true_and]
      exact step_law _ _ _
/-- The stamps fit their kind. -/
def U64 (x : Int) : Prop := 0 ≤ x ∧ x ≤ 18446744073709551615
theorem ear_u64 (p : Bool × Int) (W : Nat → Bool × Int) (n : Nat) (hp : U64 p.2) (hW : ∀ i, i < n → U64 (W i).2) : ∀ k, k ≤ n → U64 (ear p W k).2
  | 0, _ => by simpa [ear] using hp
  | k + 1, h => by
    rw [ear_succ]
    have := ear_u64 p W n hp hW k (by omega)
    unfold stepW step
    split
    · split
      · exact hW k (by omega)
      · exact this
    · exact this
end Go.Proofs.Qxb6612390a
