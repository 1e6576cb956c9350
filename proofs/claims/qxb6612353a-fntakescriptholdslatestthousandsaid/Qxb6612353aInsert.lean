/-
  slices.Insert of one latency (the library's text; the shelf's worked text turned to this instance).
-/
import Derived.Test.Qxb6612353aSearch
import Derived.Shelf.Spec.SlicesInsertGrow
import Derived.Deep.RegionLaw
namespace Go.Proofs.Qxb6612353a
open Go.ChangeShapes Go.WideShapes Go.ChangeAt Go.RowKit Go.Lib
set_option linter.unusedVariables false
set_option linter.unusedSimpArgs false

theorem info34 : (Try.prog.info? 34).map (fun i => (i.zero, i.size, i.bytes)) = some (some (.int .i64 0), 1, 8) := by kernel_rfl
theorem size34 : (Try.prog.info? 34).map (·.size) = some 1 := by kernel_rfl
theorem sizeOf34 (w : World) : (Go.sizeOf 34).run Try.prog w = .ok 1 w := by
  obtain ⟨i0, hi, hz0, hz1, hz2⟩ := info_parts info34
  simp [Go.sizeOf, typeInfo, hi, hz1]
def I (x : Int) : Value := .int .i64 x

theorem heap_setCells {b : Nat} {t : TypeId} : ∀ (vs : List Value) (o : Nat) (w : World) (c : Array Value), w.heap[b]? = some (.cells c t (0, 0)) → ∃ c', (w.setCells b o vs).heap[b]? = some (.cells c' t (0, 0)) ∧ c'.size = c.size
  | [], o, w, c, h => ⟨c, h, rfl⟩
  | v :: vs, o, w, c, h => by
    obtain ⟨c', h1, h2⟩ := heap_setCells vs (o + 1) (w.setCell ⟨b, o, none⟩ v) _ (heap_setCell h o v)
    exact ⟨c', h1, by simpa using h2⟩
theorem fr_setCells (S : Nat → Prop) (b : Nat) (hS : S b) : ∀ (vs : List Value) (o : Nat) {a w : World}, Fr S a w → Fr S a (w.setCells b o vs)
  | [], o, a, w, h => h
  | v :: vs, o, a, w, h => fr_setCells S b hS vs (o + 1) (h.setCell _ (.inl hS) v)

theorem own34 {w : World} {base n uc : Nat} {ua : Option Addr} {xs : List Int} (h : w.ownsRow base 34 1 (.slice ua n uc) n (xs.map I)) (hn : 0 < n) :
    ∃ b cur, ua = some ⟨b, 0, none⟩ ∧ base ≤ b ∧ w.heap[b]? = some (.cells cur 34 (0, 0)) ∧ n ≤ uc ∧ uc ≤ maxLen ∧ cur.size = uc ∧ cur.toList.take n = xs.map I := by
  rcases h.2 with ⟨_, hh⟩ | ⟨g, cap, cur, hh, h1, h2, h3, h4, h5, h6⟩
  · omega
  · simp at hh
    obtain ⟨rfl, rfl⟩ := hh
    exact ⟨g, cur, rfl, h1, h2, h3, h4, by simpa using h5, by simpa using h6⟩

theorem hov45 (w : World) (vb b : Nat) (off m vc lb cb : Nat) (hvb : vb ≠ b) (cA cB : Array Value) (hA : w.heap[vb]? = some (.cells cA 34 (0, 0))) (hB : w.heap[b]? = some (.cells cB 34 (0, 0))) (hk : cB.size ≠ 0) :
    (callFunc 45 #[.slice (some ⟨vb, 0, none⟩) m vc, .slice (some ⟨b, off, none⟩) lb cb]).run Try.prog w = .ok (.value (.bool false)) w := by
  rw [run_callFunc_extern Try.func45 (by kernel_rfl) (by kernel_rfl) (by kernel_rfl) (e := Extern.SlicesOverlaps.overlaps #[52, 52] #[4]) (by kernel_rfl),
    Lib.run_overlaps_apart w 52 4 34 Try.underlying52 1 sizeOf34 ⟨vb, 0, none⟩ ⟨b, off, none⟩ m vc lb cb hvb 34 34 cA.size cB.size ?_ ?_ hk ?_ ?_]
  · rfl
  · simp [World.shape?, hA]
  · simp [World.shape?, hB]
  · simp [World.frozen?, hA]
  · simp [World.frozen?, hA]

set_option maxRecDepth 100000 in
set_option maxHeartbeats 4000000 in
theorem ins_shift (b n c i vb : Nat) (cs : List Value) (x : Value) (w : World) (cur : Array Value) (hi : i < n) (hroom : n + 1 ≤ c) (hc63 : c ≤ 9223372036854775807) (hvb : vb ≠ b) (hcl : cs.length = n)
    (hcur : w.heap[b]? = some (.cells cur 34 (0, 0))) (hcs : cur.size = c) (htk : ∀ (j : Nat) (v : Value), cs[j]? = some v → cur[j]? = some v) (hv : w.heap[vb]? = some (.cells #[x] 34 (0, 0)))
    (h1c : ∀ v ∈ cs, v.oneCell' = true) (h1v : x.oneCell' = true) :
    Calls Try.prog 40 #[.slice (some ⟨b, 0, none⟩) n c, .int .i64 i, .slice (some ⟨vb, 0, none⟩) 1 1] w fun e w' =>
      e = .returned (.slice (some ⟨b, 0, none⟩) (n + 1) c) ∧ w' = (w.drew.setCells b (i + 1) (cs.drop i)).setCells b i [x] := by
  have hz2 : ¬ ((i : Int) = (n : Int)) := by omega
  have hov : ∀ lb cb, (callFunc 45 #[.slice (some ⟨vb, 0, none⟩) 1 1, .slice (some ⟨b, i + 1, none⟩) lb cb]).run Try.prog w = .ok (.value (.bool false)) w := fun lb cb => hov45 w vb b (i + 1) 1 1 lb cb hvb _ _ hv hcur (by omega)
  have hdl : (cs.drop i).length = n - i := by rw [List.length_drop, hcl]
  have hsp : ∀ j, j < n + 1 → (w.cell? ⟨b, j, none⟩).isSome = true := fun j hj => by
    rw [cell_of hcur, Array.getElem?_eq_getElem (by omega)]; rfl
  have hfz : ∀ j, w.frozen? ⟨b, j, none⟩ = false := fun j => by simp [World.frozen?, hcur]
  have hw1 : IntKind.i64.wrap ((i : Int) + 1) = (i : Int) + 1 := by rw [IntKind.wrap_i64]; omega
  have hb1 : (0 : Int) ≤ (i : Int) + 1 := by omega
  have hin : i ≤ n := by omega
  have htn : ((i : Int) + 1).toNat = i + 1 := by omega
  have hb2 : ¬ (c = i + 1) := by omega
  have hb3 : (i : Int) ≤ (n : Int) + 1 := by omega
  have hb4 : ¬ (c = i) := by omega
  have hcp1 : ∀ ty dc sc, (Builtin.copy_ #[52, 52] ty #[.slice (some ⟨b, i + 1, none⟩) (n - i) dc, .slice (some ⟨b, i, none⟩) (n + 1 - i) sc]).run Try.prog w.drew = .ok (goInt (cs.drop i).length) (w.drew.setCells b (i + 1) (cs.drop i)) := fun ty dc sc =>
    run_copy_cells w.drew _ _ ty 34 b (i + 1) (n - i) dc ⟨b, i, none⟩ (n + 1 - i) sc (cs.drop i) Try.underlying52 size34 (by rw [hdl]; simp only [Nat.min_def]; split <;> omega)
      (fun j v hj => by
        rw [Addr.add_lit]
        rw [List.getElem?_drop] at hj
        show w.cell? _ = _
        rw [cell_of hcur]
        exact htk _ v hj)
      (fun j hj => hsp _ (by omega)) (fun j hj => hfz _) (fun v hv => h1c v (List.mem_of_mem_drop hv))
  obtain ⟨W1, hW1⟩ : ∃ W1, W1 = w.drew.setCells b (i + 1) (cs.drop i) := ⟨_, rfl⟩
  have hsp1 : ∀ k, k < n + 1 → (W1.cell? ⟨b, k, none⟩).isSome = true := fun k hk => by
    rw [hW1]
    exact isSome_setCells b (cs.drop i) (i + 1) w.drew (fun j hj => hsp (i + 1 + j) (by omega)) k (hsp k hk)
  have hcp2 : ∀ (W : World), (∀ x, W.cell? x = W1.cell? x) → (∀ x, W.frozen? x = W1.frozen? x) → ∀ ty dc, (Builtin.copy_ #[52, 52] ty #[.slice (some ⟨b, i, none⟩) (n + 1 - i) dc, .slice (some ⟨vb, 0, none⟩) 1 1]).run Try.prog W = .ok (goInt [x].length) (W.setCells b i [x]) := fun W hWc hWf ty dc =>
    run_copy_cells W _ _ ty 34 b i (n + 1 - i) dc ⟨vb, 0, none⟩ 1 1 [x] Try.underlying52 size34 (by simp only [List.length_singleton, Nat.min_def]; split <;> omega)
      (fun j v hj => by
        rw [Addr.add_lit, hWc, hW1, World.cell?_setCells_out b _ _ _ _ (fun h _ => absurd h hvb)]
        show w.cell? _ = _
        rw [cell_of hv]
        match j, hj with
        | 0, hj => simpa using hj
        | j + 1, hj => simp at hj)
      (fun j hj => by rw [hWc]; exact hsp1 _ (by simp at hj; omega)) (fun j hj => by rw [hWf, hW1, World.frozen?_setCells]; exact hfz _) (fun v hv => by simp at hv; subst hv; exact h1v)
  rw [← hW1] at hcp1
  clear hcur hcs htk hv h1c h1v hsp hfz hsp1 hdl hcl
  go_enter Try.func40, Try.ntmps40
  go_wp2_with (simp only [hov])
  go_region_law (refine step_copy_runI rfl _ _ 52 52 rfl _ _ (by simp [Act.eval, Act.put]) (by simp [Act.eval, Act.put]) (hcp1 _ _ _) ?_)
  go_wp2_with (at_builtin; refine wpList_copy_runI _ rfl _ _ 52 52 rfl _ _ rfl rfl (hcp2 _ (fun _ => rfl) (fun _ => rfl) _ _) ?_)
  go_ret
  first | exact ⟨rfl, rfl⟩ | exact ⟨rfl, by rw [hW1]⟩

set_option maxRecDepth 100000 in
set_option maxHeartbeats 4000000 in
theorem ins_grow (b n c i vb : Nat) (cs : List Value) (x : Value) (w : World) (cur : Array Value) (hi : i < n) (hnc : n ≤ c) (hroom : c < n + 1) (hbig : (n + 1) * 8 ≤ 140737488355328) (hcl : cs.length = n)
    (hcur : w.heap[b]? = some (.cells cur 34 (0, 0))) (hcs : cur.size = c) (htk : ∀ (j : Nat) (v : Value), cs[j]? = some v → cur[j]? = some v) (hv : w.heap[vb]? = some (.cells #[x] 34 (0, 0)))
    (h1c : ∀ v ∈ cs, v.oneCell' = true) (h1v : x.oneCell' = true) :
    Calls Try.prog 40 #[.slice (some ⟨b, 0, none⟩) n c, .int .i64 i, .slice (some ⟨vb, 0, none⟩) 1 1] w fun e w' =>
      e = .returned (.slice (some ⟨w.heap.size, 0, none⟩) (n + 1) (grownCap w (n + 1) c 34)) ∧
      w' = (((w.alloc (.cells ((cs.take i).toArray ++ Builtin.zeroCells (Value.int .i64 0).cells (n + 1 - i) ++ Builtin.zeroCells (Value.int .i64 0).cells (grownCap w (n + 1) c 34 - (n + 1))) 34)).drew.setCells w.heap.size i [x]).drew).setCells w.heap.size (i + 1) (cs.drop i) := by
  obtain ⟨i0, hi0, hz0, hzs, hzb⟩ := info_parts info34
  have hz2 : ¬ ((i : Int) = (n : Int)) := by omega
  have hz3 : (c : Int) < (n : Int) + 1 := by omega
  have hbw : b < w.heap.size := heap_lt hcur
  have hvw : vb < w.heap.size := heap_lt hv
  have hcc : ∀ (j : Nat) (v : Value), cs[j]? = some v → w.cell? ⟨b, j, none⟩ = some v := fun j v hj => by rw [cell_of hcur]; exact htk j v hj
  have hvv : ∀ (j : Nat) (v : Value), [x][j]? = some v → w.cell? ⟨vb, j, none⟩ = some v := fun j v hj => by
    rw [cell_of hv]
    match j, hj with
    | 0, hj => simpa using hj
    | j + 1, hj => simp at hj
  have hkk : (n : Int) + 1 - (i : Int) = ((n + 1 - i : Nat) : Int) := by omega
  have hik : i + (n + 1 - i) = n + 1 := by omega
  have hold : (Builtin.firstCells i0.size i (.slice (some ⟨b, 0, none⟩) i c)).run Try.prog w.drew = .ok (cs.take i).toArray w.drew := by
    rw [hzs]
    exact run_firstCells_some w.drew 1 i ⟨b, 0, none⟩ i c (cs.take i) (by rw [List.length_take]; omega) (fun j v hj => by
      rw [Addr.add_lit, Nat.zero_add]
      rw [List.getElem?_take] at hj
      split at hj
      · exact hcc j v hj
      · cases hj)
  have hrz : ∀ ty, (Builtin.append_ #[52, 3] ty #[.slice (some ⟨b, 0, none⟩) i c, .int .i64 ((n : Int) + 1 - (i : Int))]).run Try.prog w =
      .ok (.slice (some ⟨w.heap.size, 0, none⟩) (n + 1) (grownCap w (n + 1) c 34)) (w.drew.alloc (.cells ((cs.take i).toArray ++ Builtin.zeroCells (Value.int .i64 0).cells (n + 1 - i) ++ Builtin.zeroCells (Value.int .i64 0).cells (grownCap w (n + 1) c 34 - (n + 1))) 34)) := fun ty => by
    have h := Lib.run_append_grow_zeros w 52 3 ty 34 i0 _ .i64 .i64 Try.underlying52 Try.underlying3 hi0 hz0 (some ⟨b, 0, none⟩) i c (cs.take i) hold (n + 1 - i) (by omega) (by omega) (by omega) (by omega) (by rw [hzb]; omega) (by rw [hzb, hik]; exact growslice_fits hroom hbig)
    rw [hik] at h
    rw [hkk]
    exact h
  obtain ⟨G, hG⟩ : ∃ G, G = grownCap w (n + 1) c 34 := ⟨_, rfl⟩
  obtain ⟨ROW, hROW⟩ : ∃ ROW : Array Value, ROW = (cs.take i).toArray ++ Builtin.zeroCells (Value.int .i64 0).cells (n + 1 - i) ++ Builtin.zeroCells (Value.int .i64 0).cells (G - (n + 1)) := ⟨_, rfl⟩
  rw [← hG] at hrz ⊢
  rw [← hROW] at hrz ⊢
  have hRl : n + 1 ≤ ROW.size := by
    rw [hROW]
    simp [Builtin.zeroCells, Value.cells]
    omega
  obtain ⟨W1, hW1⟩ : ∃ W1, W1 = w.drew.alloc (.cells ROW 34) := ⟨_, rfl⟩
  rw [← hW1] at hrz
  have hN : ∀ j, j < n + 1 → (W1.cell? ⟨w.heap.size, j, none⟩).isSome = true := fun j hj => by
    rw [hW1, World.cell?_alloc_at (w := w.drew) ROW _ w.heap.size j rfl, Array.getElem?_eq_getElem (by omega)]; rfl
  have hNf : ∀ j, W1.frozen? ⟨w.heap.size, j, none⟩ = false := fun j => by rw [hW1]; exact World.frozen?_alloc_at (w := w.drew) ROW _ w.heap.size j rfl
  have hOb : ∀ j v, w.cell? ⟨b, j, none⟩ = some v → W1.cell? ⟨b, j, none⟩ = some v := fun j v h => by rw [hW1, World.cell?_alloc_past (w := w.drew) _ b j hbw]; exact h
  have hOv : ∀ j v, w.cell? ⟨vb, j, none⟩ = some v → W1.cell? ⟨vb, j, none⟩ = some v := fun j v h => by rw [hW1, World.cell?_alloc_past (w := w.drew) _ vb j hvw]; exact h
  have hcpA : ∀ (W : World), (∀ x, W.cell? x = W1.cell? x) → (∀ x, W.frozen? x = W1.frozen? x) → ∀ ty dc, (Builtin.copy_ #[52, 52] ty #[.slice (some ⟨w.heap.size, i, none⟩) (n + 1 - i) dc, .slice (some ⟨vb, 0, none⟩) 1 1]).run Try.prog W = .ok (goInt [x].length) (W.setCells w.heap.size i [x]) := fun W hWc hWf ty dc =>
    run_copy_cells W _ _ ty 34 w.heap.size i (n + 1 - i) dc ⟨vb, 0, none⟩ 1 1 [x] Try.underlying52 size34 (by simp only [List.length_singleton, Nat.min_def]; split <;> omega)
      (fun j v hj => by rw [Addr.add_lit, hWc, Nat.zero_add]; exact hOv _ v (hvv j v hj))
      (fun j hj => by rw [hWc]; exact hN _ (by simp at hj; omega)) (fun j hj => by rw [hWf]; exact hNf _) (fun v hv => by simp at hv; subst hv; exact h1v)
  have hGn : n + 1 ≤ G := by rw [hG]; exact grownCap_ge w _ _ _
  have hG63 : G ≤ 9223372036854775807 := by
    have := grownCap_le_maxLen w (n + 1) c 34 (by unfold maxLen; omega)
    rw [← hG] at this
    unfold maxLen at this
    omega
  have hGi : ¬ (G = i) := by omega
  have hGim : ¬ (G = i + 1) := by omega
  have hci : ¬ (c = i) := by omega
  have hbN : b ≠ w.heap.size := by omega
  have hdl : (cs.drop i).length = n - i := by rw [List.length_drop, hcl]
  have hcpB : ∀ (W : World), (∀ y, W.cell? y = (W1.setCells w.heap.size i [x]).cell? y) → (∀ y, W.frozen? y = (W1.setCells w.heap.size i [x]).frozen? y) → ∀ ty dc sc, (Builtin.copy_ #[52, 52] ty #[.slice (some ⟨w.heap.size, i + 1, none⟩) (n - i) dc, .slice (some ⟨b, i, none⟩) (n - i) sc]).run Try.prog W = .ok (goInt (cs.drop i).length) (W.setCells w.heap.size (i + 1) (cs.drop i)) := fun W hWc hWf ty dc sc =>
    run_copy_cells W _ _ ty 34 w.heap.size (i + 1) (n - i) dc ⟨b, i, none⟩ (n - i) sc (cs.drop i) Try.underlying52 size34 (by rw [hdl]; simp only [Nat.min_def]; split <;> omega)
      (fun j v hj => by
        rw [Addr.add_lit, hWc, World.cell?_setCells_out _ _ _ _ _ (fun h _ => absurd h hbN)]
        exact hOb _ v (hcc (i + j) v (by rwa [List.getElem?_drop] at hj)))
      (fun j hj => by rw [hWc]; exact isSome_setCells _ _ _ _ (fun t ht => hN _ (by simp at ht; omega)) _ (hN _ (by omega)))
      (fun j hj => by rw [hWf, World.frozen?_setCells]; exact hNf _) (fun v hv => h1c v (List.mem_of_mem_drop hv))
  subst hW1
  have hE1 : ∀ x, ((w.alloc (.cells ROW 34)).drew).cell? x = (w.drew.alloc (.cells ROW 34)).cell? x := fun x => rfl
  have hE2 : ∀ x, ((w.alloc (.cells ROW 34)).drew).frozen? x = (w.drew.alloc (.cells ROW 34)).frozen? x := fun x => rfl
  have hF1 : ∀ y, (((w.alloc (.cells ROW 34)).drew.setCells w.heap.size i [x]).drew).cell? y = ((w.drew.alloc (.cells ROW 34)).setCells w.heap.size i [x]).cell? y := fun y => rfl
  have hF2 : ∀ y, (((w.alloc (.cells ROW 34)).drew.setCells w.heap.size i [x]).drew).frozen? y = ((w.drew.alloc (.cells ROW 34)).setCells w.heap.size i [x]).frozen? y := fun y => rfl
  have hw1 : IntKind.i64.wrap ((i : Int) + 1) = (i : Int) + 1 := by rw [IntKind.wrap_i64]; omega
  have hb1 : (0 : Int) ≤ (i : Int) + 1 := by omega
  have hin : i ≤ n := by omega
  have htn : ((i : Int) + 1).toNat = i + 1 := by omega
  have hb3 : (i : Int) ≤ (n : Int) := by omega
  clear hkk hik hold hROW hG hRl hcur hcs htk hv hcc hvv h1c h1v hcl hdl hOb hOv hN hNf
  go_enter Try.func40, Try.ntmps40
  go_wp2_with (first
    | (at_builtin; refine Lib.wpList_append_run _ rfl _ _ _ _ rfl _ _ rfl rfl _ _ (hrz _) ?_)
    | (at_builtin; refine wpList_copy_runI _ rfl _ _ 52 52 rfl _ _ rfl rfl (hcpA _ hE1 hE2 _ _) ?_)
    | (at_builtin; refine wpList_copy_runI _ rfl _ _ 52 52 rfl _ _ rfl rfl (hcpB _ (fun _ => rfl) (fun _ => rfl) _ _ _) ?_))
  go_region_law (refine step_copy_runI rfl _ _ 52 52 rfl (.slice (some ⟨w.heap.size, i + 1, none⟩) (n - i) (G - (i + 1))) (.slice (some ⟨b, i, none⟩) (n - i) (c - i)) (by simp [Act.eval, Act.put]) (by simp [Act.eval, Act.put]) (hcpB _ hF1 hF2 3 (G - (i + 1)) (c - i)) ?_)
  go_wp2
  go_ret
  exact ⟨rfl, rfl⟩

/-- The row with x put in at i. -/
def insAt (xs : List Int) (i : Nat) (x : Int) : List Int := xs.take i ++ x :: xs.drop i
def InsP (base : Nat) (v : Value) (xs : List Int) (i : Nat) (x : Int) (w : World) (e : Ending) (w' : World) : Prop :=
  ∃ ua uc, e = .returned (.slice ua (xs.length + 1) uc) ∧ w'.ownsRow base 34 1 (.slice ua (xs.length + 1) uc) (xs.length + 1) ((insAt xs i x).map I) ∧ Fr (fun b => v.ownBlock = some b) w w'

theorem insAt_length (xs : List Int) (i : Nat) (x : Int) (hi : i ≤ xs.length) : (insAt xs i x).length = xs.length + 1 := by
  unfold insAt
  simp
  omega
theorem insAt_cells (xs : List Int) (i : Nat) (x : Int) (hi : i ≤ xs.length) (c : Array Value) (hs : xs.length + 1 ≤ c.size)
    (h1 : ∀ j, j < i → c[j]? = (xs[j]?).map I) (h2 : c[i]? = some (I x)) (h3 : ∀ j, i < j → j < xs.length + 1 → c[j]? = (xs[j - 1]?).map I) : c.toList.take (xs.length + 1) = (insAt xs i x).map I := by
  apply List.ext_getElem?
  intro j
  by_cases hj : j < xs.length + 1
  · rw [List.getElem?_take, if_pos hj, List.getElem?_map]
    unfold insAt
    by_cases e1 : j < i
    · rw [List.getElem?_append_left (by simp; omega), List.getElem?_take, if_pos e1]
      simpa using h1 j e1
    · by_cases e2 : j = i
      · subst e2
        rw [List.getElem?_append_right (by simp; omega)]
        simp [Nat.min_eq_left hi]
        simpa using h2
      · rw [List.getElem?_append_right (by simp; omega)]
        have : (xs.take i).length = i := by simp; omega
        rw [this, show j - i = (j - 1 - i) + 1 by omega, List.getElem?_cons_succ, List.getElem?_drop, show i + (j - 1 - i) = j - 1 by omega]
        simpa using h3 j (by omega) hj
  · have hl : (insAt xs i x).length = xs.length + 1 := by unfold insAt; simp; omega
    rw [List.getElem?_eq_none (by simp; omega), List.getElem?_eq_none (by simp; omega)]

set_option maxRecDepth 100000 in
set_option maxHeartbeats 1000000 in
theorem insert_any (ua : Option Addr) (uc i vb base : Nat) (xs : List Int) (x : Int) (w : World) (h : w.ownsRow base 34 1 (.slice ua xs.length uc) xs.length (xs.map I)) (hi : i ≤ xs.length) (hn : xs.length ≤ 65536) (hb : base ≤ w.heap.size)
    (hv : w.heap[vb]? = some (.cells #[I x] 34 (0, 0))) (hne : (Value.slice ua xs.length uc).ownBlock ≠ some vb) :
    Calls Try.prog 40 #[.slice ua xs.length uc, .int .i64 i, .slice (some ⟨vb, 0, none⟩) 1 1] w (InsP base (.slice ua xs.length uc) xs i x w) := by
  by_cases hlt : i < xs.length
  · obtain ⟨b, cur, rfl, hbb, hcur, hnc, hcm, hcs, htk⟩ := own34 h (by omega)
    have htk' : ∀ (j : Nat) (v : Value), (xs.map I)[j]? = some v → cur[j]? = some v := fun j v hj => by
      have hjl : j < xs.length := by
        have := (List.getElem?_eq_some_iff.1 hj).1
        simpa using this
      have : (cur.toList.take xs.length)[j]? = (xs.map I)[j]? := by rw [htk]
      rw [List.getElem?_take, if_pos hjl, hj] at this
      simpa using this
    have hvb : vb ≠ b := fun e => hne (by rw [e]; rfl)
    have h1c : ∀ v ∈ xs.map I, v.oneCell' = true := fun v hv => by
      obtain ⟨y, _, rfl⟩ := List.mem_map.1 hv
      rfl
    have hcm' : uc ≤ 9223372036854775807 := by unfold maxLen at hcm; omega
    have hlm : (xs.map I).length = xs.length := by simp
    by_cases hroom : xs.length + 1 ≤ uc
    · refine (ins_shift b xs.length uc i vb (xs.map I) (I x) w cur hlt hroom hcm' hvb (by simp) hcur hcs htk' hv h1c rfl).mono ?_
      rintro e w' ⟨rfl, hw'⟩
      obtain ⟨c1, hc1, hs1⟩ := heap_setCells (b := b) ((xs.map I).drop i) (i + 1) w.drew cur hcur
      obtain ⟨c2, hc2, hs2⟩ := heap_setCells (b := b) [I x] i _ c1 hc1
      have hg : ∀ j, c2[j]? = w'.cell? ⟨b, j, none⟩ := fun j => by rw [hw', cell_of hc2]
      have hsp : ∀ j, j < uc → (w.drew.cell? ⟨b, j, none⟩).isSome = true := fun j hj => by
        show (w.cell? _).isSome = true
        rw [cell_of hcur, Array.getElem?_eq_getElem (by omega)]; rfl
      have hsp1 : ∀ j, j < uc → ((w.drew.setCells b (i + 1) ((xs.map I).drop i)).cell? ⟨b, j, none⟩).isSome = true := fun j hj => by
        rw [cell_of hc1, Array.getElem?_eq_getElem (by omega)]; rfl
      refine ⟨_, _, rfl, ⟨by simpa using insAt_length xs i x hi, .inr ⟨b, uc, c2, rfl, hbb, by rw [hw']; exact hc2, hroom, hcm, by rw [hs2, hs1]; simpa using hcs, ?_⟩⟩, ?_⟩
      · rw [Nat.mul_one]
        refine insAt_cells xs i x hi c2 (by rw [hs2, hs1]; omega) (fun j hj => ?_) ?_ (fun j hj1 hj2 => ?_)
        · rw [hg, hw', World.cell?_setCells_out b _ _ _ _ (fun _ _ => by left; exact hj), World.cell?_setCells_out b _ _ _ _ (fun _ _ => by left; show j < i + 1; omega)]
          show w.cell? _ = _
          rw [cell_of hcur]
          have hxj : (xs.map I)[j]? = some (I (xs[j]'(by omega))) := by simp [List.getElem?_eq_getElem (show j < xs.length by omega)]
          rw [htk' j _ hxj, List.getElem?_eq_getElem (show j < xs.length by omega)]
          rfl
        · rw [hg, hw']
          have := World.cell?_setCells_in b [I x] i (w.drew.setCells b (i + 1) ((xs.map I).drop i)) (fun j hj => hsp1 _ (by simp at hj; omega)) 0 (by simp)
          simpa using this
        · rw [hg, hw', World.cell?_setCells_out b _ _ _ _ (fun _ _ => by right; show i + [I x].length ≤ j; simp; omega)]
          have hdl : ((xs.map I).drop i).length = xs.length - i := by simp
          have := World.cell?_setCells_in b ((xs.map I).drop i) (i + 1) w.drew (fun k hk => hsp _ (by omega)) (j - (i + 1)) (by omega)
          rw [show i + 1 + (j - (i + 1)) = j by omega] at this
          rw [this]
          rw [← List.getElem?_eq_getElem, List.getElem?_drop, show i + (j - (i + 1)) = j - 1 by omega, List.getElem?_map]
      · rw [hw']
        exact fr_setCells (fun y => (Value.slice (some ⟨b, 0, none⟩) xs.length uc).ownBlock = some y) b rfl _ _ (fr_setCells (fun y => (Value.slice (some ⟨b, 0, none⟩) xs.length uc).ownBlock = some y) b rfl _ _ (Fr.refl _ _).drew)
    · refine (ins_grow b xs.length uc i vb (xs.map I) (I x) w cur hlt hnc (by omega) (by omega) (by simp) hcur hcs htk' hv h1c rfl).mono ?_
      rintro e w' ⟨rfl, hw'⟩
      obtain ⟨G, hG⟩ : ∃ G, G = grownCap w (xs.length + 1) uc 34 := ⟨_, rfl⟩
      have hGn : xs.length + 1 ≤ G := by rw [hG]; exact grownCap_ge w _ _ _
      have hGm : G ≤ maxLen := by rw [hG]; exact grownCap_le_maxLen w (xs.length + 1) uc 34 (by unfold maxLen; omega)
      rw [← hG] at hw' ⊢
      obtain ⟨ROW, hROW⟩ : ∃ ROW : Array Value, ROW = ((xs.map I).take i).toArray ++ Builtin.zeroCells (Value.int .i64 0).cells (xs.length + 1 - i) ++ Builtin.zeroCells (Value.int .i64 0).cells (G - (xs.length + 1)) := ⟨_, rfl⟩
      rw [← hROW] at hw'
      have hRs : ROW.size = G := by
        rw [hROW]
        simp [Builtin.zeroCells, Value.cells]
        omega
      have hRj : ∀ j, j < i → ROW[j]? = (xs[j]?).map I := fun j hj => by
        rw [hROW, Array.getElem?_append_left (by simp [Builtin.zeroCells, Value.cells]; omega), Array.getElem?_append_left (by simp; omega)]
        simp [List.getElem?_take, hj]
      have hr0 := heap_new w (.cells ROW 34)
      obtain ⟨N, hN⟩ : ∃ N, N = w.heap.size := ⟨_, rfl⟩
      rw [← hN] at hw' hr0 ⊢
      obtain ⟨c1, hc1, hs1⟩ := heap_setCells (b := N) [I x] i (w.alloc (.cells ROW 34)).drew ROW hr0
      obtain ⟨c2, hc2, hs2⟩ := heap_setCells (b := N) ((xs.map I).drop i) (i + 1) ((w.alloc (.cells ROW 34)).drew.setCells N i [I x]).drew c1 hc1
      have hg : ∀ j, c2[j]? = w'.cell? ⟨N, j, none⟩ := fun j => by rw [hw', cell_of hc2]
      have hsp : ∀ j, j < G → ((w.alloc (.cells ROW 34)).drew.cell? ⟨N, j, none⟩).isSome = true := fun j hj => by
        show ((w.alloc (.cells ROW 34)).cell? _).isSome = true
        rw [cell_of hr0, Array.getElem?_eq_getElem (by omega)]; rfl
      have hsp1 : ∀ j, j < G → (((w.alloc (.cells ROW 34)).drew.setCells N i [I x]).drew.cell? ⟨N, j, none⟩).isSome = true := fun j hj => by
        show (((w.alloc (.cells ROW 34)).drew.setCells N i [I x]).cell? _).isSome = true
        rw [cell_of hc1, Array.getElem?_eq_getElem (by omega)]; rfl
      refine ⟨_, _, rfl, ⟨by simpa using insAt_length xs i x hi, .inr ⟨N, G, c2, rfl, by omega, by rw [hw']; exact hc2, hGn, hGm, by rw [hs2, hs1]; simpa using hRs, ?_⟩⟩, ?_⟩
      · rw [Nat.mul_one]
        refine insAt_cells xs i x hi c2 (by rw [hs2, hs1]; omega) (fun j hj => ?_) ?_ (fun j hj1 hj2 => ?_)
        · rw [hg, hw', World.cell?_setCells_out N _ _ _ _ (fun _ _ => by left; show j < i + 1; omega)]
          show ((w.alloc (.cells ROW 34)).drew.setCells N i [I x]).cell? _ = _
          rw [World.cell?_setCells_out N _ _ _ _ (fun _ _ => by left; exact hj)]
          show (w.alloc (.cells ROW 34)).cell? _ = _
          rw [cell_of hr0]
          exact hRj j hj
        · rw [hg, hw', World.cell?_setCells_out N _ _ _ _ (fun _ _ => by left; show i < i + 1; omega)]
          have := World.cell?_setCells_in N [I x] i (w.alloc (.cells ROW 34)).drew (fun j hj => hsp _ (by simp at hj; omega)) 0 (by simp)
          simpa using this
        · have hdl : ((xs.map I).drop i).length = xs.length - i := by simp
          have := World.cell?_setCells_in N ((xs.map I).drop i) (i + 1) ((w.alloc (.cells ROW 34)).drew.setCells N i [I x]).drew (fun k hk => hsp1 _ (by omega)) (j - (i + 1)) (by omega)
          rw [show i + 1 + (j - (i + 1)) = j by omega] at this
          rw [hg, hw', this]
          rw [← List.getElem?_eq_getElem, List.getElem?_drop, show i + (j - (i + 1)) = j - 1 by omega, List.getElem?_map]
      · rw [hw']
        have hz : Fr (fun y => y = N) (w.alloc (.cells ROW 34)) (((w.alloc (.cells ROW 34)).drew.setCells N i [I x]).drew.setCells N (i + 1) ((xs.map I).drop i)) :=
          fr_setCells (fun y => y = N) N rfl _ _ (fr_setCells (fun y => y = N) N rfl _ _ (Fr.refl _ _).drew).drew
        have hz0 : Fr (fun y => (Value.slice (some ⟨b, 0, none⟩) xs.length uc).ownBlock = some y) w (w.alloc (.cells ROW 34)) := (Fr.refl _ _).alloc _
        exact ⟨hz.os.trans hz0.os, hz.tape.trans hz0.tape, hz.output.trans hz0.output, Nat.le_trans hz0.size hz.size, fun y hy hny => (hz.block y (Nat.lt_of_lt_of_le hy hz0.size) (by omega)).trans (hz0.block y hy hny)⟩
  · obtain rfl : i = xs.length := by omega
    have hmap : (insAt xs xs.length x).map I = xs.map I ++ [I x] := by unfold insAt; simp
    have hfin : ∀ ua' uc' w', w'.ownsRow base 34 1 (.slice ua' (xs.length + 1) uc') (xs.length + 1) (xs.map I ++ [I x]) → Fr (fun b => (Value.slice ua xs.length uc).ownBlock = some b) w w' → InsP base (.slice ua xs.length uc) xs xs.length x w (.returned (.slice ua' (xs.length + 1) uc')) w' := fun ua' uc' w' k1 k2 => ⟨ua', uc', rfl, by rw [hmap]; exact k1, k2⟩
    obtain ⟨i0, hi0, hz0, hz1, hz2⟩ := info_parts info34
    have HFIN : Hid _ := hfin
    have HV : Hid (w.heap[vb]? = some (.cells #[I x] 34 (0, 0))) := hv
    have HOWN : Hid (w.ownsRow base 34 1 (.slice ua xs.length uc) xs.length (xs.map I)) := h
    clear hfin hmap hv h hne
    generalize InsP base (.slice ua xs.length uc) xs xs.length x w = Post at HFIN ⊢
    obtain ⟨n, hnn⟩ : ∃ n, n = xs.length := ⟨_, rfl⟩
    rw [← hnn] at hn ⊢
    have HNN : Hid (n = xs.length) := hnn
    clear hnn hi hlt
    by_cases huc : uc = n
    all_goals
      go_enter Try.func40, Try.ntmps40
      go_wp2_with (at_builtin; refine wpList_append_own w rfl (.tmp 23) (.tmp 24) 52 rfl base 34 i0 (.int .i64 0) 1 8 Try.underlying52 hi0 hz0 hz1 hz2 rfl (by decide) _ n (xs.map I) rfl (by rw [HNN.out]; exact HOWN.out) ⟨vb, 0, none⟩ 1 1 [I x] rfl rfl ?c1 ?c2 (by unfold maxLen; omega) (by omega) hb ?_)
      case c1 =>
        intro j u hj
        match j, hj with
        | 0, hj =>
          simp at hj
          subst hj
          have := cell_of HV.out 0
          simpa [Addr.add] using this
        | j + 1, hj => simp at hj
      case c2 =>
        intro u hu
        simp at hu
        subst hu
        rfl
      intro v' w' k1 k2 _
      obtain ⟨ua', uc', rfl⟩ : ∃ ua' uc', v' = .slice ua' (n + 1) uc' := by
        rcases k1.2 with ⟨_, hh⟩ | ⟨g, cap, cur, rfl, _⟩
        · omega
        · exact ⟨_, _, rfl⟩
      have k3 := fr_grown k2
      have K1 : Hid _ := k1
      have K3 : Hid _ := k3
      clear k1 k2 k3
      go_wp2_with fail
      have e := HNN.out
      subst e
      exact HFIN.out ua' uc' w' K1.out (by have h3 := K3.out; first | exact h3 | (rw [huc]; exact h3))
end Go.Proofs.Qxb6612353a
