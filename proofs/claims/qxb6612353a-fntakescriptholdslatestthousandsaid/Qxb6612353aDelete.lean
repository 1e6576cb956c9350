/-
  slices.Delete of one latency.
-/
import Derived.Test.Qxb6612353aInsert
namespace Go.Proofs.Qxb6612353a
open Go.ChangeShapes Go.WideShapes Go.ChangeAt Go.RowKit Go.Lib
set_option linter.unusedVariables false
set_option linter.unusedSimpArgs false

/-- An append whose run is known, as one step of a region that draws. -/
theorem step_append_run {P : Program} {ops : Array Oper} {o : Oper} {a : Act} {w : World} {K : Act → World → Prop} {Q : Exit → Act → World → Prop} {E : Prop}
    (hg : o.guard = none) (d x : Operand) (dT sT : TypeId) (hop : o.op = Op.call { callee := Callee.builtin Builtin.append, args := #[d, x], argTypes := #[dT, sT] })
    (v u : Value) (hd : a.eval d = v) (hx : a.eval x = u) {v' : Value} {w' : World} (hr : (Builtin.append_ #[dT, sT] o.type #[v, u]).run P w = .ok v' w') (hK : K (a.put o.dst v') w') :
    if Region.wanted o (yielded ops a.tmps) = true then Oper.wp P o a w K Q else E := by
  have hw : Region.wanted o (yielded ops a.tmps) = true := by simp [Region.wanted, hg]
  rw [if_pos hw]
  unfold Oper.wp
  simp [execOp, hop, resolve, invoke, builtin, hd, hx, hr, Result.andThen]
  exact hK
theorem wpList_clear_run {P : Program} (w : World) {ops : Array Oper} {rest : List Oper} {o : Oper} {a : Act} {Q : Exit → Act → World → Prop} (hgd : o.guard = none) (s : Operand) (t : TypeId)
    (ho : o.op = .call { callee := .builtin .clear, args := #[s], argTypes := #[t] }) (u : Value) (hs : a.eval s = u) {v' : Value} {w' : World}
    (hr : (Builtin.clear_ #[t] o.type #[u]).run P w = .ok v' w') (h : wpList P ops Q rest (a.put o.dst v') w') : wpList P ops Q (o :: rest) a w :=
  wpList_plain hgd fun _ hK => by
    unfold Oper.wp execOp
    simp only [ho, resolve, invoke, builtin, Sem.run_bind, Sem.run_pure, Result.andThen_ok, List.map_toArray, List.map_cons, List.map_nil, hs, hr]
    exact hK _ _ h

theorem heap_setRow {w : World} {b : Nat} {cur : Array Value} {t : TypeId} (h : w.heap[b]? = some (.cells cur t (0, 0))) (cs : Array Value) : (w.setRow b cs).heap[b]? = some (.cells cs t (0, 0)) := by
  simp [World.setRow, Array.getElem?_modify, h]
theorem zero34 (w : World) : (zeroValue 34).run Try.prog w = .ok (.int .i64 0) w := by kernel_rfl

set_option maxRecDepth 100000 in
set_option maxHeartbeats 4000000 in
theorem del_any (b n c i : Nat) (w : World) (cur : Array Value) (hi : i < n) (hnc : n ≤ c) (hn : n ≤ 65536) (hc63 : c ≤ 9223372036854775807) (hcur : w.heap[b]? = some (.cells cur 34 (0, 0))) (hcs : cur.size = c) (h1 : ∀ v ∈ cur.toList.take n, v.oneCell' = true) :
    Calls Try.prog 41 #[.slice (some ⟨b, 0, none⟩) n c, .int .i64 i, .int .i64 ((i : Int) + 1)] w fun e w' =>
      e = .returned (.slice (some ⟨b, 0, none⟩) (n - 1) c) ∧
      w' = (w.drew.setRow b (cur.toList.take i ++ (cur.toList.take n).drop (i + 1) ++ cur.toList.drop (n - 1)).toArray).setCell ⟨b, n - 1, none⟩ (.int .i64 0) := by
  obtain ⟨i0, hi0, hz0, hzs, hzb⟩ := info_parts info34
  have hnl : ((cur.toList.take n).drop (i + 1)).length = n - (i + 1) := by simp; omega
  have happ : ∀ ty (ad : Addr), (i + 1 < n → ad = ⟨b, i + 1, none⟩) → ∀ sc, (Builtin.append_ #[52, 52] ty #[.slice (some ⟨b, 0, none⟩) i c, .slice (some ad) (n - (i + 1)) sc]).run Try.prog w.drew = .ok (.slice (some ⟨b, 0, none⟩) (n - 1) c) (w.drew.setRow b (cur.toList.take i ++ (cur.toList.take n).drop (i + 1) ++ cur.toList.drop (n - 1)).toArray) := fun ty ad had sc => by
    have h := run_append_room (P := Try.prog) (w := w.drew) 52 ty 34 i0 Try.underlying52 hi0 b i c cur hcur ad (n - (i + 1)) sc ((cur.toList.take n).drop (i + 1)) (by rw [hnl, hzs]; omega) (fun j u hj => by
      have hjl : j < n - (i + 1) := by
        have := (List.getElem?_eq_some_iff.1 hj).1
        omega
      rw [had (by omega), Addr.add_lit]
      show w.cell? _ = _
      rw [cell_of hcur]
      rw [List.getElem?_drop, List.getElem?_take] at hj
      split at hj
      · simpa using hj
      · cases hj) (fun u hu => h1 u (List.mem_of_mem_drop hu)) (by omega) (by rw [hnl, hzs]; omega)
    rw [hzs, Nat.mul_one, hnl, show i + (n - (i + 1)) = n - 1 by omega] at h
    exact h
  obtain ⟨W1, hW1⟩ : ∃ W1, W1 = w.drew.setRow b (cur.toList.take i ++ (cur.toList.take n).drop (i + 1) ++ cur.toList.drop (n - 1)).toArray := ⟨_, rfl⟩
  rw [← hW1] at happ ⊢
  have hrl : (cur.toList.take i ++ (cur.toList.take n).drop (i + 1) ++ cur.toList.drop (n - 1)).length = c := by simp; omega
  have hW1b : W1.heap[b]? = some (.cells (cur.toList.take i ++ (cur.toList.take n).drop (i + 1) ++ cur.toList.drop (n - 1)).toArray 34 (0, 0)) := by
    rw [hW1]
    exact heap_setRow (w := w.drew) hcur _
  have hclr : ∀ ty l cc, l = 1 → (Builtin.clear_ #[52] ty #[.slice (some ⟨b, n - 1, none⟩) l cc]).run Try.prog W1 = .ok (.tuple #[]) (W1.setCell ⟨b, n - 1, none⟩ (.int .i64 0)) := fun ty l cc hl => by
    subst hl
    exact run_clear_slice W1 52 34 ty (.int .i64 0) Try.underlying52 zero34 rfl rfl b (n - 1) 1 cc (by omega) (fun j hj => by
      rw [cell_of hW1b, Array.getElem?_eq_getElem (by rw [List.size_toArray, hrl]; omega)]; rfl) (fun j hj => by simp [World.frozen?, hW1b])
  have hz1 : ¬ ((i : Int) = (i : Int) + 1) := by omega
  clear hcur hcs h1 hW1 hnl hrl hW1b
  have hic : i ≤ c := by omega
  have hii : (i : Int) ≤ (i : Int) + 1 := by omega
  have hb1 : (0 : Int) ≤ (i : Int) + 1 := by omega
  have hb2 : (i : Int) + 1 ≤ (n : Int) := by omega
  have htn : ((i : Int) + 1).toNat = i + 1 := by omega
  have hcn : ¬ (c = n - 1) := by omega
  have hw1 : ((n - 1 : Nat) : Int) ≤ (n : Int) := by omega
  by_cases hci : c = i + 1
  · obtain rfl : n = i + 1 := by omega
    subst hci
    have happ' := fun ty sc => happ ty ⟨b, 0, none⟩ (fun h => absurd h (by omega)) sc
    clear happ
    simp only [Nat.add_sub_cancel, Nat.sub_self] at happ' hclr hcn hw1 ⊢
    go_enter Try.func41, Try.ntmps41
    go_wp2_with fail
    go_region_law (refine step_append_run rfl _ _ 52 52 rfl (.slice (some ⟨b, 0, none⟩) i (i + 1)) (.slice (some ⟨b, 0, none⟩) 0 0) (by simp [Act.eval, Act.put]) (by simp [Act.eval, Act.put]) (happ' 52 0) ?_)
    go_wp2_with (at_builtin; refine wpList_clear_run _ rfl _ 52 rfl _ rfl (hclr _ _ _ (by omega)) ?_)
    go_ret
    exact ⟨rfl, rfl⟩
  · have happ' := fun ty sc => happ ty ⟨b, i + 1, none⟩ (fun _ => rfl) sc
    have hclr' := fun ty cc => hclr ty (n - (n - 1)) cc (by omega)
    clear happ
    go_enter Try.func41, Try.ntmps41
    go_wp2_with fail
    go_region_law (refine step_append_run rfl _ _ 52 52 rfl (.slice (some ⟨b, 0, none⟩) i c) (.slice (some ⟨b, i + 1, none⟩) (n - (i + 1)) (c - (i + 1))) (by simp [Act.eval, Act.put]) (by simp [Act.eval, Act.put]) (happ' 52 (c - (i + 1))) ?_)
    go_wp2_with fail
    go_ret
    exact ⟨rfl, rfl⟩

/-- The row without its i-th. -/
def delAt (xs : List Int) (i : Nat) : List Int := xs.take i ++ xs.drop (i + 1)
theorem delAt_length (xs : List Int) (i : Nat) (hi : i < xs.length) : (delAt xs i).length = xs.length - 1 := by
  unfold delAt
  simp
  omega
def DelP (base : Nat) (v : Value) (xs : List Int) (i : Nat) (w : World) (e : Ending) (w' : World) : Prop :=
  ∃ ua uc, e = .returned (.slice ua (xs.length - 1) uc) ∧ w'.ownsRow base 34 1 (.slice ua (xs.length - 1) uc) (xs.length - 1) ((delAt xs i).map I) ∧ Fr (fun b => v.ownBlock = some b) w w'

theorem delete_any (ua : Option Addr) (uc i base : Nat) (xs : List Int) (w : World) (h : w.ownsRow base 34 1 (.slice ua xs.length uc) xs.length (xs.map I)) (hi : i < xs.length) (hn : xs.length ≤ 65536) :
    Calls Try.prog 41 #[.slice ua xs.length uc, .int .i64 i, .int .i64 ((i : Int) + 1)] w (DelP base (.slice ua xs.length uc) xs i w) := by
  obtain ⟨b, cur, rfl, hbb, hcur, hnc, hcm, hcs, htk⟩ := own34 h (by omega)
  refine (del_any b xs.length uc i w cur hi hnc hn (by unfold maxLen at hcm; omega) hcur hcs (fun v hv => ?_)).mono ?_
  · rw [htk] at hv
    obtain ⟨y, _, rfl⟩ := List.mem_map.1 hv
    rfl
  rintro e w' ⟨rfl, hw'⟩
  have h1 := heap_setCell (heap_setRow (w := w.drew) hcur (cur.toList.take i ++ (cur.toList.take xs.length).drop (i + 1) ++ cur.toList.drop (xs.length - 1)).toArray) (xs.length - 1) (.int .i64 0)
  rw [← hw'] at h1
  have hti : cur.toList.take i = (xs.map I).take i := by
    rw [← htk, List.take_take, Nat.min_eq_left (by omega)]
  have hl : ((xs.map I).take i ++ (xs.map I).drop (i + 1)).length = xs.length - 1 := by simp; omega
  refine ⟨_, _, rfl, ⟨by simpa using delAt_length xs i hi, .inr ⟨b, uc, _, rfl, hbb, h1, by omega, hcm, ?_, ?_⟩⟩, ?_⟩
  · simp
    omega
  · rw [Nat.mul_one, Array.toList_setIfInBounds, List.take_set_of_le (by omega)]
    rw [hti, htk]
    rw [List.take_append_of_le_length (by rw [hl]; omega), List.take_of_length_le (by rw [hl]; omega)]
    unfold delAt
    simp
  · rw [hw']
    exact ((Fr.refl (fun y => (Value.slice (some ⟨b, 0, none⟩) xs.length uc).ownBlock = some y) w).drew.setRow b (.inl rfl) _).setCell ⟨b, xs.length - 1, none⟩ (.inl rfl) _
end Go.Proofs.Qxb6612353a
