/-
  The shared walks of this seat: the closure, strings.indexFunc at it, isFieldValue, fieldByteOK.
-/
import Derived.Test.Qxb6612331aRows
import Derived.WalkKit
import Derived.ProofKit
import Derived.OpenShut
import Derived.ShutString
import Derived.WalkSpells
import Derived.WalkLawsBesides
import Derived.Laws.RangeAny
namespace Go.Proofs.Qxb6612331a
open Go.ChangeShapes Go.WideShapes Go.ChangeAt Go.RowKit
open Go.ChangeMaps (open_string shut_string)
set_option linter.unusedVariables false

def okN (n : Int) : Bool := !(n == 127) && !(decide (n < 32) && n != 9)
def okB (c : UInt8) : Bool := okN c.toNat
def fieldOK (l : List UInt8) : Bool := l.all okB

theorem okN_high (n : Int) (h : 128 ≤ n) : okN n = true := by
  unfold okN
  have h1 : (n == 127) = false := beq_eq_false_iff_ne.2 (by omega)
  have h2 : decide (n < 32) = false := by simp; omega
  simp [h1, h2]

/-- The bytes that a decoded rune takes: the first alone, or all of them at least 128. -/
theorem decode_span (s : ByteArray) (pos : Nat) (h : pos < s.size) (ha : 128 ≤ (s[pos]'h).toNat) :
    pos + (Utf8.decode s pos).2 ≤ s.size ∧ ∀ k, k < (Utf8.decode s pos).2 → 128 ≤ (s.get! (pos + k)).toNat := by
  have hn : ¬ (s[pos]'h).toNat < 128 := by omega
  have e0 := get_at s pos h
  have k0 : 128 ≤ (s.get! (pos + 0)).toNat := by rw [e0]; exact ha
  simp only [Utf8.decode, e0, hn, if_false]
  repeat' split
  all_goals
    simp only [Bool.and_eq_true, decide_eq_true_eq, beq_iff_eq] at *
    refine ⟨by omega, fun k hk => ?_⟩
    have hc : k = 0 ∨ k = 1 ∨ k = 2 ∨ k = 3 := by omega
    rcases hc with rfl | rfl | rfl | rfl <;> omega

theorem take_ok_iff (s : ByteArray) (n : Nat) : (s.data.toList.take n).all okB = true ↔ ∀ i (h : i < s.size), i < n → okB (s[i]'h) = true := by
  rw [List.all_eq_true]
  constructor
  · intro hall i h hn
    refine hall _ (List.mem_take_iff_getElem.2 ⟨i, ?_, rfl⟩)
    have : s.data.toList.length = s.size := by simp
    omega
  · intro hall x hx
    obtain ⟨i, hi, rfl⟩ := List.mem_take_iff_getElem.1 hx
    have : s.data.toList.length = s.size := by simp
    exact hall i (by omega) (by omega)

theorem field_iff (s : ByteArray) : fieldOK s.data.toList = true ↔ ∀ i (h : i < s.size), okB (s[i]'h) = true := by
  have := take_ok_iff s s.size
  rw [List.take_of_length_le (by simp)] at this
  unfold fieldOK
  rw [this]
  exact ⟨fun h i hi => h i hi hi, fun h i hi _ => h i hi⟩

/-- The field's bytes ahead of a place are good. -/
def UpTo (s : ByteArray) (n : Nat) : Prop := ∀ i (h : i < s.size), i < n → okB (s[i]'h) = true

theorem UpTo.zero (s : ByteArray) : UpTo s 0 := fun i _ h => by omega
theorem UpTo.succ {s : ByteArray} {n : Nat} (h : UpTo s n) (hn : n < s.size) (ho : okN ((s[n]'hn).toNat) = true) : UpTo s (n + 1) := by
  intro i hi hlt
  by_cases e : i = n
  · subst e; exact ho
  · exact h i hi (by omega)
theorem UpTo.wide {s : ByteArray} {n : Nat} (h : UpTo s n) (hn : n < s.size) (ha : 128 ≤ (s[n]'hn).toNat) : UpTo s (n + (Utf8.decode s n).2) := by
  intro i hi hlt
  by_cases e : i < n
  · exact h i hi e
  · have hs := (decode_span s n hn ha).2 (i - n) (by omega)
    have e2 : n + (i - n) = i := by omega
    rw [e2] at hs
    have e3 := get_at s i hi
    rw [show i + 0 = i from rfl] at e3
    rw [e3] at hs
    exact okN_high _ (by omega)
theorem UpTo.all {s : ByteArray} {n : Nat} (h : UpTo s n) (hn : ¬ n < s.size) : fieldOK s.data.toList = true :=
  (field_iff s).2 fun i hi => h i hi (by omega)
theorem bad_at {s : ByteArray} {n : Nat} (hn : n < s.size) (ho : okN ((s[n]'hn).toNat) = false) : fieldOK s.data.toList = false := by
  rw [Bool.eq_false_iff]
  intro h
  have := (field_iff s).1 h n hn
  unfold okB at this
  rw [ho] at this
  exact Bool.noConfusion this

theorem clo_any (r : Int) (w : World) : Calls Try.prog 11 #[.int .i32 r] w fun e w' => e = .returned (.bool (!okN r)) ∧ w' = w := by
  unfold okN
  go_enter Try.func11, Try.ntmps11
  go_wp2
  all_goals go_ret
  all_goals refine ⟨?_, rfl⟩
  all_goals simp_all
  all_goals omega

set_option maxHeartbeats 400000 in
theorem indexFunc_any (s : ByteArray) (w : World) :
    Calls Try.prog 13 #[.string s, .func (.func 11) #[] #[], .bool true] w fun e w' => ∃ r : Int, e = .returned (.int .i64 r) ∧ decide (0 ≤ r) = !fieldOK s.data.toList ∧ ∃ p, w' = w.iter s p := by
  go_enter Try.func13, Try.ntmps13
  go_wp2
  go_loopw [] (fun w' => ∃ (pos : Nat), w' = w.iter s pos ∧ UpTo s pos) (fun w' => s.size - w'.iterPos w.heap.size)
  case atStart => exact ⟨0, rfl, UpTo.zero s⟩
  case round =>
    obtain ⟨pos, rfl, hu⟩ := hrel
    by_cases hp : pos < s.size
    · by_cases ha : s[pos].toNat < 128
      · have hnx : ∀ ty, (Instr.next (.pointer (some ⟨w.heap.size, 0, none⟩)) true ty).run Try.prog (w.iter s pos) = _ := fun ty => run_next_ascii w s pos ty hp ha
        go_wp2_with fail
        refine (clo_any _ _).mono ?_
        rintro e w' ⟨rfl, rfl⟩
        generalize ho : okN (s[pos].toNat : Int) = ob
        have HO : Hid (okN (s[pos].toNat : Int) = ob) := ho
        clear ho
        cases ob
        · go_wp2_with fail
          go_ret
          exact ⟨pos, rfl, by rw [bad_at hp HO.out]; simp, _, rfl⟩
        · go_wp2_with fail
          go_roundw
          case rel => exact ⟨pos + 1, rfl, hu.succ hp HO.out⟩
          case measure => simp; omega
      · have ha' : 128 ≤ s[pos].toNat := by omega
        have hnx : ∀ ty, (Instr.next (.pointer (some ⟨w.heap.size, 0, none⟩)) true ty).run Try.prog (w.iter s pos) = _ := fun ty => run_next_any w s pos ty hp
        have hu' := hu.wide hp ha'
        have hd := decode_high s pos hp ha'
        generalize Utf8.decode s pos = dec at hnx hu' hd
        obtain ⟨r, wd⟩ := dec
        simp only at hnx hu' hd
        go_wp2_with fail
        refine (clo_any _ _).mono ?_
        rintro e w' ⟨rfl, rfl⟩
        rw [okN_high _ (by omega)]
        go_wp2_with fail
        go_roundw
        case rel => exact ⟨pos + wd, rfl, hu'⟩
        case measure => simp; omega
    · have hnx : ∀ ty, (Instr.next (.pointer (some ⟨w.heap.size, 0, none⟩)) true ty).run Try.prog (w.iter s pos) = _ := fun ty => run_next_end w s pos ty hp
      go_wp2
      go_ret
      exact ⟨-1, rfl, by rw [hu.all hp]; rfl, _, rfl⟩

theorem frozen?_alloc_iter (w : World) (s : ByteArray) (p : Nat) (a : Addr) : (w.alloc (.stringIter s p)).frozen? a = w.frozen? a := by
  by_cases h : a.block = w.heap.size
  · have e1 : (w.alloc (.stringIter s p)).heap[a.block]? = some (.stringIter s p) := by rw [h]; exact (MapKept.heap_alloc w _).1
    have e2 : w.heap[a.block]? = none := by rw [h]; simp
    simp [World.frozen?, e1, e2]
  · exact World.frozen?_alloc_old _ _ _ h
theorem grown_iter (w : World) (s : ByteArray) (p : Nat) : Grown w (w.iter s p) :=
  ⟨World.keptBut_alloc _ _ _, fun a => frozen?_alloc_iter _ _ _ a, by show w.heap.size ≤ (w.heap.push _).size; simp⟩
theorem grown_trans {a b c : World} (h : Grown a b) (h' : Grown b c) : Grown a c :=
  ⟨World.keptBut_trans h.1 (by
      obtain ⟨⟨h1, h2, h3⟩, hf, hs⟩ := h'
      exact ⟨h1, h2, fun i hi => h3 i hi⟩), fun x => (h'.2.1 x).trans (h.2.1 x), Nat.le_trans h.2.2 h'.2.2⟩

set_option maxHeartbeats 400000 in
theorem field_any (s : ByteArray) (w : World) :
    Calls Try.prog 7 #[.string s] w fun e w' => e = .returned (.bool (fieldOK s.data.toList)) ∧ Grown w w' := by
  go_enter Try.func7, Try.ntmps7
  go_wp2_with (first | (go_at_call 13; refine (indexFunc_any s _).mono ?_; rintro e w' ⟨r, rfl, hr, p, rfl⟩) | go_in)
  go_ret
  exact ⟨by simp, grown_iter w s p⟩

theorem byteOK_any (n : Int) (w : World) : Calls Try.prog 6 #[.int .u8 n] w fun e w' => e = .returned (.bool (okN n)) ∧ w' = w := by
  unfold okN
  go_enter Try.func6, Try.ntmps6
  go_wp2
  all_goals go_ret
  all_goals refine ⟨?_, rfl⟩
  all_goals simp_all
  all_goals omega
end Go.Proofs.Qxb6612331a
