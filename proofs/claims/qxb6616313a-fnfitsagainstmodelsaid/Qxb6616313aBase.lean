/- WHAT A SLICE READS, GENERICALLY; THE CLONES. -/
import Derived.Test.Qxb6616313aRows
import Derived.WalkKit
import Derived.ProofKit
import Derived.OpenShut
import Derived.WalkLawsBesides
import Derived.WalkSpells
import Derived.Deep.QuietTactic
import Derived.BigQuiet
import Derived.Deep.OwnRows
import Derived.Deep.RegionHeld3
import Derived.Laws.CopyRow
namespace Go.Proofs.Qxb6616313a
open Go.ChangeShapes Go.WideShapes Go.ChangeAt Go.RowKit
set_option linter.unusedVariables false

theorem ret_int {k : IntKind} {a b : Int} (h : a = b) : Ending.returned (.int k a) = .returned (.int k b) := by rw [h]
theorem ret_bool {a b : Bool} (h : a = b) : Ending.returned (.bool a) = .returned (.bool b) := by rw [h]

theorem block_lt {w : World} {p : Addr} {v : Value} (h : w.cell? p = some v) : p.block < w.heap.size := by
  by_cases hb : p.block < w.heap.size
  · exact hb
  · have e : w.heap[p.block]? = none := Array.getElem?_eq_none (by omega)
    simp [World.cell?, e] at h
theorem heap_lt {w : World} {g : Nat} {o : Obj} (h : w.heap[g]? = some o) : g < w.heap.size := (Array.getElem?_eq_some_iff.1 h).1

theorem below_some {w w' : World} (hb : Below w.heap.size w w') {p : Addr} {v : Value} (h : w.cell? p = some v) : w'.cell? p = some v := by
  rw [hb.cell (block_lt h)]; exact h
theorem below_heap {w w' : World} (hb : Below w.heap.size w w') {g : Nat} {o : Obj} (h : w.heap[g]? = some o) : w'.heap[g]? = some o := by
  rw [hb.block g (heap_lt h)]; exact h

/-- the slice at 'a' reads 'xs', each element as one cell 'f x' -/
def RdG {α : Type} (f : α → Value) (d : α) (w : World) (a : Option Addr) (xs : List α) : Prop :=
  xs = [] ∨ ∃ b off, a = some ⟨b, off, none⟩ ∧ ∀ j, j < xs.length → w.cell? ⟨b, off + j, none⟩ = some (f (xs.getD j d))

theorem RdG.at {α : Type} {f : α → Value} {d : α} {w : World} {a : Option Addr} {xs : List α} (h : RdG f d w a xs) {k : Nat} (hk : k < xs.length) :
    ∃ b off, a = some ⟨b, off, none⟩ ∧ w.cell? ⟨b, off + k, none⟩ = some (f (xs.getD k d)) := by
  rcases h with he | ⟨b, off, e, hc⟩
  · subst he; simp at hk
  · exact ⟨b, off, e, hc k hk⟩
theorem RdG.below {α : Type} {f : α → Value} {d : α} {w w' : World} {a : Option Addr} {xs : List α} (h : RdG f d w a xs) (hb : Below w.heap.size w w') : RdG f d w' a xs := by
  rcases h with h | ⟨b, off, e, hc⟩
  · exact .inl h
  · exact .inr ⟨b, off, e, fun j hj => below_some hb (hc j hj)⟩
theorem RdG.drewN {α : Type} {f : α → Value} {d : α} {w : World} {a : Option Addr} {xs : List α} (h : RdG f d w a xs) (n : Nat) : RdG f d (w.drewN n) a xs := h

/-- a row of the call's own, known whole; or nothing at all -/
def Own {α : Type} (f : α → Value) (T : TypeId) (B : Nat) (w : World) (a : Option Addr) (xs : List α) : Prop :=
  xs = [] ∨ ∃ g, a = some ⟨g, 0, none⟩ ∧ B ≤ g ∧ w.heap[g]? = some (.cells (xs.map f).toArray T (0, 0))
theorem Own.rd {α : Type} {f : α → Value} {d : α} {T : TypeId} {B : Nat} {w : World} {a : Option Addr} {xs : List α} (h : Own f T B w a xs) : RdG f d w a xs := by
  rcases h with h | ⟨g, e, _, hr⟩
  · exact .inl h
  · refine .inr ⟨g, 0, e, fun j hj => ?_⟩
    simp [World.cell?, hr, hj]
theorem Own.below {α : Type} {f : α → Value} {T : TypeId} {B : Nat} {w w' : World} {a : Option Addr} {xs : List α} (h : Own f T B w a xs) (hb : Below w.heap.size w w') : Own f T B w' a xs := by
  rcases h with h | ⟨g, e, hg, hr⟩
  · exact .inl h
  · exact .inr ⟨g, e, hg, below_heap hb hr⟩

theorem set_row {w : World} {g k : Nat} {L : List Value} {t : TypeId} {v : Value} (h : w.heap[g]? = some (.cells L.toArray t (0, 0))) :
    (w.setCell ⟨g, k, none⟩ v).heap[g]? = some (.cells (L.set k v).toArray t (0, 0)) := by
  rw [setCell_eq_setRow w g k L.toArray t (0, 0) v h, setRow_heap w g L.toArray _ t _ h]
  simp
theorem row_cell {w : World} {g k : Nat} {L : List Value} {t : TypeId} (h : w.heap[g]? = some (.cells L.toArray t (0, 0))) (hk : k < L.length) : w.cell? ⟨g, k, none⟩ = some (L[k]'hk) := by
  simp [World.cell?, h, hk]
theorem row_thawed {w : World} {g k : Nat} {L : List Value} {t : TypeId} (h : w.heap[g]? = some (.cells L.toArray t (0, 0))) : w.frozen? ⟨g, k, none⟩ = false := by
  simp [World.frozen?, h]

/-- the row that a clone has filled up to k -/
def fill {α : Type} (f : α → Value) (z : Value) (xs : List α) (n k : Nat) : List Value := (xs.take k).map f ++ List.replicate (n - k) z
theorem fill_zero {α : Type} (f : α → Value) (z : Value) (xs : List α) (n : Nat) : fill f z xs n 0 = List.replicate n z := by simp [fill]
theorem fill_all {α : Type} (f : α → Value) (z : Value) (xs : List α) (n : Nat) (h : xs.length = n) : fill f z xs n n = xs.map f := by simp [fill, ← h]
theorem fill_length {α : Type} (f : α → Value) (z : Value) (xs : List α) (n k : Nat) (h : xs.length = n) (hk : k ≤ n) : (fill f z xs n k).length = n := by simp [fill]; omega
theorem fill_step {α : Type} (f : α → Value) (z : Value) (d : α) (xs : List α) (n k : Nat) (h : xs.length = n) (hk : k < n) : (fill f z xs n k).set k (f (xs.getD k d)) = fill f z xs n (k + 1) := by
  apply List.ext_getElem?
  intro i
  simp only [fill]
  rw [List.getElem?_set]
  by_cases hi : k = i
  · subst hi
    have hl : k < ((xs.take k).map f ++ List.replicate (n - k) z).length := by simp; omega
    rw [if_pos rfl, if_pos hl, List.getElem?_append_left (by simp; omega)]
    simp [show k < xs.length by omega]
  · rw [if_neg hi]
    by_cases h1 : i < k
    · rw [List.getElem?_append_left (by simp; omega), List.getElem?_append_left (by simp; omega)]
      simp [h1, show i < k + 1 by omega]
    · rw [List.getElem?_append_right (by simp; omega), List.getElem?_append_right (by simp; omega)]
      simp only [List.length_map, List.length_take, List.getElem?_replicate]
      congr 1
      simp only [eq_iff_iff]
      omega

theorem info3 : (Try.prog.info? 3).map (fun i => (i.zero, i.size, i.bytes)) = some (some (.int .i64 0), 1, 8) := by kernel_rfl
theorem info61 : (Try.prog.info? 61).map (fun i => (i.zero, i.size, i.bytes)) = some (some (.int .u64 0), 1, 8) := by kernel_rfl
theorem info5 : (Try.prog.info? 5).map (fun i => (i.zero, i.size, i.bytes)) = some (some (.int .u8 0), 1, 1) := by kernel_rfl
theorem info4 : (Try.prog.info? 4).map (fun i => (i.zero, i.size, i.bytes)) = some (some (.bool false), 1, 1) := by kernel_rfl
theorem info36 : (Try.prog.info? 36).map (fun i => (i.zero, i.size, i.bytes)) = some (some (.slice none 0 0), 1, 24) := by kernel_rfl

set_option maxHeartbeats 400000 in
theorem clone20_some (x : Addr) (n c : Nat) (xs : List Int) (w : World) (HN : Hid (xs.length = n)) (hb : n ≤ 1048576) (ha2 : Hid (RdG (Value.int .i64) 0 w (some x) xs)) :
    Calls Try.prog 20 #[.slice (some x) n c] w fun e w' => e = .returned (.slice (some ⟨w.heap.size, 0, none⟩) n n) ∧ Below w.heap.size w w' ∧ w'.heap[w.heap.size]? = some (.cells (xs.map (Value.int .i64)).toArray 3 (0, 0)) := by
  have hne := fun w => Lib.run_eql_slice_nil (P := Try.prog) w 36 3 (some x) n c 0 0 Try.underlying36
  have hmk := run_make_row' (P := Try.prog) 36 3 (.int .i64 0) 8 Try.underlying36 info3 rfl .i64 .i64 n (by omega) (by omega)
  go_enter Try.func20, Try.ntmps20
  go_wp2
  go_loopw [4] (fun i wr => ∃ k : Nat, k ≤ n ∧ i = .int .i64 k ∧ Hid (wr.heap[w.heap.size]? = some (.cells (fill (Value.int .i64) (.int .i64 0) xs n k).toArray 3 (0, 0))) ∧ Below w.heap.size w wr) (fun i _ => n - (intOf i).toNat)
  case atStart =>
    refine ⟨0, Nat.zero_le _, rfl, ?_, (Below.refl _ _).alloc (Nat.le_refl _) _⟩
    show _ = _
    rw [heap_alloc_new, fill_zero, ← toList_madeCells_one]
  case round =>
    obtain ⟨k, hk1, rfl, HR, hbl⟩ := hrel
    by_cases h1 : k < n
    · have hk' : k < xs.length := by rw [HN.out]; exact h1
      obtain ⟨b, off, hxe, hc0⟩ := ha2.out.at hk'
      obtain rfl : x = ⟨b, off, none⟩ := by simpa using hxe
      have hc := below_some hbl hc0
      have hl : k < (fill (Value.int .i64) (.int .i64 0) xs n k).length := by rw [fill_length _ _ _ _ _ HN.out (by omega)]; exact h1
      have hd : ∃ v, wr.cell? ⟨w.heap.size, k, none⟩ = some v := ⟨_, row_cell HR.out hl⟩
      obtain ⟨v0, hd⟩ := hd
      have hf := row_thawed (k := k) HR.out
      have HS : Hid (∀ v, v = (Value.int .i64) (xs.getD k 0) → (wr.setCell ⟨w.heap.size, k, none⟩ v).heap[w.heap.size]? = some (.cells (fill (Value.int .i64) (.int .i64 0) xs n (k + 1)).toArray 3 (0, 0))) := by
        rintro v rfl
        rw [set_row HR.out, fill_step _ _ _ _ _ _ HN.out h1]
      clear hc0 hxe hl
      go_wp2
      go_roundw
      case rel => exact ⟨k + 1, by omega, by go_num, HS.out _ (by simp [hk']), hbl.setCell (Nat.le_refl _) _⟩
      case measure => simp [intOf]; omega
    · have hkL : k = n := by omega
      have HE : Hid (fill (Value.int .i64) (.int .i64 0) xs n k = xs.map (Value.int .i64)) := by
        show _ = _
        rw [hkL]; exact fill_all _ _ _ _ HN.out
      clear hkL
      go_wp2
      go_ret
      exact ⟨rfl, hbl, by rw [HR.out, HE.out]⟩

theorem clone20_nil (n c : Nat) (w : World) : Calls Try.prog 20 #[.slice none n c] w fun e w' => e = .returned (.slice none 0 0) ∧ w' = w := by
  have hne := fun w => Lib.run_eql_slice_nil (P := Try.prog) w 36 3 none n c 0 0 Try.underlying36
  go_enter Try.func20, Try.ntmps20
  go_wp2
  go_ret
  exact ⟨rfl, rfl⟩

theorem clone20_any (a : Option Addr) (n c : Nat) (xs : List Int) (w : World) (HN : xs.length = n) (hb : n ≤ 1048576) (hnil : a = none → n = 0) (ha : RdG (Value.int .i64) 0 w a xs) :
    Calls Try.prog 20 #[.slice a n c] w fun e w' => ∃ a' c', e = .returned (.slice a' n c') ∧ Below w.heap.size w w' ∧ Own (Value.int .i64) 3 w.heap.size w' a' xs := by
  cases a with
  | none =>
    have h0 := hnil rfl
    refine (clone20_nil n c w).mono ?_
    rintro e w' ⟨rfl, rfl⟩
    subst h0
    exact ⟨none, 0, rfl, Below.refl _ _, .inl (List.eq_nil_of_length_eq_zero HN)⟩
  | some x =>
    refine (clone20_some x n c xs w HN hb ha).mono ?_
    rintro e w' ⟨rfl, hbl, hr⟩
    exact ⟨_, _, rfl, hbl, .inr ⟨_, rfl, Nat.le_refl _, hr⟩⟩

set_option maxHeartbeats 400000 in
theorem clone21_some (x : Addr) (n c : Nat) (xs : List Int) (w : World) (HN : Hid (xs.length = n)) (hb : n ≤ 1048576) (ha2 : Hid (RdG (Value.int .u64) 0 w (some x) xs)) :
    Calls Try.prog 21 #[.slice (some x) n c] w fun e w' => e = .returned (.slice (some ⟨w.heap.size, 0, none⟩) n n) ∧ Below w.heap.size w w' ∧ w'.heap[w.heap.size]? = some (.cells (xs.map (Value.int .u64)).toArray 61 (0, 0)) := by
  have hne := fun w => Lib.run_eql_slice_nil (P := Try.prog) w 37 61 (some x) n c 0 0 Try.underlying37
  have hmk := run_make_row' (P := Try.prog) 37 61 (.int .u64 0) 8 Try.underlying37 info61 rfl .i64 .i64 n (by omega) (by omega)
  go_enter Try.func21, Try.ntmps21
  go_wp2
  go_loopw [4] (fun i wr => ∃ k : Nat, k ≤ n ∧ i = .int .i64 k ∧ Hid (wr.heap[w.heap.size]? = some (.cells (fill (Value.int .u64) (.int .u64 0) xs n k).toArray 61 (0, 0))) ∧ Below w.heap.size w wr) (fun i _ => n - (intOf i).toNat)
  case atStart =>
    refine ⟨0, Nat.zero_le _, rfl, ?_, (Below.refl _ _).alloc (Nat.le_refl _) _⟩
    show _ = _
    rw [heap_alloc_new, fill_zero, ← toList_madeCells_one]
  case round =>
    obtain ⟨k, hk1, rfl, HR, hbl⟩ := hrel
    by_cases h1 : k < n
    · have hk' : k < xs.length := by rw [HN.out]; exact h1
      obtain ⟨b, off, hxe, hc0⟩ := ha2.out.at hk'
      obtain rfl : x = ⟨b, off, none⟩ := by simpa using hxe
      have hc := below_some hbl hc0
      have hl : k < (fill (Value.int .u64) (.int .u64 0) xs n k).length := by rw [fill_length _ _ _ _ _ HN.out (by omega)]; exact h1
      have hd : ∃ v, wr.cell? ⟨w.heap.size, k, none⟩ = some v := ⟨_, row_cell HR.out hl⟩
      obtain ⟨v0, hd⟩ := hd
      have hf := row_thawed (k := k) HR.out
      have HS : Hid (∀ v, v = (Value.int .u64) (xs.getD k 0) → (wr.setCell ⟨w.heap.size, k, none⟩ v).heap[w.heap.size]? = some (.cells (fill (Value.int .u64) (.int .u64 0) xs n (k + 1)).toArray 61 (0, 0))) := by
        rintro v rfl
        rw [set_row HR.out, fill_step _ _ _ _ _ _ HN.out h1]
      clear hc0 hxe hl
      go_wp2
      go_roundw
      case rel => exact ⟨k + 1, by omega, by go_num, HS.out _ (by simp [hk']), hbl.setCell (Nat.le_refl _) _⟩
      case measure => simp [intOf]; omega
    · have hkL : k = n := by omega
      have HE : Hid (fill (Value.int .u64) (.int .u64 0) xs n k = xs.map (Value.int .u64)) := by
        show _ = _
        rw [hkL]; exact fill_all _ _ _ _ HN.out
      clear hkL
      go_wp2
      go_ret
      exact ⟨rfl, hbl, by rw [HR.out, HE.out]⟩

theorem clone21_nil (n c : Nat) (w : World) : Calls Try.prog 21 #[.slice none n c] w fun e w' => e = .returned (.slice none 0 0) ∧ w' = w := by
  have hne := fun w => Lib.run_eql_slice_nil (P := Try.prog) w 37 61 none n c 0 0 Try.underlying37
  go_enter Try.func21, Try.ntmps21
  go_wp2
  go_ret
  exact ⟨rfl, rfl⟩

theorem clone21_any (a : Option Addr) (n c : Nat) (xs : List Int) (w : World) (HN : xs.length = n) (hb : n ≤ 1048576) (hnil : a = none → n = 0) (ha : RdG (Value.int .u64) 0 w a xs) :
    Calls Try.prog 21 #[.slice a n c] w fun e w' => ∃ a' c', e = .returned (.slice a' n c') ∧ Below w.heap.size w w' ∧ Own (Value.int .u64) 61 w.heap.size w' a' xs := by
  cases a with
  | none =>
    have h0 := hnil rfl
    refine (clone21_nil n c w).mono ?_
    rintro e w' ⟨rfl, rfl⟩
    subst h0
    exact ⟨none, 0, rfl, Below.refl _ _, .inl (List.eq_nil_of_length_eq_zero HN)⟩
  | some x =>
    refine (clone21_some x n c xs w HN hb ha).mono ?_
    rintro e w' ⟨rfl, hbl, hr⟩
    exact ⟨_, _, rfl, hbl, .inr ⟨_, rfl, Nat.le_refl _, hr⟩⟩

set_option maxHeartbeats 400000 in
theorem clone22_some (x : Addr) (n c : Nat) (xs : List Int) (w : World) (HN : Hid (xs.length = n)) (hb : n ≤ 1048576) (ha2 : Hid (RdG (Value.int .u8) 0 w (some x) xs)) :
    Calls Try.prog 22 #[.slice (some x) n c] w fun e w' => e = .returned (.slice (some ⟨w.heap.size, 0, none⟩) n n) ∧ Below w.heap.size w w' ∧ w'.heap[w.heap.size]? = some (.cells (xs.map (Value.int .u8)).toArray 5 (0, 0)) := by
  have hne := fun w => Lib.run_eql_slice_nil (P := Try.prog) w 38 5 (some x) n c 0 0 Try.underlying38
  have hmk := run_make_row' (P := Try.prog) 38 5 (.int .u8 0) 1 Try.underlying38 info5 rfl .i64 .i64 n (by omega) (by omega)
  go_enter Try.func22, Try.ntmps22
  go_wp2
  go_loopw [4] (fun i wr => ∃ k : Nat, k ≤ n ∧ i = .int .i64 k ∧ Hid (wr.heap[w.heap.size]? = some (.cells (fill (Value.int .u8) (.int .u8 0) xs n k).toArray 5 (0, 0))) ∧ Below w.heap.size w wr) (fun i _ => n - (intOf i).toNat)
  case atStart =>
    refine ⟨0, Nat.zero_le _, rfl, ?_, (Below.refl _ _).alloc (Nat.le_refl _) _⟩
    show _ = _
    rw [heap_alloc_new, fill_zero, ← toList_madeCells_one]
  case round =>
    obtain ⟨k, hk1, rfl, HR, hbl⟩ := hrel
    by_cases h1 : k < n
    · have hk' : k < xs.length := by rw [HN.out]; exact h1
      obtain ⟨b, off, hxe, hc0⟩ := ha2.out.at hk'
      obtain rfl : x = ⟨b, off, none⟩ := by simpa using hxe
      have hc := below_some hbl hc0
      have hl : k < (fill (Value.int .u8) (.int .u8 0) xs n k).length := by rw [fill_length _ _ _ _ _ HN.out (by omega)]; exact h1
      have hd : ∃ v, wr.cell? ⟨w.heap.size, k, none⟩ = some v := ⟨_, row_cell HR.out hl⟩
      obtain ⟨v0, hd⟩ := hd
      have hf := row_thawed (k := k) HR.out
      have HS : Hid (∀ v, v = (Value.int .u8) (xs.getD k 0) → (wr.setCell ⟨w.heap.size, k, none⟩ v).heap[w.heap.size]? = some (.cells (fill (Value.int .u8) (.int .u8 0) xs n (k + 1)).toArray 5 (0, 0))) := by
        rintro v rfl
        rw [set_row HR.out, fill_step _ _ _ _ _ _ HN.out h1]
      clear hc0 hxe hl
      go_wp2
      go_roundw
      case rel => exact ⟨k + 1, by omega, by go_num, HS.out _ (by simp [hk']), hbl.setCell (Nat.le_refl _) _⟩
      case measure => simp [intOf]; omega
    · have hkL : k = n := by omega
      have HE : Hid (fill (Value.int .u8) (.int .u8 0) xs n k = xs.map (Value.int .u8)) := by
        show _ = _
        rw [hkL]; exact fill_all _ _ _ _ HN.out
      clear hkL
      go_wp2
      go_ret
      exact ⟨rfl, hbl, by rw [HR.out, HE.out]⟩

theorem clone22_nil (n c : Nat) (w : World) : Calls Try.prog 22 #[.slice none n c] w fun e w' => e = .returned (.slice none 0 0) ∧ w' = w := by
  have hne := fun w => Lib.run_eql_slice_nil (P := Try.prog) w 38 5 none n c 0 0 Try.underlying38
  go_enter Try.func22, Try.ntmps22
  go_wp2
  go_ret
  exact ⟨rfl, rfl⟩

theorem clone22_any (a : Option Addr) (n c : Nat) (xs : List Int) (w : World) (HN : xs.length = n) (hb : n ≤ 1048576) (hnil : a = none → n = 0) (ha : RdG (Value.int .u8) 0 w a xs) :
    Calls Try.prog 22 #[.slice a n c] w fun e w' => ∃ a' c', e = .returned (.slice a' n c') ∧ Below w.heap.size w w' ∧ Own (Value.int .u8) 5 w.heap.size w' a' xs := by
  cases a with
  | none =>
    have h0 := hnil rfl
    refine (clone22_nil n c w).mono ?_
    rintro e w' ⟨rfl, rfl⟩
    subst h0
    exact ⟨none, 0, rfl, Below.refl _ _, .inl (List.eq_nil_of_length_eq_zero HN)⟩
  | some x =>
    refine (clone22_some x n c xs w HN hb ha).mono ?_
    rintro e w' ⟨rfl, hbl, hr⟩
    exact ⟨_, _, rfl, hbl, .inr ⟨_, rfl, Nat.le_refl _, hr⟩⟩

set_option maxHeartbeats 400000 in
theorem clone25_some (x : Addr) (n c : Nat) (xs : List Bool) (w : World) (HN : Hid (xs.length = n)) (hb : n ≤ 1048576) (ha2 : Hid (RdG Value.bool false w (some x) xs)) :
    Calls Try.prog 25 #[.slice (some x) n c] w fun e w' => e = .returned (.slice (some ⟨w.heap.size, 0, none⟩) n n) ∧ Below w.heap.size w w' ∧ w'.heap[w.heap.size]? = some (.cells (xs.map Value.bool).toArray 4 (0, 0)) := by
  have hne := fun w => Lib.run_eql_slice_nil (P := Try.prog) w 40 4 (some x) n c 0 0 Try.underlying40
  have hmk := run_make_row' (P := Try.prog) 40 4 (.bool false) 1 Try.underlying40 info4 rfl .i64 .i64 n (by omega) (by omega)
  go_enter Try.func25, Try.ntmps25
  go_wp2
  go_loopw [4] (fun i wr => ∃ k : Nat, k ≤ n ∧ i = .int .i64 k ∧ Hid (wr.heap[w.heap.size]? = some (.cells (fill Value.bool (.bool false) xs n k).toArray 4 (0, 0))) ∧ Below w.heap.size w wr) (fun i _ => n - (intOf i).toNat)
  case atStart =>
    refine ⟨0, Nat.zero_le _, rfl, ?_, (Below.refl _ _).alloc (Nat.le_refl _) _⟩
    show _ = _
    rw [heap_alloc_new, fill_zero, ← toList_madeCells_one]
  case round =>
    obtain ⟨k, hk1, rfl, HR, hbl⟩ := hrel
    by_cases h1 : k < n
    · have hk' : k < xs.length := by rw [HN.out]; exact h1
      obtain ⟨b, off, hxe, hc0⟩ := ha2.out.at hk'
      obtain rfl : x = ⟨b, off, none⟩ := by simpa using hxe
      have hc := below_some hbl hc0
      have hl : k < (fill Value.bool (.bool false) xs n k).length := by rw [fill_length _ _ _ _ _ HN.out (by omega)]; exact h1
      have hd : ∃ v, wr.cell? ⟨w.heap.size, k, none⟩ = some v := ⟨_, row_cell HR.out hl⟩
      obtain ⟨v0, hd⟩ := hd
      have hf := row_thawed (k := k) HR.out
      have HS : Hid (∀ v, v = Value.bool (xs.getD k false) → (wr.setCell ⟨w.heap.size, k, none⟩ v).heap[w.heap.size]? = some (.cells (fill Value.bool (.bool false) xs n (k + 1)).toArray 4 (0, 0))) := by
        rintro v rfl
        rw [set_row HR.out, fill_step _ _ _ _ _ _ HN.out h1]
      clear hc0 hxe hl
      go_wp2
      go_roundw
      case rel => exact ⟨k + 1, by omega, by go_num, HS.out _ (by simp [hk']), hbl.setCell (Nat.le_refl _) _⟩
      case measure => simp [intOf]; omega
    · have hkL : k = n := by omega
      have HE : Hid (fill Value.bool (.bool false) xs n k = xs.map Value.bool) := by
        show _ = _
        rw [hkL]; exact fill_all _ _ _ _ HN.out
      clear hkL
      go_wp2
      go_ret
      exact ⟨rfl, hbl, by rw [HR.out, HE.out]⟩

theorem clone25_nil (n c : Nat) (w : World) : Calls Try.prog 25 #[.slice none n c] w fun e w' => e = .returned (.slice none 0 0) ∧ w' = w := by
  have hne := fun w => Lib.run_eql_slice_nil (P := Try.prog) w 40 4 none n c 0 0 Try.underlying40
  go_enter Try.func25, Try.ntmps25
  go_wp2
  go_ret
  exact ⟨rfl, rfl⟩

theorem clone25_any (a : Option Addr) (n c : Nat) (xs : List Bool) (w : World) (HN : xs.length = n) (hb : n ≤ 1048576) (hnil : a = none → n = 0) (ha : RdG Value.bool false w a xs) :
    Calls Try.prog 25 #[.slice a n c] w fun e w' => ∃ a' c', e = .returned (.slice a' n c') ∧ Below w.heap.size w w' ∧ Own Value.bool 4 w.heap.size w' a' xs := by
  cases a with
  | none =>
    have h0 := hnil rfl
    refine (clone25_nil n c w).mono ?_
    rintro e w' ⟨rfl, rfl⟩
    subst h0
    exact ⟨none, 0, rfl, Below.refl _ _, .inl (List.eq_nil_of_length_eq_zero HN)⟩
  | some x =>
    refine (clone25_some x n c xs w HN hb ha).mono ?_
    rintro e w' ⟨rfl, hbl, hr⟩
    exact ⟨_, _, rfl, hbl, .inr ⟨_, rfl, Nat.le_refl _, hr⟩⟩

end Go.Proofs.Qxb6616313a
