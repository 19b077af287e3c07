/- A CLONE OF A SLICE OF SLICES. -/
import Derived.Test.Qxb6616313aShape
namespace Go.Proofs.Qxb6616313a
open Go.ChangeShapes Go.WideShapes Go.ChangeAt Go.RowKit
set_option linter.unusedVariables false

/-- a clone of a slice of slices -/
def RList (w : World) (n : Nat) (xss : List (List Int)) (e : Ending) (w' : World) : Prop :=
  ∃ a' c' vs', e = .returned (.slice a' n c') ∧ Below w.heap.size w w' ∧ vs'.length = n ∧ RdS w' a' vs' ∧ Inner w' vs' xss ∧ ∀ p ∈ vs', p.2.1 ≤ p.2.2 ∧ ∀ x, p.1 = some x → w.heap.size ≤ x.block ∧ x.block < w'.heap.size

theorem clone20_cap (a : Option Addr) (n c : Nat) (xs : List Int) (w : World) (HN : xs.length = n) (hb : n ≤ 1048576) (hnil : a = none → n = 0) (ha : RdG (Value.int .i64) 0 w a xs) :
    Calls Try.prog 20 #[.slice a n c] w fun e w' => ∃ a' c', e = .returned (.slice a' n c') ∧ Below w.heap.size w w' ∧ Own (Value.int .i64) 3 w.heap.size w' a' xs ∧ n ≤ c' ∧ ∀ x, a' = some x → w.heap.size ≤ x.block ∧ x.block < w'.heap.size := by
  cases a with
  | none =>
    have h0 := hnil rfl
    refine (clone20_nil n c w).mono ?_
    rintro e w' ⟨rfl, rfl⟩
    subst h0
    exact ⟨none, 0, rfl, Below.refl _ _, .inl (List.eq_nil_of_length_eq_zero HN), Nat.le_refl _, fun x hx => by cases hx⟩
  | some x =>
    refine (clone20_some x n c xs w HN hb ha).mono ?_
    rintro e w' ⟨rfl, hbl, hr⟩
    exact ⟨_, _, rfl, hbl, .inr ⟨_, rfl, Nat.le_refl _, hr⟩, Nat.le_refl _, fun x hx => by cases hx; exact ⟨Nat.le_refl _, heap_lt hr⟩⟩

theorem Inner.snoc {w : World} {vs : List (Option Addr × Nat × Nat)} {xss : List (List Int)} {k : Nat} (h : ∀ j, j < k → (xss.getD j []).length = (vs.getD j (none, 0, 0)).2.1 ∧ RdI w (vs.getD j (none, 0, 0)).1 (xss.getD j [])) (hl : vs.length = k)
    {p : Option Addr} {q r : Nat} (hq : (xss.getD k []).length = q) (hr : RdI w p (xss.getD k [])) :
    ∀ j, j < k + 1 → (xss.getD j []).length = ((vs ++ [(p, q, r)]).getD j (none, 0, 0)).2.1 ∧ RdI w ((vs ++ [(p, q, r)]).getD j (none, 0, 0)).1 (xss.getD j []) := by
  intro j hj
  by_cases e : j = k
  · subst e
    have : (vs ++ [(p, q, r)]).getD j (none, 0, 0) = (p, q, r) := by simp [List.getD_eq_getElem?_getD, ← hl]
    rw [this]
    exact ⟨hq, hr⟩
  · have : (vs ++ [(p, q, r)]).getD j (none, 0, 0) = vs.getD j (none, 0, 0) := by
      simp only [List.getD_eq_getElem?_getD]
      rw [List.getElem?_append_left (by omega)]
    rw [this]
    exact h j (by omega)

/-- the row of slices filled so far -/
def fillS (vs : List (Option Addr × Nat × Nat)) (n : Nat) : List Value := vs.map slv ++ List.replicate (n - vs.length) (.slice none 0 0)
theorem fillS_length (vs : List (Option Addr × Nat × Nat)) (n : Nat) (h : vs.length ≤ n) : (fillS vs n).length = n := by simp [fillS]; omega
theorem fillS_step (vs : List (Option Addr × Nat × Nat)) (n : Nat) (h : vs.length < n) (p : Option Addr × Nat × Nat) : (fillS vs n).set vs.length (slv p) = fillS (vs ++ [p]) n := by
  unfold fillS
  rw [List.set_append_right _ _ (by simp)]
  obtain ⟨m, hm⟩ : ∃ m, n - vs.length = m + 1 := ⟨n - vs.length - 1, by omega⟩
  have hm2 : n - (vs ++ [p]).length = m := by simp; omega
  rw [hm, hm2]
  simp [List.replicate_succ]

theorem cell_set_ne' (w : World) {p q : Addr} (v : Value) (h : p.block ≠ q.block) : (w.setCell q v).cell? p = w.cell? p := World.cell?_of_block (w := w) (Below.heap_setCell w q v p.block h)
theorem int_not_in {w : World} {g b o : Nat} {vs : List (Option Addr × Nat × Nat)} {n : Nat} {T : TypeId} {k : IntKind} {x : Int} (h : w.heap[g]? = some (.cells (fillS vs n).toArray T (0, 0))) (hc : w.cell? ⟨b, o, none⟩ = some (.int k x)) : b ≠ g := by
  rintro rfl
  simp only [World.cell?, h] at hc
  have hm : Value.int k x ∈ fillS vs n := by
    have : (fillS vs n)[o]? = some (.int k x) := by simpa using hc
    exact List.mem_of_getElem? this
  simp only [fillS, List.mem_append, List.mem_map, List.mem_replicate] at hm
  rcases hm with ⟨p, _, e⟩ | ⟨_, e⟩
  · simp [slv] at e
  · cases e

set_option maxHeartbeats 1000000 in
theorem cloneL_some (x : Addr) (n c : Nat) (vs : List (Option Addr × Nat × Nat)) (xss : List (List Int)) (w : World) (HN : Hid (vs.length = n)) (hb : n ≤ 1048576) (hr : Hid (RdS w (some x) vs)) (hi : Hid (Inner w vs xss))
    (hq : Hid (∀ j, j < n → (vs.getD j (none, 0, 0)).2.1 ≤ 1048576)) (hnil : Hid (∀ j, j < n → (vs.getD j (none, 0, 0)).1 = none → (vs.getD j (none, 0, 0)).2.1 = 0)) :
    Calls Try.prog 23 #[.slice (some x) n c] w (RList w n xss) := by
  have hne := fun w => Lib.run_eql_slice_nil (P := Try.prog) w 39 36 (some x) n c 0 0 Try.underlying39
  have hmk := run_make_row' (P := Try.prog) 39 36 (.slice none 0 0) 24 Try.underlying39 info36 rfl .i64 .i64 n (by omega) (by omega)
  go_enter Try.func23, Try.ntmps23
  go_wp2
  go_loopw [4] (fun i wr => ∃ (k : Nat) (vs' : List (Option Addr × Nat × Nat)), k ≤ n ∧ i = .int .i64 k ∧ Hid (vs'.length = k) ∧ Hid (wr.heap[w.heap.size]? = some (.cells (fillS vs' n).toArray 36 (0, 0))) ∧ Hid (∀ j, j < k → (xss.getD j []).length = (vs'.getD j (none, 0, 0)).2.1 ∧ RdI wr (vs'.getD j (none, 0, 0)).1 (xss.getD j [])) ∧ Hid (∀ p ∈ vs', p.2.1 ≤ p.2.2 ∧ ∀ x, p.1 = some x → w.heap.size ≤ x.block ∧ x.block < wr.heap.size) ∧ Below w.heap.size w wr) (fun i _ => n - (intOf i).toNat)
  case atStart =>
    refine ⟨0, [], Nat.zero_le _, rfl, rfl, ?_, fun j hj => (by omega), (fun p hp => by cases hp), (Below.refl _ _).alloc (Nat.le_refl _) _⟩
    show _ = _
    rw [heap_alloc_new, show fillS [] n = List.replicate n (.slice none 0 0) from by simp [fillS], ← toList_madeCells_one]
  case round =>
    obtain ⟨k, vs', hk1, rfl, HL, HR, HI, HCP, hbl⟩ := hrel
    by_cases h1 : k < n
    · obtain ⟨b, off, p, q, r, hxe, hc0, hev⟩ := hr.out.at (k := k) (by rw [HN.out]; exact h1)
      obtain rfl : x = ⟨b, off, none⟩ := by simpa using hxe
      have hc := below_some hbl hc0
      have hin := hi.out.2 k (by rw [HN.out]; exact h1)
      have hq1 := hq.out k h1
      have hn1 := hnil.out k h1
      rw [hev] at hin hq1 hn1
      have HX : Hid ((xss.getD k []).length = q) := hin.1
      have HX2 : Hid (RdI wr p (xss.getD k [])) := hin.2.below hbl
      have hq2 : q ≤ 1048576 := hq1
      have HNIL : Hid (p = none → q = 0) := hn1
      clear hin hq1 hn1 hev hc0 hxe
      go_wp2_with fail
      refine (clone20_cap p q r (xss.getD k []) _ HX.out hq2 HNIL.out HX2.out).mono ?_
      rintro e w1 ⟨a', c', rfl, hb1, hown, hcap⟩
      have hsz : w.heap.size < wr.heap.size := heap_lt HR.out
      have HR1 : Hid (w1.heap[w.heap.size]? = some (.cells (fillS vs' n).toArray 36 (0, 0))) := below_heap hb1 HR.out
      have hfl : k < (fillS vs' n).length := by rw [fillS_length _ _ (by rw [HL.out]; omega)]; exact h1
      obtain ⟨v0, g0⟩ : ∃ v0, w1.cell? ⟨w.heap.size, k, none⟩ = some v0 := ⟨_, row_cell HR1.out hfl⟩
      have f0 := row_thawed (k := k) HR1.out
      have hbl1 : Below w.heap.size w w1 := hbl.trans (hb1.mono hbl.size)
      have HS : Hid ((w1.setCell ⟨w.heap.size, k, none⟩ (.slice a' q c')).heap[w.heap.size]? = some (.cells (fillS (vs' ++ [(a', q, c')]) n).toArray 36 (0, 0))) := by
        show _ = _
        rw [set_row HR1.out]
        have := fillS_step vs' n (by rw [HL.out]; exact h1) (a', q, c')
        rw [HL.out] at this
        rw [← this]; rfl
      have keep : ∀ (a : Option Addr) (xs : List Int), RdI wr a xs → RdI (w1.setCell ⟨w.heap.size, k, none⟩ (.slice a' q c')) a xs := by
        intro a xs h
        rcases h.below hb1 with h | ⟨b3, o3, e3, hc3⟩
        · exact .inl h
        · exact .inr ⟨b3, o3, e3, fun j hj => by rw [cell_set_ne' _ _ (int_not_in HR1.out (hc3 j hj))]; exact hc3 j hj⟩
      have keep1 : RdI (w1.setCell ⟨w.heap.size, k, none⟩ (.slice a' q c')) a' (xss.getD k []) := by
        rcases hown.rd (d := 0) with h | ⟨b3, o3, e3, hc3⟩
        · exact .inl h
        · exact .inr ⟨b3, o3, e3, fun j hj => by rw [cell_set_ne' _ _ (int_not_in HR1.out (hc3 j hj))]; exact hc3 j hj⟩
      have HI2 : Hid (∀ j, j < k + 1 → (xss.getD j []).length = ((vs' ++ [(a', q, c')]).getD j (none, 0, 0)).2.1 ∧ RdI (w1.setCell ⟨w.heap.size, k, none⟩ (.slice a' q c')) ((vs' ++ [(a', q, c')]).getD j (none, 0, 0)).1 (xss.getD j [])) :=
        Inner.snoc (fun j hj => ⟨(HI.out j hj).1, keep _ _ (HI.out j hj).2⟩) HL.out HX.out keep1
      have HL2 : Hid ((vs' ++ [(a', q, c')]).length = k + 1) := by show _ = _; simp [HL.out]
      have HB2 : Hid (Below w.heap.size w (w1.setCell ⟨w.heap.size, k, none⟩ (.slice a' q c'))) := hbl1.setCell (Nat.le_refl _) _
      have HCP2 : Hid (∀ p ∈ vs' ++ [(a', q, c')], p.2.1 ≤ p.2.2 ∧ ∀ x, p.1 = some x → w.heap.size ≤ x.block ∧ x.block < (w1.setCell ⟨w.heap.size, k, none⟩ (.slice a' q c')).heap.size) := fun p hp => by
        have hsz1 := hb1.size
        have hsz2 : (w1.setCell ⟨w.heap.size, k, none⟩ (.slice a' q c')).heap.size = w1.heap.size := by simp [World.setCell]
        rw [hsz2]
        rcases List.mem_append.1 hp with h | h
        · exact ⟨(HCP.out p h).1, fun x hx => by have := (HCP.out p h).2 x hx; omega⟩
        · obtain rfl : p = (a', q, c') := by simpa using h
          exact ⟨hcap.1, fun x hx => by have := hcap.2 x hx; omega⟩
      clear keep keep1 hfl hown hb1 hbl hc hcap
      go_wp2
      go_roundw
      case rel => exact ⟨k + 1, vs' ++ [(a', q, c')], by omega, by go_num, HL2.out, HS.out, HI2.out, HCP2.out, HB2.out⟩
      case measure => simp [intOf]; omega
    · have hkn : k = n := by omega
      have hl2 : vs'.length = n := by rw [HL.out]; exact hkn
      have hrow : wr.heap[w.heap.size]? = some (.cells (vs'.map slv).toArray 36 (0, 0)) := by
        rw [HR.out]; simp [fillS, hl2]
      have HP : Hid (RList w n xss (.returned (.slice (some ⟨w.heap.size, 0, none⟩) n n)) wr) := by
        refine ⟨some ⟨w.heap.size, 0, none⟩, n, vs', rfl, hbl, hl2, ?_, ⟨?_, fun j hj => HI.out j (by omega)⟩, HCP.out⟩
        · refine .inr ⟨w.heap.size, 0, rfl, fun j hj => ?_⟩
          simp [World.cell?, hrow, hj]
        · rw [hl2, ← HN.out]; exact hi.out.1
      clear hl2 hrow hkn
      go_wp2
      go_ret
      exact HP.out

theorem cloneL_nil (n c : Nat) (w : World) : Calls Try.prog 23 #[.slice none n c] w fun e w' => e = .returned (.slice none 0 0) ∧ w' = w := by
  have hne := fun w => Lib.run_eql_slice_nil (P := Try.prog) w 39 36 none n c 0 0 Try.underlying39
  go_enter Try.func23, Try.ntmps23
  go_wp2
  go_ret
  exact ⟨rfl, rfl⟩

theorem cloneL_any (a : Option Addr) (n c : Nat) (vs : List (Option Addr × Nat × Nat)) (xss : List (List Int)) (w : World) (HN : vs.length = n) (hb : n ≤ 1048576) (h0 : a = none → n = 0) (hr : RdS w a vs) (hi : Inner w vs xss)
    (hq : ∀ j, j < n → (vs.getD j (none, 0, 0)).2.1 ≤ 1048576) (hnil : ∀ j, j < n → (vs.getD j (none, 0, 0)).1 = none → (vs.getD j (none, 0, 0)).2.1 = 0) :
    Calls Try.prog 23 #[.slice a n c] w (RList w n xss) := by
  cases a with
  | none =>
    have hn0 := h0 rfl
    refine (cloneL_nil n c w).mono ?_
    rintro e w' ⟨rfl, rfl⟩
    subst hn0
    have : vs = [] := List.eq_nil_of_length_eq_zero HN
    subst this
    exact ⟨none, 0, [], rfl, Below.refl _ _, rfl, .inl rfl, hi, fun p hp => by cases hp⟩
  | some x => exact cloneL_some x n c vs xss w HN hb hr hi hq hnil
end Go.Proofs.Qxb6616313a
