/- FIVE MAKES IN WHATEVER ORDER: an invariant in the place of a hundred and twenty orders. -/
import Derived.Test.Qxb6616313aBase
namespace Go.Proofs.Qxb6616313a
open Go.ChangeShapes Go.WideShapes Go.ChangeAt Go.RowKit
set_option linter.unusedVariables false

section
variable {P : Program} {ops : Array Oper} {Q : Exit → Act → World → Prop}

theorem wpOp_run {i : Nat} {o : Oper} {K : Act → World → Prop} {a : Act} {w w' : World} {v : Value} (hi : ops[i]? = some o) (hg : o.guard = none)
    (hrun : (execOp a.eval o).run P w = .ok (.value v) w') (hK : K (a.put o.dst v) w') : wpOp P ops Q i K a w := by
  unfold wpOp
  simp only [hi]
  have hw : Region.wanted o (yielded ops a.tmps) = true := by simp [Region.wanted, hg]
  rw [if_pos hw]
  refine .inl ?_
  unfold Oper.wp
  rw [hrun]
  exact hK

/-- the five operations of the region that make memory, in whatever order -/
def five : List Nat := [2, 5, 8, 9, 10]
def dst5 : Nat → Nat
  | 2 => 24 | 5 => 27 | 8 => 30 | 9 => 31 | _ => 32
def L5 (f : Nat → Bool) : Array Bool := #[true, true, f 2, true, true, f 5, true, true, f 8, f 9, f 10, false, false, false]

structure Inv5 (val : Nat → Nat → Value) (obj : Nat → Obj) (a0 : Act) (w0 : World) (m : Nat → Option Nat) (a : Act) (w : World) : Prop where
  size : a.tmps.size = a0.tmps.size
  defers : a.defers = a0.defers
  other : ∀ t, t ≠ 24 → t ≠ 27 → t ≠ 30 → t ≠ 31 → t ≠ 32 → a.tmps[t]? = a0.tmps[t]?
  made : ∀ i ∈ five, ∀ b, m i = some b → a.tmps[dst5 i]? = some (val i b) ∧ w.heap[b]? = some (obj i) ∧ w0.heap.size ≤ b
  apart : ∀ i ∈ five, ∀ j ∈ five, ∀ b, m i = some b → m j = some b → i = j
  bel : Below w0.heap.size w0 w

theorem dst5_inj : ∀ i ∈ five, ∀ j ∈ five, dst5 i = dst5 j → i = j := by decide

theorem Inv5.step {val : Nat → Nat → Value} {obj : Nat → Obj} {a0 : Act} {w0 : World} {m : Nat → Option Nat} {a : Act} {w : World} (h : Inv5 val obj a0 w0 m a w) (hs : 32 < a0.tmps.size) {i : Nat} (hi : i ∈ five) :
    Inv5 val obj a0 w0 (fun j => if j = i then some w.heap.size else m j) (a.put (some (dst5 i)) (val i w.heap.size)) (w.alloc (obj i)) := by
  have hd : dst5 i ∈ [24, 27, 30, 31, 32] := by revert i; decide
  have hlt : dst5 i < a.tmps.size := by
    rw [h.size]
    simp at hd
    omega
  refine ⟨?_, h.defers, ?_, ?_, ?_, h.bel.alloc h.bel.size _⟩
  · simp [Act.put, h.size]
  · intro t h1 h2 h3 h4 h5
    have hne : dst5 i ≠ t := by
      simp at hd
      omega
    simp only [Act.put]
    rw [Array.getElem?_setIfInBounds_ne hne]
    exact h.other t h1 h2 h3 h4 h5
  · intro j hj b hb
    by_cases e : j = i
    · subst e
      simp at hb
      subst hb
      refine ⟨?_, heap_alloc_new _ _, h.bel.size⟩
      simp only [Act.put]
      exact Array.getElem?_setIfInBounds_self_of_lt hlt
    · rw [if_neg e] at hb
      obtain ⟨p1, p2, p3⟩ := h.made j hj b hb
      refine ⟨?_, ?_, p3⟩
      · simp only [Act.put]
        rw [Array.getElem?_setIfInBounds_ne (fun e2 => e (dst5_inj j hj i hi e2.symm))]
        exact p1
      · rw [heap_alloc_old _ _ (heap_lt p2)]
        exact p2
  · intro j hj k hk b hb hb'
    by_cases e : j = i
    · by_cases e' : k = i
      · rw [e, e']
      · rw [if_pos e] at hb
        rw [if_neg e'] at hb'
        have := heap_lt (h.made k hk b hb').2.1
        simp at hb
        omega
    · by_cases e' : k = i
      · rw [if_neg e] at hb
        rw [if_pos e'] at hb'
        have := heap_lt (h.made j hj b hb).2.1
        simp at hb'
        omega
      · rw [if_neg e] at hb
        rw [if_neg e'] at hb'
        exact h.apart j hj k hk b hb hb'

/-- how many are still to come -/
def left5 (m : Nat → Option Nat) : Nat := (five.filter fun i => (m i).isNone).length

theorem left5_step {m : Nat → Option Nat} {i b : Nat} (hi : i ∈ five) (hm : m i = none) : left5 m = left5 (fun j => if j = i then some b else m j) + 1 := by
  simp only [five, List.mem_cons, List.not_mem_nil, or_false] at hi
  unfold left5 five
  rcases hi with rfl | rfl | rfl | rfl | rfl <;>
    cases h2 : m 2 <;> cases h5 : m 5 <;> cases h8 : m 8 <;> cases h9 : m 9 <;> cases h10 : m 10 <;> simp_all

theorem L5_step {m : Nat → Option Nat} {i b : Nat} (hi : i ∈ five) :
    (L5 fun j => (m j).isSome).setIfInBounds i true = L5 fun j => ((fun j => if j = i then some b else m j) j).isSome := by
  simp only [five, List.mem_cons, List.not_mem_nil, or_false] at hi
  rcases hi with rfl | rfl | rfl | rfl | rfl <;> simp [L5]

theorem makers5 (val : Nat → Nat → Value) (obj : Nat → Obj) (a0 : Act) (w0 : World) (hs : 32 < a0.tmps.size)
    (hrd : ∀ f : Nat → Bool, ∀ i ∈ Region.ready .any ops (L5 f), (i ∈ five ∧ f i = false) ∨ (∀ j ∈ five, f j = true))
    (hne : ∀ f : Nat → Bool, Region.ready .any ops (L5 f) ≠ [])
    (step : ∀ i ∈ five, ∀ (K : Act → World → Prop) a w, (∀ t, t ≠ 24 → t ≠ 27 → t ≠ 30 → t ≠ 31 → t ≠ 32 → a.tmps[t]? = a0.tmps[t]?) → K (a.put (some (dst5 i)) (val i w.heap.size)) (w.alloc (obj i)) → wpOp P ops Q i K a w)
    (fin : ∀ m a w, Inv5 val obj a0 w0 m a w → (∀ i ∈ five, (m i).isSome = true) → wpAny P .any ops Q 3 (L5 fun _ => true) a w) :
    ∀ (n : Nat) (m : Nat → Option Nat) (a : Act) (w : World), left5 m = n → Inv5 val obj a0 w0 m a w → wpAny P .any ops Q (n + 3) (L5 fun j => (m j).isSome) a w
  | 0, m, a, w, hn, hI => by
    have hall : ∀ i ∈ five, (m i).isSome = true := by
      intro i hi
      have h0 : five.filter (fun i => (m i).isNone) = [] := List.eq_nil_of_length_eq_zero hn
      have := List.filter_eq_nil_iff.1 h0 i hi
      cases h : m i with
      | none => simp [h] at this
      | some b => rfl
    have e : (L5 fun j => (m j).isSome) = L5 fun _ => true := by
      simp only [L5, hall 2 (by decide), hall 5 (by decide), hall 8 (by decide), hall 9 (by decide), hall 10 (by decide)]
    rw [e]
    exact fin m a w hI hall
  | n + 1, m, a, w, hn, hI => by
    refine ⟨fun h => absurd h (hne _), fun i hi => ?_⟩
    rcases hrd _ i hi with ⟨h1, h2⟩ | h
    · have hm : m i = none := by
        cases h : m i with
        | none => rfl
        | some b => simp [h] at h2
      refine step i h1 _ a w hI.other ?_
      rw [L5_step (b := w.heap.size) h1]
      exact makers5 val obj a0 w0 hs hrd hne step fin n _ _ _ (by have := left5_step (b := w.heap.size) h1 hm; omega) (hI.step hs h1)
    · exfalso
      have : five.filter (fun i => (m i).isNone) = [] := List.filter_eq_nil_iff.2 fun j hj => by
        have := h j hj
        cases hj' : m j with
        | none => simp [hj'] at this
        | some b => simp
      unfold left5 at hn
      rw [this] at hn
      simp at hn

theorem yields_move {o : Oper} {a : Act} {t : Tmp} (hg : o.guard = none) (hop : o.op = .move (.tmp t)) : Yields P ops o (a.tmps.getD t undef) a :=
  .inl ⟨by simp [Region.wanted, hg], fun w => by simp [execOp, hop, Act.eval]⟩
theorem yields_len {o : Oper} {a : Act} {t : Tmp} {ty e : TypeId} {x : Option Addr} {n c : Nat} (hg : o.guard = none) (hop : o.op = .call { callee := .builtin .len, args := #[.tmp t], argTypes := #[ty] }) (hu : P.underlying ty = some (.slice e)) (ht : a.tmps.getD t undef = .slice x n c) : Yields P ops o (.int .i64 (n : Int)) a :=
  .inl ⟨by simp [Region.wanted, hg], fun w => by
    have ht' : a.tmps[t]?.getD undef = .slice x n c := by simpa [Array.getD_eq_getD_getElem?] using ht
    simp [execOp, hop, resolve, invoke, builtin, Builtin.len_, run_underlying hu, Act.eval, ht', goInt, Result.andThen]⟩
end
/-- a reading's cells, as the literal lays them -/
def CL (x y z u v : Value) : Array Value := #[.slice none 0 0, .slice none 0 0, .slice none 0 0, .map none, x, .slice none 0 0, y, .slice none 0 0, z, .slice none 0 0, u, .slice none 0 0, v, .int .i64 0, .pointer none, .slice none 0 0, .slice none 0 0, .slice none 0 0, .slice none 0 0, .slice none 0 0, .slice none 0 0, .slice none 0 0, .pointer none, .pointer none, .int .i64 0, .slice none 0 0, .slice none 0 0, .slice none 0 0]
theorem build96 (R E F U V n0 n1 n3 : Nat) (w : World) : (Instr.build 96 #[(3, .slice (some ⟨R, 0, none⟩) n0 n0), (5, .slice (some ⟨E, 0, none⟩) n1 n1), (7, .slice (some ⟨F, 0, none⟩) n3 n3), (9, .map (some U)), (11, .map (some V))]).run Try.prog w =
    .ok (.agg (CL (.slice (some ⟨R, 0, none⟩) n0 n0) (.slice (some ⟨E, 0, none⟩) n1 n1) (.slice (some ⟨F, 0, none⟩) n3 n3) (.map (some U)) (.map (some V)))) w := by
  kernel_rfl
theorem box96 (x y z u v : Value) (w : World) : (Instr.box 96 (.agg (CL x y z u v))).run Try.prog w = .ok (.pointer (some ⟨w.heap.size, 0, none⟩)) (w.alloc (.cells (CL x y z u v) 96)) := by
  kernel_rfl

section
variable {P : Program} {ops : Array Oper} {Q : Exit → Act → World → Prop}
theorem run_makeOp {o : Oper} {a : Act} {w w' : World} {t : TypeId} {l : Tmp} {x v : Value} (hop : o.op = .makeSlice t (.tmp l) (.tmp l)) (he : a.tmps[l]? = some x) (hr : (Instr.makeSlice t x x).run P w = .ok v w') : (execOp a.eval o).run P w = .ok (.value v) w' := by
  simp [execOp, hop, Act.eval, he, hr, Result.andThen]
theorem run_makeMapOp {o : Oper} {a : Act} {w : World} {t : TypeId} (hop : o.op = .makeMap t none) : (execOp a.eval o).run P w = .ok (.value (.map (some w.heap.size))) (w.alloc (.map #[] 0)) := by
  simp [execOp, hop, run_makeMap, Result.andThen]
/-- what may come up, at every state of the five: one closed fact -/
def readyB (ops : Array Oper) (b2 b5 b8 b9 b10 : Bool) : Bool :=
  ((Region.ready .any ops #[true, true, b2, true, true, b5, true, true, b8, b9, b10, false, false, false]).all fun i => (i == 2 && !b2) || (i == 5 && !b5) || (i == 8 && !b8) || (i == 9 && !b9) || (i == 10 && !b10) || (b2 && b5 && b8 && b9 && b10)) &&
  !(Region.ready .any ops #[true, true, b2, true, true, b5, true, true, b8, b9, b10, false, false, false]).isEmpty
def readyAll (ops : Array Oper) : Bool :=
  [false, true].all fun b2 => [false, true].all fun b5 => [false, true].all fun b8 => [false, true].all fun b9 => [false, true].all fun b10 => readyB ops b2 b5 b8 b9 b10
theorem readyB_of (H : readyAll ops = true) (b2 b5 b8 b9 b10 : Bool) : readyB ops b2 b5 b8 b9 b10 = true := by
  have mem : ∀ b : Bool, b ∈ [false, true] := by decide
  exact List.all_eq_true.1 (List.all_eq_true.1 (List.all_eq_true.1 (List.all_eq_true.1 (List.all_eq_true.1 H b2 (mem _)) b5 (mem _)) b8 (mem _)) b9 (mem _)) b10 (mem _)
theorem hrd_of (H : readyAll ops = true) :
    ∀ f : Nat → Bool, ∀ i ∈ Region.ready .any ops (L5 f), (i ∈ five ∧ f i = false) ∨ (∀ j ∈ five, f j = true) := by
  intro f i hi
  have h0 := readyB_of H (f 2) (f 5) (f 8) (f 9) (f 10)
  unfold readyB at h0
  rw [Bool.and_eq_true] at h0
  have h := List.all_eq_true.1 h0.1 i hi
  simp only [Bool.or_eq_true, Bool.and_eq_true, beq_iff_eq, Bool.not_eq_true'] at h
  rcases h with ((((⟨rfl, h⟩ | ⟨rfl, h⟩) | ⟨rfl, h⟩) | ⟨rfl, h⟩) | ⟨rfl, h⟩) | ⟨⟨⟨⟨h1, h2⟩, h3⟩, h4⟩, h5⟩
  · exact .inl ⟨by decide, h⟩
  · exact .inl ⟨by decide, h⟩
  · exact .inl ⟨by decide, h⟩
  · exact .inl ⟨by decide, h⟩
  · exact .inl ⟨by decide, h⟩
  · refine .inr fun j hj => ?_
    simp only [five, List.mem_cons, List.not_mem_nil, or_false] at hj
    rcases hj with rfl | rfl | rfl | rfl | rfl <;> assumption
theorem hne_of (H : readyAll ops = true) : ∀ f : Nat → Bool, Region.ready .any ops (L5 f) ≠ [] := by
  intro f h
  have h0 := readyB_of H (f 2) (f 5) (f 8) (f 9) (f 10)
  unfold readyB at h0
  rw [Bool.and_eq_true] at h0
  have e : Region.ready .any ops #[true, true, f 2, true, true, f 5, true, true, f 8, f 9, f 10, false, false, false] = [] := h
  rw [e] at h0
  exact absurd h0.2 (by decide)
theorem Inv5.act {val : Nat → Nat → Value} {obj : Nat → Obj} {a0 : Act} {w0 : World} {m : Nat → Option Nat} {a : Act} {w : World} (h : Inv5 val obj a0 w0 m a w) (hs : 32 < a0.tmps.size)
    {b2 b5 b8 b9 b10 : Nat} (h2 : m 2 = some b2) (h5 : m 5 = some b5) (h8 : m 8 = some b8) (h9 : m 9 = some b9) (h10 : m 10 = some b10) :
    a = ⟨((((a0.tmps.setIfInBounds 24 (val 2 b2)).setIfInBounds 27 (val 5 b5)).setIfInBounds 30 (val 8 b8)).setIfInBounds 31 (val 9 b9)).setIfInBounds 32 (val 10 b10), a0.defers⟩ := by
  have e2 := (h.made 2 (by decide) b2 h2).1
  have e5 := (h.made 5 (by decide) b5 h5).1
  have e8 := (h.made 8 (by decide) b8 h8).1
  have e9 := (h.made 9 (by decide) b9 h9).1
  have e10 := (h.made 10 (by decide) b10 h10).1
  have et : a.tmps = ((((a0.tmps.setIfInBounds 24 (val 2 b2)).setIfInBounds 27 (val 5 b5)).setIfInBounds 30 (val 8 b8)).setIfInBounds 31 (val 9 b9)).setIfInBounds 32 (val 10 b10) := by
    apply Array.ext_getElem?
    intro t
    by_cases t32 : t = 32
    · subst t32
      rw [Array.getElem?_setIfInBounds_self_of_lt (by simp; omega)]; exact e10
    rw [Array.getElem?_setIfInBounds_ne (Ne.symm t32)]
    by_cases t31 : t = 31
    · subst t31
      rw [Array.getElem?_setIfInBounds_self_of_lt (by simp; omega)]; exact e9
    rw [Array.getElem?_setIfInBounds_ne (Ne.symm t31)]
    by_cases t30 : t = 30
    · subst t30
      rw [Array.getElem?_setIfInBounds_self_of_lt (by simp; omega)]; exact e8
    rw [Array.getElem?_setIfInBounds_ne (Ne.symm t30)]
    by_cases t27 : t = 27
    · subst t27
      rw [Array.getElem?_setIfInBounds_self_of_lt (by simp; omega)]; exact e5
    rw [Array.getElem?_setIfInBounds_ne (Ne.symm t27)]
    by_cases t24 : t = 24
    · subst t24
      rw [Array.getElem?_setIfInBounds_self_of_lt (by omega)]; exact e2
    rw [Array.getElem?_setIfInBounds_ne (Ne.symm t24)]
    exact h.other t t24 t27 t30 t31 t32
  have ed := h.defers
  cases a
  simp only at et ed
  rw [et, ed]
theorem Inv5.start (val : Nat → Nat → Value) (obj : Nat → Obj) (a0 : Act) (w0 : World) : Inv5 val obj a0 w0 (fun _ => none) a0 w0 :=
  ⟨rfl, rfl, fun t _ _ _ _ _ => rfl, fun i _ b h => (by cases h), fun i _ j _ b h => (by cases h), Below.refl _ _⟩
/-- the beginning, all pure operations taken -/
theorem makers5_go (val : Nat → Nat → Value) (obj : Nat → Obj) (a0 : Act) (w0 : World) (listed : Array Bool) (hl : listed = L5 fun _ => false) (hs : 32 < a0.tmps.size) (H : readyAll ops = true)
    (step : ∀ i ∈ five, ∀ (K : Act → World → Prop) a w, (∀ t, t ≠ 24 → t ≠ 27 → t ≠ 30 → t ≠ 31 → t ≠ 32 → a.tmps[t]? = a0.tmps[t]?) → K (a.put (some (dst5 i)) (val i w.heap.size)) (w.alloc (obj i)) → wpOp P ops Q i K a w)
    (fin : ∀ m a w, Inv5 val obj a0 w0 m a w → (∀ i ∈ five, (m i).isSome = true) → ∀ L, L = (L5 fun _ => true) → wpAny P .any ops Q 3 L a w) : wpAny P .any ops Q 8 listed a0 w0 := by
  subst hl
  exact makers5 val obj a0 w0 hs (hrd_of H) (hne_of H) step (fun m a w h1 h2 => fin m a w h1 h2 _ rfl) 5 (fun _ => none) a0 w0 rfl (Inv5.start _ _ _ _)

/-- what is left of the region: the literal is built and boxed -/
theorem fin5 {val : Nat → Nat → Value} {a : Act} {w : World} {x y z u v : Value} (hs : 34 < a.tmps.size)
    (h11 : (Region.ready .any ops (L5 fun _ => true)) = [11]) (h12 : (Region.ready .any ops ((L5 fun _ => true).setIfInBounds 11 true)) = [12])
    (h13 : (Region.ready .any ops (((L5 fun _ => true).setIfInBounds 11 true).setIfInBounds 12 true)) = [13]) (h14 : (Region.ready .any ops ((((L5 fun _ => true).setIfInBounds 11 true).setIfInBounds 12 true).setIfInBounds 13 true)) = [])
    {o11 o12 o13 : Oper} (e11 : ops[11]? = some o11) (e12 : ops[12]? = some o12) (e13 : ops[13]? = some o13) (g11 : o11.guard = none) (g12 : o12.guard = none) (g13 : o13.guard = none)
    (r11 : (execOp a.eval o11).run P w = .ok (.value (.agg (CL x y z u v))) w) (d11 : o11.dst = some 33) (p12 : o12.op = .box 96 (.tmp 33)) (d12 : o12.dst = some 34) (p13 : o13.op = .assign (.tmp 34)) (d13 : o13.dst = some 15)
    (hbox : (Instr.box 96 (.agg (CL x y z u v))).run P w = .ok (.pointer (some ⟨w.heap.size, 0, none⟩)) (w.alloc (.cells (CL x y z u v) 96)))
    (h : Q .normal (((a.put (some 33) (.agg (CL x y z u v))).put (some 34) (.pointer (some ⟨w.heap.size, 0, none⟩))).put (some 15) (.pointer (some ⟨w.heap.size, 0, none⟩))) (w.alloc (.cells (CL x y z u v) 96))) :
    ∀ L, L = (L5 fun _ => true) → wpAny P .any ops Q 3 L a w := by
  rintro L rfl
  refine wpAny_all h11 (by decide) ?_
  intro i hi
  obtain rfl : i = 11 := by simpa using hi
  refine wpOp_run e11 g11 r11 ?_
  rw [d11]
  refine wpAny_all h12 (by decide) ?_
  intro i hi
  obtain rfl : i = 12 := by simpa using hi
  have s33 : (a.put (some 33) (.agg (CL x y z u v))).tmps[33]? = some (.agg (CL x y z u v)) := by
    simp only [Act.put]; exact Array.getElem?_setIfInBounds_self_of_lt (by omega)
  refine wpOp_run e12 g12 (v := .pointer (some ⟨w.heap.size, 0, none⟩)) (w' := w.alloc (.cells (CL x y z u v) 96)) (by simp [execOp, p12, Act.eval, s33, hbox, Result.andThen]) ?_
  rw [d12]
  refine wpAny_all h13 (by decide) ?_
  intro i hi
  obtain rfl : i = 13 := by simpa using hi
  have s34 : ((a.put (some 33) (.agg (CL x y z u v))).put (some 34) (.pointer (some ⟨w.heap.size, 0, none⟩))).tmps[34]? = some (.pointer (some ⟨w.heap.size, 0, none⟩)) := by
    simp only [Act.put]; exact Array.getElem?_setIfInBounds_self_of_lt (by simp; omega)
  refine wpOp_run e13 g13 (v := .pointer (some ⟨w.heap.size, 0, none⟩)) (w' := w.alloc (.cells (CL x y z u v) 96)) (by simp [execOp, p13, Act.eval, s34]) ?_
  rw [d13]
  exact wpAny_done h14 h _
theorem run_buildOp {o : Oper} {a : Act} (R E F U V n0 n1 n3 : Nat) (w : World) (hop : o.op = .build 96 #[(3, .tmp 24), (5, .tmp 27), (7, .tmp 30), (9, .tmp 31), (11, .tmp 32)])
    (e1 : a.tmps[24]? = some (.slice (some ⟨R, 0, none⟩) n0 n0)) (e2 : a.tmps[27]? = some (.slice (some ⟨E, 0, none⟩) n1 n1)) (e3 : a.tmps[30]? = some (.slice (some ⟨F, 0, none⟩) n3 n3)) (e4 : a.tmps[31]? = some (.map (some U))) (e5 : a.tmps[32]? = some (.map (some V))) :
    (execOp a.eval o).run Try.prog w = .ok (.value (.agg (CL (.slice (some ⟨R, 0, none⟩) n0 n0) (.slice (some ⟨E, 0, none⟩) n1 n1) (.slice (some ⟨F, 0, none⟩) n3 n3) (.map (some U)) (.map (some V))))) w := by
  have hb := build96 R E F U V n0 n1 n3 w
  simp [execOp, hop, Act.eval, e1, e2, e3, e4, e5, hb, Result.andThen]
end
end Go.Proofs.Qxb6616313a
