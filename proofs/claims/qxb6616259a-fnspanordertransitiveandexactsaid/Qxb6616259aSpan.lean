/- A SPAN THAT CAME IN, OPENED AS FAR AS THE LAWS READ IT; THE ORDER'S PLAIN LAWS. -/
import Derived.Test.Qxb6616259aBase
import Derived.ChangeOld
import Derived.Below
namespace Go.Proofs.Qxb6616259a
open Go.ChangeShapes Go.WideShapes Go.ChangeAt Go.RowKit
set_option linter.unusedVariables false
theorem own : ownKnob Try.prog.godebug = none := by kernel_rfl
theorem laidOut : laidOutB Try.prog = true := by kernel_rfl
theorem cells59 : Try.prog.cellsOf 59 = 18 := by kernel_rfl
theorem cells57 : Try.prog.cellsOf 57 = 7 := by kernel_rfl
theorem cells9 : Try.prog.cellsOf 9 = 1 := by kernel_rfl
theorem cells2 : Try.prog.cellsOf 2 = 1 := by kernel_rfl
theorem cells40 : Try.prog.cellsOf 40 = 1 := by kernel_rfl
theorem cells55 : Try.prog.cellsOf 55 = 1 := by kernel_rfl

theorem cell_of {cs : List Value} {o : Nat} {v : Value} (h : (cs.drop o).take 1 = [v]) : cs[o]? = some v := by
  have : ((cs.drop o).take 1)[0]? = some v := by rw [h]; rfl
  simpa [List.getElem?_take, List.getElem?_drop] using this

section
variable {H : Type} {enc : TypeId × Value → H} {W : World} {base : Nat} {spare : Nat → Bool} {held : Bool}

theorem string_at {n o : Nat} {cs : List Value} {x : DataW H × List MemPlace} (h : DataW.trod enc Try.prog W base spare held n 9 ((cs.drop o).take 1) = some x) :
    ∃ s : ByteArray, cs[o]? = some (.string s) ∧ s.size ≤ 9223372036854775807 := by
  obtain ⟨s, e, _, hs⟩ := DataW.trod_string Try.underlying9 h
  exact ⟨s, cell_of e, by unfold maxLen at hs; omega⟩
theorem slice_at {n o : Nat} {t e : TypeId} (hu : Try.prog.underlying t = some (.slice e)) {cs : List Value} {x : DataW H × List MemPlace} (h : DataW.trod enc Try.prog W base spare held n t ((cs.drop o).take 1) = some x) :
    ∃ a l c, cs[o]? = some (.slice a l c) ∧ l ≤ 9223372036854775807 := by
  rcases DataW.trod_slice hu h with ⟨e, _⟩ | ⟨a, len, cap, _, _, _, _, e, _, _, hl, hc, _⟩
  · exact ⟨none, 0, 0, cell_of e, by omega⟩
  · exact ⟨some a, len, cap, cell_of e, by unfold maxLen at hc; omega⟩

theorem some_of {α : Type} {xs : List α} {i n : Nat} (hl : xs.length = n) (hi : i < n) : ∃ y, xs[i]? = some y := ⟨xs[i], List.getElem?_eq_getElem (by omega)⟩

/-- what the walk is told of a span's pointer: it is nil, or leads to a span -/
def IsSpan (w : World) (a : Option Addr) : Prop := a = none ∨ ∃ b o t s, a = some ⟨b, o, none⟩ ∧ SpanAt w b o t s

theorem open_span {v : Value} {d : DataW H} {p : List MemPlace} {r : Reach} {b0 : Nat} (hval : Value.okWide Try.prog W r b0 48 v) (h : DataW.Trod enc Try.prog W base spare held 48 v d p) :
    ∃ a, v = .pointer a ∧ IsSpan W a := by
  rcases ChangeShapes.open_ptr Try.underlying48 (by rw [cells59]; omega) hval h with ⟨rfl, _, _⟩ | ⟨b, off, cs, y, fuel, rfl, _, _, hlen, hcell, hy⟩
  · exact ⟨none, rfl, .inl rfl⟩
  · refine ⟨_, rfl, .inr ?_⟩
    rw [cells59] at hlen hcell
    obtain ⟨xs, n, _, _, _, hxl, hf⟩ := DataW.trod_struct Try.underlying59 hy
    have hxl' : xs.length = 12 := hxl
    obtain ⟨y0, e0⟩ := some_of (i := 0) hxl' (by omega)
    obtain ⟨y1, e1⟩ := some_of (i := 1) hxl' (by omega)
    obtain ⟨y2, e2⟩ := some_of (i := 2) hxl' (by omega)
    obtain ⟨y3, e3⟩ := some_of (i := 3) hxl' (by omega)
    obtain ⟨y4, e4⟩ := some_of (i := 4) hxl' (by omega)
    obtain ⟨y6, e6⟩ := some_of (i := 6) hxl' (by omega)
    obtain ⟨y8, e8⟩ := some_of (i := 8) hxl' (by omega)
    obtain ⟨y9, e9⟩ := some_of (i := 9) hxl' (by omega)
    obtain ⟨y10, e10⟩ := some_of (i := 10) hxl' (by omega)
    obtain ⟨y11, e11⟩ := some_of (i := 11) hxl' (by omega)
    have f0 : DataW.trod enc Try.prog W base spare held n 9 ((cs.drop 0).take (Try.prog.cellsOf 9)) = xs[0]? := hf 0 _ rfl
    rw [cells9, e0] at f0
    have f1 : DataW.trod enc Try.prog W base spare held n 9 ((cs.drop 1).take (Try.prog.cellsOf 9)) = xs[1]? := hf 1 _ rfl
    rw [cells9, e1] at f1
    have f2 : DataW.trod enc Try.prog W base spare held n 9 ((cs.drop 2).take (Try.prog.cellsOf 9)) = xs[2]? := hf 2 _ rfl
    rw [cells9, e2] at f2
    have f3 : DataW.trod enc Try.prog W base spare held n 9 ((cs.drop 3).take (Try.prog.cellsOf 9)) = xs[3]? := hf 3 _ rfl
    rw [cells9, e3] at f3
    have f4 : DataW.trod enc Try.prog W base spare held n 9 ((cs.drop 4).take (Try.prog.cellsOf 9)) = xs[4]? := hf 4 _ rfl
    rw [cells9, e4] at f4
    have f6 : DataW.trod enc Try.prog W base spare held n 2 ((cs.drop 6).take (Try.prog.cellsOf 2)) = xs[6]? := hf 6 _ rfl
    rw [cells2, e6] at f6
    have f8 : DataW.trod enc Try.prog W base spare held n 40 ((cs.drop 8).take (Try.prog.cellsOf 40)) = xs[8]? := hf 8 _ rfl
    rw [cells40, e8] at f8
    have f9 : DataW.trod enc Try.prog W base spare held n 40 ((cs.drop 9).take (Try.prog.cellsOf 40)) = xs[9]? := hf 9 _ rfl
    rw [cells40, e9] at f9
    have f10 : DataW.trod enc Try.prog W base spare held n 9 ((cs.drop 10).take (Try.prog.cellsOf 9)) = xs[10]? := hf 10 _ rfl
    rw [cells9, e10] at f10
    have f11 : DataW.trod enc Try.prog W base spare held n 57 ((cs.drop 11).take (Try.prog.cellsOf 57)) = xs[11]? := hf 11 _ rfl
    rw [cells57, e11] at f11
    obtain ⟨s0, g0, z0⟩ := string_at f0
    obtain ⟨s1, g1, z1⟩ := string_at f1
    obtain ⟨s2, g2, z2⟩ := string_at f2
    obtain ⟨s3, g3, z3⟩ := string_at f3
    obtain ⟨s4, g4, z4⟩ := string_at f4
    obtain ⟨t, g6, _, _⟩ := DataW.trod_int Try.underlying2 f6
    obtain ⟨a8, l8, k8, g8, z8⟩ := slice_at Try.underlying40 f8
    obtain ⟨a9, l9, k9, g9, z9⟩ := slice_at Try.underlying40 f9
    obtain ⟨s10, g10, z10⟩ := string_at f10
    obtain ⟨us, m, _, _, _, hul, uf⟩ := DataW.trod_struct Try.underlying57 f11
    have hul' : us.length = 7 := hul
    obtain ⟨u0, ue⟩ := some_of (i := 0) hul' (by omega)
    have v0 : DataW.trod enc Try.prog W base spare held m 55 ((((cs.drop 11).take 7).drop 0).take (Try.prog.cellsOf 55)) = us[0]? := uf 0 _ rfl
    rw [cells55, ue] at v0
    obtain ⟨a11, l11, k11, g11, z11⟩ := slice_at Try.underlying55 v0
    have g11' : cs[11]? = some (.slice a11 l11 k11) := by
      simpa [List.getElem?_take, List.getElem?_drop] using g11
    refine ⟨b, off, t, s1, rfl, ?_⟩
    exact ⟨by rw [hcell 6 (by omega)]; exact cell_of g6, by rw [hcell 1 (by omega)]; exact g1, z1, ⟨s0, by rw [← g0]; exact hcell 0 (by omega), z0⟩,
      ⟨s2, by rw [hcell 2 (by omega)]; exact g2, z2⟩, ⟨s3, by rw [hcell 3 (by omega)]; exact g3, z3⟩, ⟨s4, by rw [hcell 4 (by omega)]; exact g4, z4⟩,
      ⟨a8, l8, k8, by rw [hcell 8 (by omega)]; exact g8, z8⟩, ⟨a9, l9, k9, by rw [hcell 9 (by omega)]; exact g9, z9⟩, ⟨s10, by rw [hcell 10 (by omega)]; exact g10, z10⟩,
      ⟨a11, l11, k11, by rw [hcell 11 (by omega)]; exact g11', z11⟩⟩
end

theorem block_lt {w : World} {p : Addr} {v : Value} (h : w.cell? p = some v) : p.block < w.heap.size := by
  by_cases hb : p.block < w.heap.size
  · exact hb
  · have e : w.heap[p.block]? = none := Array.getElem?_eq_none (by omega)
    simp [World.cell?, e] at h

theorem below_some {w w' : World} (hb : Below w.heap.size w w') {p : Addr} {v : Value} (h : w.cell? p = some v) : w'.cell? p = some v := by
  rw [hb.cell (block_lt h)]; exact h

/-! ### the order's plain laws -/
def ord (t : Int) (s : ByteArray) (t' : Int) (s' : ByteArray) : Int := orI (sgn t t') (cb s s')
theorem sgn_anti (x y : Int) : sgn y x = - sgn x y := by
  unfold sgn
  by_cases h : x < y
  · rw [if_pos h, if_neg (by omega), if_pos h]; rfl
  · by_cases h2 : y < x
    · rw [if_pos h2, if_neg h, if_pos h2]
    · rw [if_neg h2, if_neg h, if_neg h, if_neg h2]; rfl
theorem cb_anti (s s' : ByteArray) : cb s' s = - cb s s' := cbl_anti _ _
theorem ord_anti (t : Int) (s : ByteArray) (t' : Int) (s' : ByteArray) : ord t' s' t s = - ord t s t' s' := by
  unfold ord orI
  rw [sgn_anti t t', cb_anti s s']
  by_cases h : sgn t t' = 0
  · rw [if_pos h, if_pos (by omega)]
  · rw [if_neg h, if_neg (by omega)]
theorem sgn_bd (x y : Int) : -1 ≤ sgn x y ∧ sgn x y ≤ 1 := by
  unfold sgn
  split
  · omega
  · split <;> omega
theorem cbl_bd : ∀ xs ys : List UInt8, -1 ≤ Lib.compareBytes xs ys ∧ Lib.compareBytes xs ys ≤ 1
  | [], [] => by simp [Lib.compareBytes]
  | [], _ :: _ => by simp [Lib.compareBytes]
  | _ :: _, [] => by simp [Lib.compareBytes]
  | x :: xs, y :: ys => by
    have := cbl_bd xs ys
    unfold Lib.compareBytes
    split
    · omega
    · split
      · omega
      · exact this
theorem ord_bd (t : Int) (s : ByteArray) (t' : Int) (s' : ByteArray) : -1 ≤ ord t s t' s' ∧ ord t s t' s' ≤ 1 := by
  unfold ord orI
  split
  · exact cbl_bd _ _
  · exact sgn_bd _ _

/-- the order of byte strings is transitive: weakly, and strictly where one of the two is strict -/
theorem cbl_trans : ∀ xs ys zs : List UInt8, Lib.compareBytes xs ys ≤ 0 → Lib.compareBytes ys zs ≤ 0 →
    Lib.compareBytes xs zs ≤ 0 ∧ (Lib.compareBytes xs ys < 0 ∨ Lib.compareBytes ys zs < 0 → Lib.compareBytes xs zs < 0)
  | [], ys, [], h1, h2 => by
    cases ys with
    | nil => simp [Lib.compareBytes]
    | cons y ys => simp [Lib.compareBytes] at h2
  | [], _, z :: zs, _, _ => by simp [Lib.compareBytes]
  | x :: xs, [], _, h1, _ => by simp [Lib.compareBytes] at h1
  | x :: xs, y :: ys, [], _, h2 => by simp [Lib.compareBytes] at h2
  | x :: xs, y :: ys, z :: zs, h1, h2 => by
    unfold Lib.compareBytes at h1 h2 ⊢
    by_cases hxy : x < y
    · by_cases hyz : y < z
      · have hxz : x < z := UInt8.lt_trans hxy hyz
        simp [hxz]
      · by_cases hzy : z < y
        · simp [hyz, hzy] at h2
        · have e : y = z := UInt8.le_antisymm (UInt8.not_lt.1 hzy) (UInt8.not_lt.1 hyz)
          subst e
          simp [hxy]
    · by_cases hyx : y < x
      · simp [hxy, hyx] at h1
      · have e : x = y := UInt8.le_antisymm (UInt8.not_lt.1 hyx) (UInt8.not_lt.1 hxy)
        subst e
        have hxx : ¬ x < x := UInt8.lt_irrefl x
        simp only [hxx, if_false] at h1 ⊢
        by_cases hxz : x < z
        · simp [hxz]
        · by_cases hzx : z < x
          · simp [hxz, hzx] at h2
          · simp only [hxz, hzx, if_false] at h2 ⊢
            exact cbl_trans xs ys zs h1 h2

theorem sgn_cases (x y : Int) : (x < y ∧ sgn x y = -1) ∨ (y < x ∧ sgn x y = 1) ∨ (x = y ∧ sgn x y = 0) := by
  unfold sgn
  by_cases h : x < y
  · exact .inl ⟨h, if_pos h⟩
  · by_cases h2 : y < x
    · exact .inr (.inl ⟨h2, by rw [if_neg h, if_pos h2]⟩)
    · exact .inr (.inr ⟨by omega, by rw [if_neg h, if_neg h2]⟩)
theorem ord_cases (t : Int) (s : ByteArray) (t' : Int) (s' : ByteArray) : (t < t' ∧ ord t s t' s' = -1) ∨ (t' < t ∧ ord t s t' s' = 1) ∨ (t = t' ∧ ord t s t' s' = cb s s') := by
  unfold ord orI
  rcases sgn_cases t t' with ⟨h, e⟩ | ⟨h, e⟩ | ⟨h, e⟩
  · exact .inl ⟨h, by rw [e]; rfl⟩
  · exact .inr (.inl ⟨h, by rw [e]; rfl⟩)
  · exact .inr (.inr ⟨h, by rw [e]; rfl⟩)
theorem ord_trans (t : Int) (s : ByteArray) (t' : Int) (s' : ByteArray) (t'' : Int) (s'' : ByteArray) (h1 : ord t s t' s' ≤ 0) (h2 : ord t' s' t'' s'' ≤ 0) :
    ord t s t'' s'' ≤ 0 ∧ (ord t s t' s' < 0 ∨ ord t' s' t'' s'' < 0 → ord t s t'' s'' < 0) := by
  have hc := cbl_trans s.data.toList s'.data.toList s''.data.toList
  change cb s s' ≤ 0 → cb s' s'' ≤ 0 → cb s s'' ≤ 0 ∧ (cb s s' < 0 ∨ cb s' s'' < 0 → cb s s'' < 0) at hc
  rcases ord_cases t s t' s' with ⟨a, e⟩ | ⟨a, e⟩ | ⟨a, e⟩ <;> rcases ord_cases t' s' t'' s'' with ⟨b, f⟩ | ⟨b, f⟩ | ⟨b, f⟩ <;> rcases ord_cases t s t'' s'' with ⟨c, g⟩ | ⟨c, g⟩ | ⟨c, g⟩ <;> rw [e] at h1 ⊢ <;> rw [f] at h2 ⊢ <;> rw [g] <;> first | omega | exact hc h1 h2
end Go.Proofs.Qxb6616259a
