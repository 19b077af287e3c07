/- WHAT BOTH LAWS LEAN ON. -/
import Derived.Test.Qxb6616313aMade
import Derived.Outline
namespace Go.Proofs.Qxb6616313a
open Go.ChangeShapes Go.WideShapes Go.ChangeAt Go.RowKit
set_option linter.unusedVariables false

theorem cov_ext {xs ys : List Bool} (hl : xs.length = ys.length) (h : ∀ q, q < ys.length → (xs.getD q false = true ↔ ys.getD q false = true)) : xs = ys := by
  apply List.ext_getElem hl
  intro i h1 h2
  have := h i h2
  simp only [List.getD_eq_getElem?_getD, List.getElem?_eq_getElem h1, List.getElem?_eq_getElem h2, Option.getD_some] at this
  cases hx : xs[i] <;> cases hy : ys[i] <;> simp_all

theorem law5_own {KH KC us : List Int} {hd vb r : Bool} {cov cov' : List Bool} (F : Fits KH KC KH KC us hd vb cov r cov') : r = false ∧ cov' = cov := by
  have hr : r = false := by
    cases hd with
    | true => exact F.held rfl
    | false =>
      cases hr : r with
      | false => rfl
      | true => exact absurd (fun p hp => ⟨p, hp, rfl, rfl⟩) ((F.yes rfl).1 hr).2
  refine ⟨hr, cov_ext F.len fun q hq => ?_⟩
  rw [F.marks q hq, hr]
  simp

theorem getD_set_self {xs : List Int} {p : Nat} (v : Int) (h : p < xs.length) : (xs.set p v).getD p 0 = v := by simp [List.getD_eq_getElem?_getD, h]
theorem getD_set_ne {xs : List Int} {p q : Nat} (v : Int) (h : p ≠ q) : (xs.set p v).getD q 0 = xs.getD q 0 := by simp [List.getD_eq_getElem?_getD, List.getElem?_set_ne h]

/-- what covered must be at place q -/
def want5 (KH us : List Int) (hd vb : Bool) (cov : List Bool) (p q : Nat) : Bool := cov.getD q false || (!hd && vb && decide (q < KH.length) && !decide (q = p) && !hasB us (KH.getD q 0))
theorem law5_raised {KH KC us : List Int} {hd vb r : Bool} {cov cov' : List Bool} {p : Nat} {v : Int} (F : Fits KH KC KH (KC.set p v) us hd vb cov r cov') (hr : Rising KH) (hp : p < KH.length) (hl : KC.length = KH.length) (hv : KC.getD p 0 < v) :
    r = !hd ∧ cov'.length = cov.length ∧ ∀ q, q < cov.length → cov'.getD q false = want5 KH us hd vb cov p q := by
  have hsame : ∀ q, q < KH.length → (SameAt KH KC KH (KC.set p v) q ↔ ¬ q = p) := by
    intro q hq
    constructor
    · rintro ⟨i, h1, h2, h3⟩ e
      subst e
      have : i = q := hr.inj h1 hq h2
      subst this
      rw [getD_set_self v (by omega)] at h3
      omega
    · intro e
      exact ⟨q, hq, rfl, by rw [getD_set_ne v (Ne.symm e)]⟩
  have hbel : AtBelow KH KC KH (KC.set p v) := by
    intro i hi
    refine ⟨i, hi, rfl, ?_⟩
    by_cases e : p = i
    · subst e; rw [getD_set_self v (by omega)]; omega
    · rw [getD_set_ne v e]; exact Int.le_refl _
  have hnall : ¬ ∀ q, q < KH.length → SameAt KH KC KH (KC.set p v) q := fun hall => ((hsame p hp).1 (hall p hp)) rfl
  have hrr : r = !hd := by
    cases hd with
    | true => exact F.held rfl
    | false => exact (F.yes rfl).2 ⟨hbel, hnall⟩
  refine ⟨hrr, F.len, fun q hq => ?_⟩
  have hm := F.marks q hq
  rw [Bool.eq_iff_iff, hm]
  unfold want5
  simp only [Bool.or_eq_true, Bool.and_eq_true, Bool.not_eq_true', decide_eq_true_eq, decide_eq_false_iff_not, hasB, hrr]
  constructor
  · rintro (h | ⟨h1, h2, h3, h4, h5⟩)
    · exact .inl h
    · exact .inr ⟨⟨⟨⟨h1, h2⟩, h3⟩, (hsame q h3).1 h4⟩, h5⟩
  · rintro (h | ⟨⟨⟨⟨h1, h2⟩, h3⟩, h4⟩, h5⟩)
    · exact .inl h
    · exact .inr ⟨h1, h2, h3, (hsame q h3).2 h4, h5⟩

theorem okB_rising {hs cs : List Int} (h : okB hs cs = true) : Rising hs ∧ hs.length = cs.length := by
  have h2 := of_decide_eq_true h
  refine ⟨?_, h2.1⟩
  intro i j hij hj
  induction j with
  | zero => omega
  | succ j ih =>
    have b := (h2.2 (j + 1) hj).2 (by omega)
    simp only [Nat.add_sub_cancel] at b
    by_cases e : i = j
    · subst e; exact b
    · have := ih (by omega) (by omega); omega

theorem RowE.raise {w : World} {g : Nat} {T : TypeId} {n : Nat} {hs cs : List Int} (h : RowE w g T n hs cs n) (hn : hs.length = n) (hm : cs.length = n) {p : Nat} (hp : p < n) (v : Int) :
    RdE (w.setCell ⟨g, p * 2 + 1, none⟩ (.int .u64 v)) (some ⟨g, 0, none⟩) hs (cs.set p v) := by
  have hr := h.rd hn hm
  refine ⟨by rw [List.length_set]; exact hr.1, .inr ⟨g, 0, rfl, fun j hj => ?_⟩⟩
  rcases hr.2 with e | ⟨b, off, e, hc⟩
  · subst e; simp at hj
  · obtain ⟨rfl, rfl⟩ : g = b ∧ 0 = off := by simpa using e
    obtain ⟨c1, c2⟩ := hc j hj
    constructor
    · rw [cell_set_off _ _ (by show 0 + j * 2 ≠ p * 2 + 1; omega)]; exact c1
    · by_cases e : p = j
      · subst e
        rw [getD_set_self v (by omega)]
        have e0 : (⟨g, 0 + p * 2 + 1, none⟩ : Addr) = ⟨g, p * 2 + 1, none⟩ := by simp
        rw [e0] at c2 ⊢
        exact World.cell?_setCell_same _ _ _ c2
      · rw [getD_set_ne v e, cell_set_off _ _ (by show 0 + j * 2 + 1 ≠ p * 2 + 1; omega)]; exact c2

theorem vouch_facts {w w8 : World} {n0 n1 n3 l R E F U V ce k n6 : Nat} {ends hs cs fs uh rs : List Int} {xss : List (List Int)} {vs vs' : List (Option Addr × Nat × Nat)} {s t : Int}
    (HM : Made w n0 n1 n3 ends hs cs fs uh rs xss l R E F U V ce vs' w8) (HS : ShapeOK (k : Int) ends hs cs fs rs vs xss s t) (ri : Inner w vs xss) (hvq : ∀ j, j < n6 → (vs.getD j (none, 0, 0)).2.1 ≤ 1048576) (L7 : vs.length = n6) :
    ∃ vb pA q0 rr0 pB rB us, us = vlist fs rs xss k ∧ vouch fs rs vs' k = (vb, (pA, q0, rr0)) ∧ vouch fs rs vs k = (vb, (pB, q0, rB)) ∧ us.length = q0 ∧ q0 ≤ 1048576 ∧ q0 ≤ rr0 ∧ RdI w8 pA us ∧ RdI w pB us ∧
      (∀ x, pA = some x → x.block < w8.heap.size ∧ x.block ≠ l ∧ x.block ≠ ce) ∧ (vb = true → ndB us = true) := by
  obtain ⟨u1, u2⟩ := vouch_reads (fs := fs) k ri HS.lr
  obtain ⟨u3, u4⟩ := vouch_reads (fs := fs) k HM.inner HM.vlen.symm
  have hf := vouch_fst fs rs vs vs' k
  have hnd := HS.nd
  simp only [Int.toNat_natCast] at hnd
  have m1 := vouch_mem (fs := fs) k HS.lr.symm
  have m2 := vouch_mem (fs := fs) k HM.vlen
  generalize hva : vouch fs rs vs' k = va at hf u3 u4 m2
  generalize hvb : vouch fs rs vs k = vb at hf u1 u2 m1 hnd
  obtain ⟨f1, pA, q0, rr0⟩ := va
  obtain ⟨f2, pB, qB, rB⟩ := vb
  simp only at hf u1 u2 u3 u4 hnd
  subst hf
  have hqq : q0 = qB := u3.symm.trans u1
  subst hqq
  refine ⟨_, pA, q0, rr0, pB, rB, _, rfl, rfl, rfl, u1, ?_, ?_, u4, u2, ?_, hnd⟩
  · rcases m1 with h | h
    · have : q0 = 0 := by simpa using congrArg (fun z => z.2.1) h
      omega
    · obtain ⟨j, hj, e⟩ := mem_getD (none, 0, 0) h
      have := hvq j (by omega)
      rw [e] at this
      exact this
  · rcases m2 with h | h
    · have : q0 = 0 := by simpa using congrArg (fun z => z.2.1) h
      omega
    · exact (HM.caps _ h).1
  · intro x hx
    rcases m2 with h | h
    · have : pA = none := by simpa using congrArg (fun z => z.1) h
      rw [this] at hx; cases hx
    · exact (HM.caps _ h).2 x hx

theorem RowE.cellC {w : World} {g : Nat} {T : TypeId} {n : Nat} {hs cs : List Int} (h : RowE w g T n hs cs n) {p : Nat} (hp : p < n) : w.cell? ⟨g, p * 2 + 1, none⟩ = some (.int .u64 (cs.getD p 0)) := by
  obtain ⟨C, hC, hz, hj⟩ := h
  have := (hj p hp).2
  simpa [World.cell?, hC] using this
/-- a clone of covered, as fits meets it -/
theorem Own.cov {w : World} {B : Nat} {a : Option Addr} {cov : List Bool} (h : Own Value.bool 4 B w a cov) (hne : ¬ cov = []) : ∃ cv, B ≤ cv ∧ cv < w.heap.size ∧ CovRow w a cv cov := by
  rcases h with e | ⟨g, e, hg, hr⟩
  · exact absurd e hne
  · exact ⟨g, hg, heap_lt hr, .inr ⟨e, hr⟩⟩
theorem CovRow.rd {w : World} {a : Option Addr} {cv : Nat} {cov : List Bool} (h : CovRow w a cv cov) : RdO w a cov := by
  rcases h with e | ⟨e, hr⟩
  · exact .inl e
  · exact .inr ⟨cv, 0, e, fun j hj => by simp [World.cell?, hr, hj]⟩

def RLaw (w : World) (e : Ending) (w' : World) : Prop := e = .returned (.bool true) ∧ Below w.heap.size w w'
theorem RLaw.mk {w w' : World} (h : Below w.heap.size w w') : RLaw w (.returned (.bool true)) w' := ⟨rfl, h⟩
theorem Below_drewN {B : Nat} {a w : World} (h : Below B a w) (n : Nat) : Below B a (w.drewN n) := ⟨h.os, h.tape, h.output, h.size, h.block⟩

end Go.Proofs.Qxb6616313a
