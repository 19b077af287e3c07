/- THE MARKING LOOP OF fits: plain laws. -/
import Derived.Test.Qxb6616313aPlain
import Derived.Test.Qxb6616313aTests
namespace Go.Proofs.Qxb6616313a
set_option linter.unusedVariables false
theorem ndB_mono {us : List Int} (h : ndB us = true) : ∀ i j, i ≤ j → j < us.length → us.getD i 0 ≤ us.getD j 0 := by
  have h2 := of_decide_eq_true h
  intro i j hij hj
  induction j with
  | zero => have : i = 0 := by omega
            subst this; exact Int.le_refl _
  | succ j ih =>
    by_cases e : i = j + 1
    · subst e; exact Int.le_refl _
    · have a := ih (by omega) (by omega)
      have b := h2 (j + 1) hj (by omega)
      simp only [Nat.add_sub_cancel] at b
      omega

/-- the marking loop, behind j rounds -/
structure L2 (ch us : List Int) (sm : List Nat) (cov cov' : List Bool) (j d : Nat) : Prop where
  len : cov'.length = cov.length
  marks : ∀ q, q < cov.length → (cov'.getD q false = true ↔ cov.getD q false = true ∨ ∃ t, t < j ∧ sm.getD t 0 = q ∧ ¬ ch.getD q 0 ∈ us)
  past : ∀ t, t < d → ∀ j', j ≤ j' → j' < sm.length → us.getD t 0 < ch.getD (sm.getD j' 0) 0

section
variable {KH KC ch cc us : List Int} {M n lo : Nat} {sm : List Nat} {cov cov' : List Bool} {j d d2 at_ : Nat}
theorem L2.start (ch us : List Int) (sm : List Nat) (cov : List Bool) : L2 ch us sm cov cov 0 0 :=
  ⟨rfl, fun q hq => ⟨.inl, fun h => h.elim id (fun ⟨t, ht, _⟩ => by omega)⟩, fun t ht => by omega⟩
theorem inc_getD : ∀ {sm : List Nat}, sm.Pairwise (· < ·) → ∀ i j, i < j → j < sm.length → sm.getD i 0 < sm.getD j 0 := by
  intro sm h i j hij hj
  rw [List.pairwise_iff_getElem] at h
  have := h i j (by omega) hj hij
  simpa [List.getD_eq_getElem?_getD, List.getElem?_eq_getElem hj, List.getElem?_eq_getElem (show i < sm.length by omega)] using this
theorem L2.next_past (hinc : sm.Pairwise (· < ·)) (hb : ∀ p ∈ sm, p < ch.length) (hc : Rising ch) (hj : j < sm.length) (hat : sm.getD j 0 = at_) (hp : ∀ t, t < d2 → us.getD t 0 < ch.getD at_ 0) :
    ∀ t, t < d2 → ∀ j', j + 1 ≤ j' → j' < sm.length → us.getD t 0 < ch.getD (sm.getD j' 0) 0 := by
  intro t ht j' h1 h2
  have a := hp t ht
  have b := inc_getD hinc j j' (by omega) h2
  have c := hb _ (getD_mem (d := 0) h2)
  have e := hc (sm.getD j 0) (sm.getD j' 0) b c
  rw [hat] at e
  omega
theorem L2.mark (h : L2 ch us sm cov cov' j d) (hinc : sm.Pairwise (· < ·)) (hb : ∀ p ∈ sm, p < ch.length) (hc : Rising ch) (hj : j < sm.length) (hat : sm.getD j 0 = at_) (hlen : at_ < cov.length)
    (hp : ∀ t, t < d2 → us.getD t 0 < ch.getD at_ 0) (hmono : ∀ i j, i ≤ j → j < us.length → us.getD i 0 ≤ us.getD j 0) (hno : us.length ≤ d2 ∨ ch.getD at_ 0 < us.getD d2 0) :
    L2 ch us sm cov (cov'.set at_ true) (j + 1) d2 := by
  have hnot : ¬ ch.getD at_ 0 ∈ us := by
    intro hm
    obtain ⟨x, hx, he⟩ := mem_getD 0 hm
    by_cases e : x < d2
    · have := hp x e; omega
    · rcases hno with h1 | h1
      · omega
      · have := hmono d2 x (by omega) hx; omega
  refine ⟨by rw [List.length_set]; exact h.len, fun q hq => ?_, L2.next_past hinc hb hc hj hat hp⟩
  by_cases e : q = at_
  · subst e
    constructor
    · intro _; exact .inr ⟨j, by omega, hat, hnot⟩
    · intro _
      have := h.len
      simp [List.getD_eq_getElem?_getD, show q < cov'.length by omega]
  · have : (cov'.set at_ true).getD q false = cov'.getD q false := by
      simp [List.getD_eq_getElem?_getD, List.getElem?_set_ne (Ne.symm e)]
    rw [this, h.marks q hq]
    constructor
    · rintro (h1 | ⟨t, h1, h2⟩)
      · exact .inl h1
      · exact .inr ⟨t, by omega, h2⟩
    · rintro (h1 | ⟨t, h1, h2, h3⟩)
      · exact .inl h1
      · by_cases et : t = j
        · subst et; exact absurd (h2.symm.trans hat) e
        · exact .inr ⟨t, by omega, h2, h3⟩
theorem L2.skip (h : L2 ch us sm cov cov' j d) (hinc : sm.Pairwise (· < ·)) (hb : ∀ p ∈ sm, p < ch.length) (hc : Rising ch) (hj : j < sm.length) (hat : sm.getD j 0 = at_)
    (hp : ∀ t, t < d2 → us.getD t 0 < ch.getD at_ 0) (hd : d2 < us.length) (he : us.getD d2 0 = ch.getD at_ 0) :
    L2 ch us sm cov cov' (j + 1) d2 := by
  have hin : ch.getD at_ 0 ∈ us := he ▸ getD_mem hd
  refine ⟨h.len, fun q hq => ?_, L2.next_past hinc hb hc hj hat hp⟩
  rw [h.marks q hq]
  constructor
  · rintro (h1 | ⟨t, h1, h2⟩)
    · exact .inl h1
    · exact .inr ⟨t, by omega, h2⟩
  · rintro (h1 | ⟨t, h1, h2, h3⟩)
    · exact .inl h1
    · by_cases et : t = j
      · subst et
        have : q = at_ := h2.symm.trans hat
        subst this
        exact absurd hin h3
      · exact .inr ⟨t, by omega, h2, h3⟩
theorem L2.done (h : L2 ch us sm cov cov' j d) (hj : sm.length = j) (h1 : L1 KH KC ch cc M n n lo sm) (hM : ch.length = M) (hn : KH.length = n) (hfull : ¬ sm.length = M) : Fits KH KC ch cc us false true cov true cov' := by
  refine Fits.yes_marks (h1.atBelow hM hn) (fun hall => hfull ((h1.full_iff hM hn).2 hall)) h.len (fun q hq => ?_)
  rw [h.marks q hq]
  constructor
  · rintro (a | ⟨t, a, b, c⟩)
    · exact .inl a
    · have := (h1.mem_same hM hn q).1 (b ▸ getD_mem (by omega))
      exact .inr ⟨this.1, this.2, c⟩
  · rintro (a | ⟨a, b, c⟩)
    · exact .inl a
    · obtain ⟨t, e1, e2⟩ := mem_getD 0 ((h1.mem_same hM hn q).2 ⟨a, b⟩)
      exact .inr ⟨t, by omega, e2, c⟩
end
end Go.Proofs.Qxb6616313a
