/- THE PLAIN LAWS OF 'fits': no Go in sight. -/
import Derived.Test.Qxb6616313aFind
namespace Go.Proofs.Qxb6616313a
set_option linter.unusedVariables false

/-- every entry of the one clock is at or below the other's -/
def AtBelow (KH KC ch cc : List Int) : Prop := ∀ i, i < KH.length → ∃ p, p < ch.length ∧ ch.getD p 0 = KH.getD i 0 ∧ KC.getD i 0 ≤ cc.getD p 0
/-- place q of the clock c has the same count in k's clock -/
def SameAt (KH KC ch cc : List Int) (q : Nat) : Prop := ∃ i, i < KH.length ∧ KH.getD i 0 = ch.getD q 0 ∧ KC.getD i 0 = cc.getD q 0

/-- what 'fits' comes to -/
structure Fits (KH KC ch cc us : List Int) (hd vb : Bool) (cov : List Bool) (r : Bool) (cov' : List Bool) : Prop where
  held : hd = true → r = false
  yes : hd = false → (r = true ↔ AtBelow KH KC ch cc ∧ ¬ ∀ p, p < ch.length → SameAt KH KC ch cc p)
  len : cov'.length = cov.length
  marks : ∀ q, q < cov.length → (cov'.getD q false = true ↔ cov.getD q false = true ∨ (r = true ∧ vb = true ∧ q < ch.length ∧ SameAt KH KC ch cc q ∧ ¬ ch.getD q 0 ∈ us))

theorem Fits.no_held (KH KC ch cc us : List Int) (vb : Bool) (cov : List Bool) : Fits KH KC ch cc us true vb cov false cov :=
  ⟨fun _ => rfl, fun h => (by cases h), rfl, fun q hq => ⟨.inl, fun h => h.elim id (fun h => by cases h.1)⟩⟩
theorem Fits.no_below {KH KC ch cc : List Int} (us : List Int) (vb : Bool) (cov : List Bool) (h : ¬ AtBelow KH KC ch cc) : Fits KH KC ch cc us false vb cov false cov :=
  ⟨fun h => (by cases h), fun _ => ⟨fun h => (by cases h), fun h2 => absurd h2.1 h⟩, rfl, fun q hq => ⟨.inl, fun h => h.elim id (fun h => by cases h.1)⟩⟩
theorem Fits.no_full {KH KC ch cc : List Int} (us : List Int) (vb : Bool) (cov : List Bool) (h : ∀ p, p < ch.length → SameAt KH KC ch cc p) : Fits KH KC ch cc us false vb cov false cov :=
  ⟨fun h => (by cases h), fun _ => ⟨fun h => (by cases h), fun h2 => absurd h h2.2⟩, rfl, fun q hq => ⟨.inl, fun h => h.elim id (fun h => by cases h.1)⟩⟩
theorem Fits.yes_plain {KH KC ch cc : List Int} (us : List Int) (cov : List Bool) (h1 : AtBelow KH KC ch cc) (h2 : ¬ ∀ p, p < ch.length → SameAt KH KC ch cc p) : Fits KH KC ch cc us false false cov true cov :=
  ⟨fun h => (by cases h), fun _ => ⟨fun _ => ⟨h1, h2⟩, fun _ => rfl⟩, rfl, fun q hq => ⟨.inl, fun h => h.elim id (fun h => by cases h.2.1)⟩⟩
theorem Fits.yes_marks {KH KC ch cc us : List Int} {cov cov' : List Bool} (h1 : AtBelow KH KC ch cc) (h2 : ¬ ∀ p, p < ch.length → SameAt KH KC ch cc p) (hl : cov'.length = cov.length)
    (hm : ∀ q, q < cov.length → (cov'.getD q false = true ↔ cov.getD q false = true ∨ (q < ch.length ∧ SameAt KH KC ch cc q ∧ ¬ ch.getD q 0 ∈ us))) : Fits KH KC ch cc us false true cov true cov' :=
  ⟨fun h => (by cases h), fun _ => ⟨fun _ => ⟨h1, h2⟩, fun _ => rfl⟩, hl, fun q hq => (hm q hq).trans ⟨fun h => h.imp id (fun h => ⟨rfl, rfl, h⟩), fun h => h.imp id (fun h => h.2.2)⟩⟩

theorem Rising.lt_iff {xs : List Int} (h : Rising xs) {i j : Nat} (hi : i < xs.length) (hj : j < xs.length) : xs.getD i 0 < xs.getD j 0 ↔ i < j := by
  constructor
  · intro hlt
    by_cases e : i < j
    · exact e
    · by_cases e2 : i = j
      · subst e2; omega
      · have := h j i (by omega) hi; omega
  · intro hlt; exact h i j hlt hj
theorem Rising.inj {xs : List Int} (h : Rising xs) {i j : Nat} (hi : i < xs.length) (hj : j < xs.length) (e : xs.getD i 0 = xs.getD j 0) : i = j := by
  by_cases a : i < j
  · have := h i j a hj; omega
  · by_cases b : j < i
    · have := h j i b hi; omega
    · omega

/-- the first loop, behind i rounds -/
structure L1 (KH KC ch cc : List Int) (M n i lo : Nat) (sm : List Nat) : Prop where
  lo1 : lo ≤ M
  lo2 : ∀ j, j < lo → ∀ i', i ≤ i' → i' < n → ch.getD j 0 < KH.getD i' 0
  bel : ∀ i', i' < i → ∃ p, p < M ∧ ch.getD p 0 = KH.getD i' 0 ∧ KC.getD i' 0 ≤ cc.getD p 0
  mem : ∀ p, p ∈ sm ↔ p < M ∧ ∃ i', i' < i ∧ KH.getD i' 0 = ch.getD p 0 ∧ KC.getD i' 0 = cc.getD p 0
  inc : sm.Pairwise (· < ·)

section
variable {KH KC ch cc : List Int} {M n i lo p : Nat} {sm : List Nat}
theorem L1.start (KH KC ch cc : List Int) (M n : Nat) : L1 KH KC ch cc M n 0 0 [] :=
  ⟨Nat.zero_le _, fun j hj => by omega, fun i hi => by omega, fun p => ⟨fun h => by simp at h, fun ⟨_, i, hi, _⟩ => by omega⟩, List.Pairwise.nil⟩
theorem L1.pass (h : L1 KH KC ch cc M n i lo sm) (hM : ch.length = M) (hn : KH.length = n) (hc : Rising ch) (hk : Rising KH) (hi : i < n) (hp : p < M) (hlt : ∀ j, j < p → ch.getD j 0 < KH.getD i 0) (he : ch.getD p 0 = KH.getD i 0)
    (hv : KC.getD i 0 < cc.getD p 0) : L1 KH KC ch cc M n (i + 1) p sm := by
  refine ⟨by omega, fun j hj i' h1 h2 => ?_, fun i' h1 => ?_, fun q => ?_, h.inc⟩
  · have a := hlt j hj
    have b := hk i i' (by omega) (by omega)
    omega
  · by_cases e : i' = i
    · subst e; exact ⟨p, hp, he, by omega⟩
    · exact h.bel i' (by omega)
  · rw [h.mem q]
    constructor
    · rintro ⟨h1, i', h2, h3⟩; exact ⟨h1, i', by omega, h3⟩
    · rintro ⟨h1, i', h2, h3, h4⟩
      by_cases e : i' = i
      · subst e
        have : q = p := hc.inj (by omega) (by omega) (by omega)
        subst this; omega
      · exact ⟨h1, i', by omega, h3, h4⟩
theorem L1.hit (h : L1 KH KC ch cc M n i lo sm) (hM : ch.length = M) (hn : KH.length = n) (hc : Rising ch) (hk : Rising KH) (hi : i < n) (hp : p < M) (hlt : ∀ j, j < p → ch.getD j 0 < KH.getD i 0) (he : ch.getD p 0 = KH.getD i 0)
    (hv : KC.getD i 0 = cc.getD p 0) : L1 KH KC ch cc M n (i + 1) p (sm ++ [p]) := by
  refine ⟨by omega, fun j hj i' h1 h2 => ?_, fun i' h1 => ?_, fun q => ?_, ?_⟩
  · have a := hlt j hj
    have b := hk i i' (by omega) (by omega)
    omega
  · by_cases e : i' = i
    · subst e; exact ⟨p, hp, he, by omega⟩
    · exact h.bel i' (by omega)
  · rw [List.mem_append, h.mem q, List.mem_singleton]
    constructor
    · rintro (⟨h1, i', h2, h3⟩ | rfl)
      · exact ⟨h1, i', by omega, h3⟩
      · exact ⟨hp, i, by omega, he.symm, hv⟩
    · rintro ⟨h1, i', h2, h3, h4⟩
      by_cases e : i' = i
      · subst e
        exact .inr (hc.inj (by omega) (by omega) (by omega))
      · exact .inl ⟨h1, i', by omega, h3, h4⟩
  · rw [List.pairwise_append]
    refine ⟨h.inc, by simp, fun q hq x hx => ?_⟩
    obtain rfl : x = p := by simpa using hx
    obtain ⟨h1, i', h2, h3, _⟩ := (h.mem q).1 hq
    have := hk i' i h2 (by omega)
    exact (hc.lt_iff (by omega) (by omega)).1 (by omega)
theorem L1.lost (hM : ch.length = M) (hn : KH.length = n) (hc : Rising ch) (hi : i < n) (hlt : ∀ j, j < p → ch.getD j 0 < KH.getD i 0) (hge : ∀ j, p ≤ j → j < M → KH.getD i 0 ≤ ch.getD j 0) (hno : M ≤ p ∨ ¬ ch.getD p 0 = KH.getD i 0) : ¬ AtBelow KH KC ch cc := by
  intro hb
  obtain ⟨q, h1, h2, _⟩ := hb i (by omega)
  by_cases a : q < p
  · have := hlt q a; omega
  · rcases hno with e | e
    · omega
    · by_cases b : q = p
      · subst b; exact e h2
      · have h3 := hc p q (by omega) h1
        have h4 := hge p (Nat.le_refl _) (by omega)
        omega
theorem L1.over (hM : ch.length = M) (hn : KH.length = n) (hc : Rising ch) (hi : i < n) (hp : p < M) (he : ch.getD p 0 = KH.getD i 0) (hv : cc.getD p 0 < KC.getD i 0) : ¬ AtBelow KH KC ch cc := by
  intro hb
  obtain ⟨q, h1, h2, h3⟩ := hb i (by omega)
  have : q = p := hc.inj (by omega) (by omega) (by omega)
  subst this; omega

theorem inc_len : ∀ (sm : List Nat) (a b : Nat), sm.Pairwise (· < ·) → (∀ p ∈ sm, a ≤ p ∧ p < b) → sm.length ≤ b - a ∧ (sm.length = b - a → ∀ p, a ≤ p → p < b → p ∈ sm)
  | [], a, b, _, _ => ⟨by simp, fun h p h1 h2 => by simp at h; omega⟩
  | x :: xs, a, b, hp, hb => by
    obtain ⟨h1, h2⟩ := List.pairwise_cons.1 hp
    have hx := hb x (by simp)
    obtain ⟨ih1, ih2⟩ := inc_len xs (x + 1) b h2 (fun p hm => ⟨h1 p hm, (hb p (by simp [hm])).2⟩)
    refine ⟨by simp only [List.length_cons]; omega, fun hl p q1 q2 => ?_⟩
    simp only [List.length_cons] at hl
    by_cases e : p = x
    · simp [e]
    · exact List.mem_cons_of_mem _ (ih2 (by omega) p (by omega) q2)
theorem inc_full : ∀ (m a : Nat) (sm : List Nat), sm.Pairwise (· < ·) → (∀ p ∈ sm, a ≤ p) → (∀ p, a ≤ p → p < a + m → p ∈ sm) → m ≤ sm.length
  | 0, _, _, _, _, _ => Nat.zero_le _
  | m + 1, a, [], _, _, h => by have := h a (Nat.le_refl _) (by omega); simp at this
  | m + 1, a, x :: xs, hp, hb, h => by
    obtain ⟨h1, h2⟩ := List.pairwise_cons.1 hp
    have hxa : x = a := by
      have h3 := h a (Nat.le_refl _) (by omega)
      have h4 := hb x (by simp)
      rcases List.mem_cons.1 h3 with e | e
      · exact e.symm
      · have := h1 a e; omega
    subst hxa
    have := inc_full m (x + 1) xs h2 (fun p hm => h1 p hm) (fun p q1 q2 => by
      rcases List.mem_cons.1 (h p (by omega) (by omega)) with e | e
      · omega
      · exact e)
    simp only [List.length_cons]; omega
theorem L1.full_iff (h : L1 KH KC ch cc M n n lo sm) (hM : ch.length = M) (hn : KH.length = n) : sm.length = M ↔ ∀ p, p < ch.length → SameAt KH KC ch cc p := by
  constructor
  · intro hl p hp
    have := (inc_len sm 0 M h.inc (fun p hm => ⟨Nat.zero_le _, ((h.mem p).1 hm).1⟩)).2 (by omega) p (Nat.zero_le _) (by omega)
    obtain ⟨_, i', h1, h2⟩ := (h.mem p).1 this
    exact ⟨i', by omega, h2⟩
  · intro hall
    have h1 := (inc_len sm 0 M h.inc (fun p hm => ⟨Nat.zero_le _, ((h.mem p).1 hm).1⟩)).1
    have h2 := inc_full M 0 sm h.inc (fun p _ => Nat.zero_le _) (fun p _ hp => by
      obtain ⟨i', q1, q2⟩ := hall p (by omega)
      exact (h.mem p).2 ⟨by omega, i', by omega, q2⟩)
    omega
theorem L1.len_le (h : L1 KH KC ch cc M n i lo sm) : sm.length ≤ M := by
  have := (inc_len sm 0 M h.inc (fun p hm => ⟨Nat.zero_le _, ((h.mem p).1 hm).1⟩)).1
  omega
theorem L1.atBelow (h : L1 KH KC ch cc M n n lo sm) (hM : ch.length = M) (hn : KH.length = n) : AtBelow KH KC ch cc := fun i hi => by
  obtain ⟨p, h1, h2⟩ := h.bel i (by omega)
  exact ⟨p, by omega, h2⟩
theorem L1.mem_same (h : L1 KH KC ch cc M n n lo sm) (hM : ch.length = M) (hn : KH.length = n) (q : Nat) : q ∈ sm ↔ q < ch.length ∧ SameAt KH KC ch cc q := by
  rw [h.mem q]
  constructor
  · rintro ⟨h1, i', h2, h3⟩; exact ⟨by omega, i', by omega, h3⟩
  · rintro ⟨h1, i', h2, h3⟩; exact ⟨by omega, i', by omega, h3⟩
end
end Go.Proofs.Qxb6616313a
