/- THE PLAIN LAW OF THE PADDED ORDER: no Go in sight. -/
import Derived.Test.Qxb6616079aBase
namespace Go.Proofs.Qxb6616079a

/-- 'xs' is a proper prefix of 'ys' -/
def ppB (xs ys : List Int) : Bool := decide (xs.length < ys.length ∧ ∀ j, j < xs.length → xs.getD j 0 = ys.getD j 0)
/-- 'xs' with zeros behind it, to the length m -/
def pad (xs : List Int) (m : Nat) : List Int := xs ++ List.replicate (m - xs.length) 0

theorem pad_getD (xs : List Int) (m j : Nat) : (pad xs m).getD j 0 = xs.getD j 0 := by
  unfold pad
  simp only [List.getD_eq_getElem?_getD]
  by_cases h : j < xs.length
  · rw [List.getElem?_append_left h]
  · rw [List.getElem?_append_right (by omega), List.getElem?_eq_none (l := xs) (by omega), List.getElem?_replicate]
    split <;> rfl
theorem pad_length (xs : List Int) (m : Nat) (h : xs.length ≤ m) : (pad xs m).length = m := by
  simp [pad]; omega
theorem pad_bd (xs : List Int) (m : Nat) (h : ∀ n ∈ xs, 0 ≤ n ∧ n ≤ 255) : ∀ n ∈ pad xs m, 0 ≤ n ∧ n ≤ 255 := by
  intro n hn
  simp only [pad, List.mem_append, List.mem_replicate] at hn
  rcases hn with hn | ⟨_, rfl⟩
  · exact h n hn
  · omega

/-- the order that reads a missing byte as zero -/
def psign (xs ys : List Int) : Int := lex (pad xs (max xs.length ys.length)) (pad ys (max xs.length ys.length))

theorem psign_lt (k : Nat) (xs ys : List Int) (hk : k < xs.length ∨ k < ys.length) (he : ∀ j, j < k → xs.getD j 0 = ys.getD j 0) (h : xs.getD k 0 < ys.getD k 0) : psign xs ys = -1 := by
  unfold psign
  refine lex_lt k _ _ ?_ ?_ (fun j hj => by rw [pad_getD, pad_getD]; exact he j hj) (by rw [pad_getD, pad_getD]; exact h)
  · rw [pad_length _ _ (by omega)]; omega
  · rw [pad_length _ _ (by omega)]; omega
theorem psign_gt (k : Nat) (xs ys : List Int) (hk : k < xs.length ∨ k < ys.length) (he : ∀ j, j < k → xs.getD j 0 = ys.getD j 0) (h : ys.getD k 0 < xs.getD k 0) : psign xs ys = 1 := by
  unfold psign
  refine lex_gt k _ _ ?_ ?_ (fun j hj => by rw [pad_getD, pad_getD]; exact he j hj) (by rw [pad_getD, pad_getD]; exact h)
  · rw [pad_length _ _ (by omega)]; omega
  · rw [pad_length _ _ (by omega)]; omega
theorem psign_end (xs ys : List Int) (he : ∀ j, j < xs.length ∨ j < ys.length → xs.getD j 0 = ys.getD j 0) : psign xs ys = 0 := by
  unfold psign
  rw [lex_end]
  · rw [pad_length _ _ (by omega), pad_length _ _ (by omega)]
    simp
  · intro j h1 _
    rw [pad_length _ _ (by omega)] at h1
    rw [pad_getD, pad_getD]
    exact he j (by omega)

theorem first_diff (xs ys : List Int) : ∀ n, (∀ j, j < n → xs.getD j 0 = ys.getD j 0) ∨ ∃ k, k < n ∧ (∀ j, j < k → xs.getD j 0 = ys.getD j 0) ∧ xs.getD k 0 ≠ ys.getD k 0
  | 0 => .inl fun j hj => by omega
  | n + 1 => by
    rcases first_diff xs ys n with h | ⟨k, hk, h1, h2⟩
    · by_cases he : xs.getD n 0 = ys.getD n 0
      · refine .inl fun j hj => ?_
        by_cases hjn : j = n
        · subst hjn; exact he
        · exact h j (by omega)
      · exact .inr ⟨n, by omega, h, he⟩
    · exact .inr ⟨k, by omega, h1, h2⟩

/-- THE LAW: neither a proper prefix of the other: the plain order is the padded one. -/
theorem lex_psign (xs ys : List Int) (h1 : ppB xs ys = false) (h2 : ppB ys xs = false) : lex xs ys = psign xs ys := by
  have h1' := of_decide_eq_false h1
  have h2' := of_decide_eq_false h2
  rcases first_diff xs ys (min xs.length ys.length) with h | ⟨k, hk, he, hne⟩
  · have hl : xs.length = ys.length := by
      by_cases a : xs.length < ys.length
      · exact absurd ⟨a, fun j hj => h j (by omega)⟩ h1'
      · by_cases b : ys.length < xs.length
        · exact absurd ⟨b, fun j hj => (h j (by omega)).symm⟩ h2'
        · omega
    rw [psign_end xs ys (fun j hj => h j (by omega)), lex_end xs ys (fun j a b => h j (by omega))]
    simp [hl]
  · by_cases hlt : xs.getD k 0 < ys.getD k 0
    · rw [psign_lt k xs ys (by omega) he hlt, lex_lt k xs ys (by omega) (by omega) he hlt]
    · have hgt : ys.getD k 0 < xs.getD k 0 := by omega
      rw [psign_gt k xs ys (by omega) he hgt, lex_gt k xs ys (by omega) (by omega) he hgt]

theorem ppB_no_len (xs ys : List Int) (h : ¬ xs.length < ys.length) : ppB xs ys = false := decide_eq_false fun a => h a.1
theorem ppB_no (xs ys : List Int) (k : Nat) (hk : k < xs.length) (h : ¬ xs.getD k 0 = ys.getD k 0) : ppB xs ys = false := decide_eq_false fun a => h (a.2 k hk)
theorem ppB_yes (xs ys : List Int) (h0 : xs.length < ys.length) (h : ∀ j, j < xs.length → xs.getD j 0 = ys.getD j 0) : ppB xs ys = true := decide_eq_true ⟨h0, h⟩

/-- the row that zzPad has filled up to k -/
theorem pad_step (xs : List Int) (m k : Nat) (hk : k < xs.length) (hm : xs.length ≤ m) : (pad (xs.take k) m).set k (xs.getD k 0) = pad (xs.take (k + 1)) m := by
  apply List.ext_getElem
  · simp [pad]; omega
  · intro i h1 h2
    have e : ∀ (l : List Int) (h : i < l.length), l[i] = l.getD i 0 := fun l h => by simp [h]
    rw [List.getElem_set]
    by_cases hi : k = i
    · subst hi
      rw [if_pos rfl, e _ h2, pad_getD]
      simp
    · rw [if_neg hi, e _ (by simpa using h1), e _ h2, pad_getD, pad_getD]
      simp only [List.getD_eq_getElem?_getD, List.getElem?_take]
      by_cases h3 : i < k
      · rw [if_pos h3, if_pos (by omega)]
      · rw [if_neg h3, if_neg (by omega)]
theorem pad_zero (xs : List Int) (m : Nat) : pad (xs.take 0) m = List.replicate m 0 := by simp [pad]
theorem pad_all (xs : List Int) (m : Nat) : pad (xs.take xs.length) m = pad xs m := by simp
end Go.Proofs.Qxb6616079a
