/- THE CONTRACTS OF zzHas, zzNondecreasing, zzClockOK, zzVouched. -/
import Derived.Test.Qxb6616313aSizes
namespace Go.Proofs.Qxb6616313a
open Go.ChangeShapes Go.WideShapes Go.ChangeAt Go.RowKit
set_option linter.unusedVariables false

abbrev RdI (w : World) (a : Option Addr) (xs : List Int) : Prop := RdG (Value.int .i64) 0 w a xs
abbrev RdU (w : World) (a : Option Addr) (xs : List Int) : Prop := RdG (Value.int .u64) 0 w a xs
abbrev Rd8 (w : World) (a : Option Addr) (xs : List Int) : Prop := RdG (Value.int .u8) 0 w a xs
abbrev RdO (w : World) (a : Option Addr) (xs : List Bool) : Prop := RdG Value.bool false w a xs

theorem getD_mem {α : Type} {xs : List α} {k : Nat} {d : α} (h : k < xs.length) : xs.getD k d ∈ xs := by
  rw [List.getD_eq_getElem?_getD, List.getElem?_eq_getElem h]; exact List.getElem_mem _
theorem mem_getD {α : Type} {xs : List α} {x : α} (d : α) (h : x ∈ xs) : ∃ k, k < xs.length ∧ xs.getD k d = x := by
  obtain ⟨k, hk, e⟩ := List.getElem_of_mem h
  exact ⟨k, hk, by rw [List.getD_eq_getElem?_getD, List.getElem?_eq_getElem hk]; exact e⟩

/-- an element, its value a letter -/
theorem RdG.atv {α : Type} {f : α → Value} {d : α} {w : World} {a : Option Addr} {xs : List α} (h : RdG f d w a xs) {k n : Nat} (hn : xs.length = n) (hk : k < n) :
    ∃ b off v, a = some ⟨b, off, none⟩ ∧ w.cell? ⟨b, off + k, none⟩ = some (f v) ∧ Hid (xs.getD k d = v) := by
  obtain ⟨b, off, e, hc⟩ := h.at (k := k) (by omega)
  exact ⟨b, off, _, e, hc, rfl⟩

/-! ### zzHas -/
def hasB (xs : List Int) (x : Int) : Bool := decide (x ∈ xs)
theorem hasB_yes {xs : List Int} {x : Int} {k : Nat} (hk : k < xs.length) (h : xs.getD k 0 = x) : hasB xs x = true := decide_eq_true (h ▸ getD_mem hk)
theorem hasB_no {xs : List Int} {x : Int} (h : ∀ j, j < xs.length → ¬ xs.getD j 0 = x) : hasB xs x = false := decide_eq_false fun hm => by
  obtain ⟨k, hk, e⟩ := mem_getD 0 hm
  exact h k hk e

set_option maxHeartbeats 400000 in
theorem has_any (a : Option Addr) (n c : Nat) (xs : List Int) (x : Int) (w : World) (hn : n ≤ 9223372036854775807) (HN : Hid (xs.length = n)) (ha : Hid (RdI w a xs)) :
    Calls Try.prog 27 #[.slice a n c, .int .i64 x] w fun e w' => e = .returned (.bool (hasB xs x)) ∧ w' = w := by
  go_enter Try.func27, Try.ntmps27
  go_wp2
  go_loopw [5] (fun i wr => ∃ k : Nat, k ≤ n ∧ i = .int .i64 k ∧ wr = w ∧ Hid (∀ j, j < k → ¬ xs.getD j 0 = x)) (fun i _ => n - (intOf i).toNat)
  case atStart => exact ⟨0, Nat.zero_le _, rfl, rfl, fun j hj => by omega⟩
  case round =>
    obtain ⟨k, hk1, rfl, rfl, HE⟩ := hrel
    by_cases h1 : k < n
    · obtain ⟨b, off, v, rfl, hc, HV⟩ := ha.out.atv HN.out h1
      by_cases he : v = x
      · have hb : (v == x) = true := by simpa using he
        have HY : Hid (hasB xs x = true) := hasB_yes (k := k) (by rw [HN.out]; exact h1) (by rw [HV.out]; exact he)
        clear he
        go_wp2
        go_ret
        exact ⟨ret_bool HY.out.symm, rfl⟩
      · have hb : (v == x) = false := by simpa using he
        have HE' : Hid (∀ j, j < k + 1 → ¬ xs.getD j 0 = x) := fun j hj => by
          by_cases hjk : j = k
          · subst hjk; rw [HV.out]; exact he
          · exact HE.out j (by omega)
        clear he
        go_wp2
        go_roundw
        case rel => exact ⟨k + 1, by omega, by go_num, by trivial, HE'.out⟩
        case measure => simp [intOf]; omega
    · have HF : Hid (hasB xs x = false) := hasB_no fun j hj => HE.out j (by rw [HN.out] at hj; omega)
      go_wp2
      go_ret
      exact ⟨ret_bool HF.out.symm, rfl⟩

/-! ### zzNondecreasing -/
def ndB (xs : List Int) : Bool := decide (∀ i, i < xs.length → 1 ≤ i → xs.getD (i - 1) 0 ≤ xs.getD i 0)
theorem ndB_no {xs : List Int} {k : Nat} (h0 : 1 ≤ k) (hk : k < xs.length) (h : xs.getD k 0 < xs.getD (k - 1) 0) : ndB xs = false := decide_eq_false fun hm => by have := hm k hk h0; omega
theorem ndB_yes {xs : List Int} (h : ∀ i, i < xs.length → 1 ≤ i → xs.getD (i - 1) 0 ≤ xs.getD i 0) : ndB xs = true := decide_eq_true h

set_option maxHeartbeats 400000 in
theorem nondec_any (a : Option Addr) (n c : Nat) (xs : List Int) (w : World) (hn : n ≤ 9223372036854775807) (HN : Hid (xs.length = n)) (ha : Hid (RdI w a xs)) :
    Calls Try.prog 42 #[.slice a n c] w fun e w' => e = .returned (.bool (ndB xs)) ∧ ∃ n, w' = w.drewN n := by
  go_enter Try.func42, Try.ntmps42
  go_wp2
  go_loopw [3] (fun i wr => ∃ k m : Nat, (k + 1 ≤ n ∨ k = 0) ∧ i = .int .i64 (k + 1) ∧ wr = w.drewN m ∧ Hid (∀ i, i < k + 1 → 1 ≤ i → xs.getD (i - 1) 0 ≤ xs.getD i 0)) (fun i _ => n - (intOf i).toNat)
  case atStart => exact ⟨0, 0, .inr rfl, rfl, rfl, fun i h1 h2 => by omega⟩
  case round =>
    obtain ⟨k, m, hk1, rfl, rfl, HE⟩ := hrel
    by_cases h1 : k + 1 < n
    · obtain ⟨b, off, v, rfl, hc, HV⟩ := ha.out.atv HN.out h1
      obtain ⟨b2, off2, u, e2, hc2, HU⟩ := ha.out.atv (k := k) HN.out (by omega)
      obtain ⟨rfl, rfl⟩ : b = b2 ∧ off = off2 := by simpa using e2
      have i1 : (k : Int) + 1 < (n : Int) := by omega
      have HNO : Hid (v < u → ndB xs = false) := fun h => ndB_no (k := k + 1) (by omega) (by rw [HN.out]; exact h1) (by rw [HV.out]; simp only [Nat.add_sub_cancel]; rw [HU.out]; exact h)
      have HE' : Hid (¬ v < u → ∀ i, i < k + 2 → 1 ≤ i → xs.getD (i - 1) 0 ≤ xs.getD i 0) := fun hlt i h2 h3 => by
        by_cases hik : i = k + 1
        · subst hik; simp only [Nat.add_sub_cancel]; rw [HU.out, HV.out]; omega
        · exact HE.out i (by omega) h3
      clear e2
      by_cases hlt : v < u
      · go_wp2
        go_quiet (fail)
        go_wp2
        go_ret
        exact ⟨ret_bool (HNO.out hlt).symm, _, World.drewN_drewN _ _ _⟩
      · have HE2 : Hid (∀ i, i < k + 2 → 1 ≤ i → xs.getD (i - 1) 0 ≤ xs.getD i 0) := HE'.out hlt
        go_wp2
        go_quiet (fail)
        go_wp2
        go_roundw
        case rel => exact ⟨k + 1, _, by omega, by go_num, rfl, HE2.out⟩
        case measure => simp [intOf]; omega
    · have HY : Hid (ndB xs = true) := ndB_yes fun i h2 h3 => HE.out i (by rw [HN.out] at h2; omega) h3
      go_wp2
      go_ret
      exact ⟨ret_bool HY.out.symm, _, rfl⟩

/-! ### zzClockOK -/
def okB (hs cs : List Int) : Bool := decide (hs.length = cs.length ∧ ∀ i, i < hs.length → ¬ cs.getD i 0 = 0 ∧ (1 ≤ i → hs.getD (i - 1) 0 < hs.getD i 0))

set_option maxHeartbeats 1000000 in
theorem clockOK_any (a a' : Option Addr) (n m c c' : Nat) (hs cs : List Int) (w : World) (hn : n ≤ 9223372036854775807) (hm : m ≤ 9223372036854775807) (HN : Hid (hs.length = n)) (HM : Hid (cs.length = m)) (ha : Hid (RdI w a hs)) (ha' : Hid (RdU w a' cs)) :
    Calls Try.prog 18 #[.slice a n c, .slice a' m c'] w fun e w' => e = .returned (.bool (okB hs cs)) ∧ ∃ n, w' = w.drewN n := by
  by_cases hnm : n = m
  · have hb0 : ((n : Int) != (m : Int)) = false := bne_eq_false_iff_eq.2 (by omega)
    have HNM : Hid (n = m) := hnm
    clear hnm
    go_enter Try.func18, Try.ntmps18
    go_wp2
    go_loopw [5] (fun i wr => ∃ k q : Nat, k ≤ n ∧ i = .int .i64 k ∧ wr = w.drewN q ∧ Hid (∀ i, i < k → ¬ cs.getD i 0 = 0 ∧ (1 ≤ i → hs.getD (i - 1) 0 < hs.getD i 0))) (fun i _ => n - (intOf i).toNat)
    case atStart => exact ⟨0, 0, Nat.zero_le _, rfl, rfl, fun i h1 => by omega⟩
    case round =>
      obtain ⟨k, q, hk1, rfl, rfl, HE⟩ := hrel
      by_cases h1 : k < n
      · obtain ⟨b, off, v, rfl, hc, HV⟩ := ha.out.atv HN.out h1
        obtain ⟨b', off', u, rfl, hd, HU⟩ := ha'.out.atv (k := k) HM.out (by rw [← HNM.out]; exact h1)
        have i1 : (k : Int) < (n : Int) := by omega
        have i2 : (k : Int) < (m : Int) := by rw [← HNM.out]; exact i1
        by_cases hu : u = 0
        · have hb1 : (u == 0) = true := by simpa using hu
          have HF : Hid (okB hs cs = false) := decide_eq_false fun hh => (hh.2 k (by rw [HN.out]; exact h1)).1 (by rw [HU.out]; exact hu)
          clear hu
          go_wp2
          go_ret
          exact ⟨ret_bool HF.out.symm, _, rfl⟩
        · have hb1 : (u == 0) = false := by simpa using hu
          by_cases hk0 : k = 0
          · have HE2 : Hid (∀ i, i < k + 1 → ¬ cs.getD i 0 = 0 ∧ (1 ≤ i → hs.getD (i - 1) 0 < hs.getD i 0)) := fun i h2 => by
              obtain rfl : i = k := by omega
              exact ⟨by rw [HU.out]; exact hu, fun h => by omega⟩
            have hg : decide ((0 : Int) < (k : Int)) = false := decide_eq_false (by omega)
            have hg2 : decide (0 < k) = false := decide_eq_false (by omega)
            clear hu hk0
            go_wp2
            go_quiet (fail)
            go_wp2
            go_roundw
            case rel => exact ⟨k + 1, _, by omega, by go_num, rfl, HE2.out⟩
            case measure => simp [intOf]; omega
          · obtain ⟨j, rfl⟩ : ∃ j, k = j + 1 := ⟨k - 1, by omega⟩
            obtain ⟨b2, off2, t, e2, hc2, HT⟩ := ha.out.atv (k := j) HN.out (by omega)
            obtain ⟨rfl, rfl⟩ : b = b2 ∧ off = off2 := by simpa using e2
            have HF : Hid (¬ t < v → okB hs cs = false) := fun h => decide_eq_false fun hh => by
              have := (hh.2 (j + 1) (by rw [HN.out]; exact h1)).2 (by omega)
              simp only [Nat.add_sub_cancel] at this
              rw [HV.out, HT.out] at this
              exact h this
            have HE2 : Hid (t < v → ∀ i, i < j + 2 → ¬ cs.getD i 0 = 0 ∧ (1 ≤ i → hs.getD (i - 1) 0 < hs.getD i 0)) := fun hlt i h2 => by
              by_cases hik : i = j + 1
              · subst hik
                refine ⟨by rw [HU.out]; exact hu, fun _ => ?_⟩
                simp only [Nat.add_sub_cancel]
                rw [HV.out, HT.out]; exact hlt
              · exact HE.out i (by omega)
            clear e2 hu hk0
            have hg : (0 : Int) < ((j + 1 : Nat) : Int) := by omega
            by_cases hlt : t < v
            · have HE3 : Hid (∀ i, i < j + 2 → ¬ cs.getD i 0 = 0 ∧ (1 ≤ i → hs.getD (i - 1) 0 < hs.getD i 0)) := HE2.out hlt
              go_wp2
              go_quiet (fail)
              go_wp2
              go_roundw
              case rel => exact ⟨j + 2, _, by omega, by go_num, rfl, HE3.out⟩
              case measure => simp [intOf]; omega
            · have HF2 : Hid (okB hs cs = false) := HF.out hlt
              go_wp2
              go_quiet (fail)
              go_wp2
              go_ret
              exact ⟨ret_bool HF2.out.symm, _, World.drewN_drewN _ _ _⟩
      · have HY : Hid (okB hs cs = true) := decide_eq_true ⟨by rw [HN.out, HM.out]; exact HNM.out, fun i h2 => HE.out i (by rw [HN.out] at h2; omega)⟩
        go_wp2
        go_ret
        exact ⟨ret_bool HY.out.symm, _, rfl⟩
  · have hb0 : ((n : Int) != (m : Int)) = true := bne_iff_ne.2 (by omega)
    have HF : Hid (okB hs cs = false) := decide_eq_false fun hh => hnm (by rw [← HN.out, ← HM.out]; exact hh.1)
    clear hnm
    go_enter Try.func18, Try.ntmps18
    go_wp2
    go_ret
    exact ⟨ret_bool HF.out.symm, 0, rfl⟩

/-! ### zzVouched -/
/-- the last place of k among the first m of rs -/
def lastTo (rs : List Int) (k : Int) : Nat → Option Nat
  | 0 => none
  | m + 1 => if rs.getD m 0 = k then some m else lastTo rs k m
/-- what zzVouched answers where the record is not sound -/
def vouchTo (rs : List Int) (vs : List (Option Addr × Nat × Nat)) (k : Int) (m : Nat) : Bool × (Option Addr × Nat × Nat) :=
  match lastTo rs k m with
  | none => (false, (none, 0, 0))
  | some j => (true, vs.getD j (none, 0, 0))
def vouch (fs rs : List Int) (vs : List (Option Addr × Nat × Nat)) (k : Nat) : Bool × (Option Addr × Nat × Nat) :=
  if fs.getD k 0 = 1 then (true, (none, 0, 0)) else vouchTo rs vs k rs.length
theorem vouchTo_hit {rs : List Int} {vs : List (Option Addr × Nat × Nat)} {k : Int} {m : Nat} (h : rs.getD m 0 = k) : vouchTo rs vs k (m + 1) = (true, vs.getD m (none, 0, 0)) := by
  simp only [vouchTo, lastTo, if_pos h]
theorem vouchTo_miss {rs : List Int} {vs : List (Option Addr × Nat × Nat)} {k : Int} {m : Nat} (h : ¬ rs.getD m 0 = k) : vouchTo rs vs k (m + 1) = vouchTo rs vs k m := by
  simp only [vouchTo, lastTo, if_neg h]

set_option maxHeartbeats 1000000 in
theorem vouched_any (k : Nat) (af ar av : Option Addr) (nf nr nv cf cr cv : Nat) (fs rs : List Int) (vs : List (Option Addr × Nat × Nat)) (w : World)
    (hnr : nr ≤ 9223372036854775807) (hnf : nf ≤ 9223372036854775807) (hk : k < nf) (HF : Hid (fs.length = nf)) (HR : Hid (rs.length = nr)) (HV : Hid (vs.length = nv)) (HRV : nr = nv)
    (hf : Hid (Rd8 w af fs)) (hr : Hid (RdI w ar rs)) (hv : Hid (RdS w av vs)) :
    Calls Try.prog 30 #[.int .i64 k, .slice af nf cf, .slice ar nr cr, .slice av nv cv] w fun e w' => e = .returned (.tuple #[.bool (vouch fs rs vs k).1, slv (vouch fs rs vs k).2]) ∧ w' = w := by
  obtain ⟨b, off, u, rfl, hc, HU⟩ := hf.out.atv HF.out hk
  have i0 : (k : Int) < (nf : Int) := by omega
  by_cases hu : u = 1
  · have hb : (u == 1) = true := by simpa using hu
    have HE : Hid (vouch fs rs vs k = (true, (none, 0, 0))) := if_pos (by rw [HU.out]; exact hu)
    clear hu
    go_enter Try.func30, Try.ntmps30
    go_wp2
    go_ret2
    exact ⟨by rw [HE.out]; rfl, rfl⟩
  · have hb : (u == 1) = false := by simpa using hu
    have HE : Hid (vouch fs rs vs k = vouchTo rs vs k nr) := by
      show _ = _
      unfold vouch
      rw [if_neg (by rw [HU.out]; exact hu), HR.out]
    have HRV2 : Hid (nr = nv) := HRV
    clear hu HRV
    go_enter Try.func30, Try.ntmps30
    go_wp2
    go_loopw [10, 11, 12] (fun f l i wr => ∃ (j : Nat) (fb : Bool) (p : Option Addr) (q r : Nat), j ≤ nr ∧ f = .bool fb ∧ l = .slice p q r ∧ i = .int .i64 j ∧ wr = w ∧ Hid (vouchTo rs vs k j = (fb, (p, q, r)))) (fun _ _ i _ => nr - (intOf i).toNat)
    case atStart => exact ⟨0, _, _, _, _, Nat.zero_le _, rfl, rfl, rfl, rfl, rfl⟩
    case round =>
      obtain ⟨j, fb, p, q, r, hj, rfl, rfl, rfl, rfl, HX⟩ := hrel
      by_cases h1 : j < nr
      · obtain ⟨b2, off2, x, rfl, hd, HXX⟩ := hr.out.atv HR.out h1
        obtain ⟨b3, off3, p2, q2, r2, rfl, hd3, he3⟩ := hv.out.at (k := j) (by rw [HV.out, ← HRV2.out]; exact h1)
        have i2 : (j : Int) < (nv : Int) := by rw [← HRV2.out]; omega
        by_cases hx : x = (k : Int)
        · have hb2 : (x == (k : Int)) = true := by simpa using hx
          have HN : Hid (vouchTo rs vs k (j + 1) = (true, (p2, q2, r2))) := by
            show _ = _
            rw [vouchTo_hit (by rw [HXX.out]; exact hx), he3]
          clear hx he3
          go_wp2
          go_roundw
          case rel => exact ⟨j + 1, _, _, _, _, by omega, rfl, rfl, by go_num, by trivial, HN.out⟩
          case measure => simp [intOf]; omega
        · have hb2 : (x == (k : Int)) = false := by simpa using hx
          have HN : Hid (vouchTo rs vs k (j + 1) = (fb, (p, q, r))) := by
            show _ = _
            rw [vouchTo_miss (by rw [HXX.out]; exact hx)]; exact HX.out
          clear hx he3
          go_wp2
          go_roundw
          case rel => exact ⟨j + 1, _, _, _, _, by omega, rfl, rfl, by go_num, by trivial, HN.out⟩
          case measure => simp [intOf]; omega
      · have HN : Hid (vouch fs rs vs k = (fb, (p, q, r))) := by
          show _ = _
          rw [HE.out, ← HX.out]
          have : j = nr := by omega
          rw [this]
        go_wp2
        go_ret2
        exact ⟨by rw [HN.out]; rfl, rfl⟩
end Go.Proofs.Qxb6616313a
