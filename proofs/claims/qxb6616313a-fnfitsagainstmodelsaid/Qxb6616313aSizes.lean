/- THE SIZE TESTS. -/
import Derived.Test.Qxb6616313aBase
namespace Go.Proofs.Qxb6616313a
open Go.ChangeShapes Go.WideShapes Go.ChangeAt Go.RowKit
set_option linter.unusedVariables false

/-- a slice as one cell -/
def slv (p : Option Addr × Nat × Nat) : Value := .slice p.1 p.2.1 p.2.2
abbrev RdS (w : World) (a : Option Addr) (vs : List (Option Addr × Nat × Nat)) : Prop := RdG slv (none, 0, 0) w a vs
theorem RdS.at {w : World} {a : Option Addr} {vs : List (Option Addr × Nat × Nat)} (h : RdS w a vs) {k : Nat} (hk : k < vs.length) :
    ∃ b off p q r, a = some ⟨b, off, none⟩ ∧ w.cell? ⟨b, off + k, none⟩ = some (.slice p q r) ∧ vs.getD k (none, 0, 0) = (p, q, r) := by
  obtain ⟨b, off, e, hc⟩ := RdG.at h hk
  exact ⟨b, off, _, _, _, e, hc, rfl⟩

/-- a number in bounds and a bool come back; the world stands -/
def RAdd (w : World) (e : Ending) (w' : World) : Prop := ∃ s' ok, (e = .returned (.tuple #[.int .i64 s', .bool ok]) ∧ w' = w) ∧ 0 ≤ s' ∧ s' ≤ 1048576
theorem RAdd.mk {w : World} (s' : Int) (ok : Bool) (h0 : 0 ≤ s') (h1 : s' ≤ 1048576) : RAdd w (.returned (.tuple #[.int .i64 s', .bool ok])) w := ⟨s', ok, ⟨rfl, rfl⟩, h0, h1⟩
/-- some bool comes back; the world stands -/
def RBool (w : World) (P : Bool → Prop) (e : Ending) (w' : World) : Prop := ∃ r, (e = .returned (.bool r) ∧ w' = w) ∧ P r
theorem RBool.mk {w : World} {P : Bool → Prop} (r : Bool) (h : P r) : RBool w P (.returned (.bool r)) w := ⟨r, ⟨rfl, rfl⟩, h⟩

set_option maxHeartbeats 400000 in
theorem addN_any (s n m : Int) (w : World) (h0 : 0 ≤ s) (h1 : s ≤ 1048576) (h2 : 0 ≤ n) (h3 : n ≤ 9223372036854775807) (hm : m = 1 ∨ m = 8 ∨ m = 24) :
    Calls Try.prog 40 #[.int .i64 s, .int .i64 n, .int .i64 m] w (RAdd w) := by
  rcases hm with rfl | rfl | rfl
  · by_cases hb : n ≤ 1048576 - s
    · go_enter Try.func40, Try.ntmps40
      go_wp2
      go_ret2
      exact RAdd.mk (s + n) true (by omega) (by omega)
    · go_enter Try.func40, Try.ntmps40
      go_wp2
      go_ret2
      exact RAdd.mk s false (by omega) (by omega)
  · by_cases hb : n ≤ (1048576 - s) / 8
    · go_enter Try.func40, Try.ntmps40
      go_wp2
      go_ret2
      exact RAdd.mk (s + n * 8) true (by omega) (by omega)
    · go_enter Try.func40, Try.ntmps40
      go_wp2
      go_ret2
      exact RAdd.mk s false (by omega) (by omega)
  · by_cases hb : n ≤ (1048576 - s) / 24
    · go_enter Try.func40, Try.ntmps40
      go_wp2
      go_ret2
      exact RAdd.mk (s + n * 24) true (by omega) (by omega)
    · go_enter Try.func40, Try.ntmps40
      go_wp2
      go_ret2
      exact RAdd.mk s false (by omega) (by omega)

set_option maxHeartbeats 2000000 in
theorem tooBig_any (a0 : Option Addr) (n0 c0 : Nat) (a1 : Option Addr) (n1 c1 : Nat) (a2 : Option Addr) (n2 c2 : Nat) (a3 : Option Addr) (n3 c3 : Nat) (a4 : Option Addr) (n4 c4 : Nat) (a5 : Option Addr) (n5 c5 : Nat) (a6 : Option Addr) (n6 c6 : Nat) (a7 : Option Addr) (n7 c7 : Nat) (a8 : Option Addr) (n8 c8 : Nat) (a9 : Option Addr) (n9 c9 : Nat) (vs : List (Option Addr × Nat × Nat)) (w : World) (b0 : n0 ≤ 9223372036854775807) (b1 : n1 ≤ 9223372036854775807) (b2 : n2 ≤ 9223372036854775807) (b3 : n3 ≤ 9223372036854775807) (b4 : n4 ≤ 9223372036854775807) (b5 : n5 ≤ 9223372036854775807) (b6 : n6 ≤ 9223372036854775807) (b7 : n7 ≤ 9223372036854775807) (b8 : n8 ≤ 9223372036854775807) (b9 : n9 ≤ 9223372036854775807) (hv : Hid (vs.length = n6)) (hr : Hid (RdS w a6 vs)) (hl : Hid (∀ v ∈ vs, v.2.1 ≤ 9223372036854775807)) :
    Calls Try.prog 16 #[.slice a0 n0 c0, .slice a1 n1 c1, .slice a2 n2 c2, .slice a3 n3 c3, .slice a4 n4 c4, .slice a5 n5 c5, .slice a6 n6 c6, .slice a7 n7 c7, .slice a8 n8 c8, .slice a9 n9 c9] w (RBool w fun _ => True) := by
  go_enter Try.func16, Try.ntmps16
  go_wp2_with (go_at_call 40; refine (addN_any _ _ _ _ (by omega) (by omega) (by omega) (by omega) (by omega)).mono ?_; rintro e w' ⟨s', _ | _, ⟨rfl, rfl⟩, q1, q2⟩)
  all_goals try (go_ret; exact RBool.mk _ trivial)
  go_loopw [21, 22, 23] (fun s ok i wr => ∃ (k : Nat) (z : Int) (o : Bool), k ≤ n6 ∧ 0 ≤ z ∧ z ≤ 1048576 ∧ s = .int .i64 z ∧ ok = .bool o ∧ i = .int .i64 k ∧ wr = w') (fun _ _ i _ => n6 - (intOf i).toNat)
  case atStart => exact ⟨0, _, _, Nat.zero_le _, by assumption, by assumption, rfl, rfl, rfl, rfl⟩
  case round =>
    obtain ⟨k, z, o, hk, z0, z1, rfl, rfl, rfl, rfl⟩ := hrel
    by_cases h1 : k < n6
    · obtain ⟨b, off, p, q, r, rfl, hc, he⟩ := hr.out.at (k := k) (by rw [hv.out]; exact h1)
      have hq : q ≤ 9223372036854775807 := by
        have hm : vs.getD k (none, 0, 0) ∈ vs := by
          rw [List.getD_eq_getElem?_getD, List.getElem?_eq_getElem (by rw [hv.out]; exact h1)]
          exact List.getElem_mem _
        have := hl.out _ hm
        rw [he] at this; exact this
      clear he
      go_wp2_with (go_at_call 40; refine (addN_any _ _ _ _ (by omega) (by omega) (by omega) (by omega) (by omega)).mono ?_; rintro e w' ⟨s', _ | _, ⟨rfl, rfl⟩, q1, q2⟩)
      · go_ret
        exact RBool.mk _ trivial
      · go_roundw
        case rel => exact ⟨k + 1, _, _, by omega, by assumption, by assumption, rfl, rfl, by go_num, by trivial⟩
        case measure => simp [intOf]; omega
    · go_wp2_with (go_at_call 40; refine (addN_any _ _ _ _ (by omega) (by omega) (by omega) (by omega) (by omega)).mono ?_; rintro e w' ⟨s', _ | _, ⟨rfl, rfl⟩, q1, q2⟩)
      all_goals
        go_ret
        exact RBool.mk _ trivial

set_option maxHeartbeats 2000000 in
theorem bytes32_any (k0 : Int) (a1 : Option Addr) (n1 c1 : Nat) (a2 : Option Addr) (n2 c2 : Nat) (a3 : Option Addr) (n3 c3 : Nat) (a4 : Option Addr) (n4 c4 : Nat) (a5 : Option Addr) (n5 c5 : Nat) (a6 : Option Addr) (n6 c6 : Nat) (a7 : Option Addr) (n7 c7 : Nat) (p0 : Int) (d0 : Int) (a10 : Option Addr) (n10 c10 : Nat) (vs : List (Option Addr × Nat × Nat)) (w : World) (b1 : n1 ≤ 9223372036854775807) (b2 : n2 ≤ 9223372036854775807) (b3 : n3 ≤ 9223372036854775807) (b4 : n4 ≤ 9223372036854775807) (b5 : n5 ≤ 9223372036854775807) (b6 : n6 ≤ 9223372036854775807) (b7 : n7 ≤ 9223372036854775807) (b10 : n10 ≤ 9223372036854775807) (hv : Hid (vs.length = n7)) (hr : Hid (RdS w a7 vs)) (hl : Hid (∀ v ∈ vs, v.2.1 ≤ 9223372036854775807)) :
    Calls Try.prog 32 #[.int .i64 k0, .slice a1 n1 c1, .slice a2 n2 c2, .slice a3 n3 c3, .slice a4 n4 c4, .slice a5 n5 c5, .slice a6 n6 c6, .slice a7 n7 c7, .int .i64 p0, .int .u64 d0, .slice a10 n10 c10] w (RBool w fun r => r = true → (∀ j, j < n7 → (vs.getD j (none, 0, 0)).2.1 ≤ 1048576) ∧ n1 ≤ 1048576 ∧ n2 ≤ 1048576 ∧ n3 ≤ 1048576 ∧ n4 ≤ 1048576 ∧ n5 ≤ 1048576 ∧ n6 ≤ 1048576 ∧ n7 ≤ 1048576 ∧ n10 ≤ 1048576) := by
  go_enter Try.func32, Try.ntmps32
  go_wp2
  all_goals try (go_ret; exact RBool.mk false (fun h => by simp at h))
  go_loopw [23, 24] (fun s i wr => ∃ (k : Nat) (z : Int), k ≤ n7 ∧ 0 ≤ z ∧ z ≤ 1048576 ∧ s = .int .i64 z ∧ i = .int .i64 k ∧ wr = w ∧ Hid (∀ j, j < k → (vs.getD j (none, 0, 0)).2.1 ≤ 1048576)) (fun _ i _ => n7 - (intOf i).toNat)
  case atStart => exact ⟨0, _, Nat.zero_le _, by omega, by omega, rfl, rfl, rfl, fun j hj => by omega⟩
  case round =>
    obtain ⟨k, z, hk, z0, z1, rfl, rfl, rfl, HJ⟩ := hrel
    by_cases h1 : k < n7
    · obtain ⟨b, off, p, q, r, rfl, hc, he⟩ := hr.out.at (k := k) (by rw [hv.out]; exact h1)
      have hq : q ≤ 9223372036854775807 := by
        have hm : vs.getD k (none, 0, 0) ∈ vs := by
          rw [List.getD_eq_getElem?_getD, List.getElem?_eq_getElem (by rw [hv.out]; exact h1)]
          exact List.getElem_mem _
        have := hl.out _ hm
        rw [he] at this; exact this
      have HJ2 : Hid (q ≤ 1048576 → ∀ j, j < k + 1 → (vs.getD j (none, 0, 0)).2.1 ≤ 1048576) := fun hq2 j hj => by
        by_cases hjk : j = k
        · rw [hjk, he]; exact hq2
        · exact HJ.out j (by omega)
      clear he
      go_wp2
      all_goals try (go_ret; exact RBool.mk false (fun h => by simp at h))
      go_roundw
      case rel => exact ⟨k + 1, _, by omega, by omega, by omega, rfl, by go_num, by trivial, HJ2.out (by omega)⟩
      case measure => simp [intOf]; omega
    · have HJ3 : Hid (∀ j, j < n7 → (vs.getD j (none, 0, 0)).2.1 ≤ 1048576) := fun j hj => HJ.out j (by omega)
      go_wp2
      all_goals
        first
        | (go_ret; exact RBool.mk false (fun h => by simp at h))
        | (go_ret; exact RBool.mk true (fun _ => ⟨HJ3.out, by omega, by omega, by omega, by omega, by omega, by omega, by omega, by omega⟩))

set_option maxHeartbeats 2000000 in
theorem bytes15_any (k0 : Int) (a1 : Option Addr) (n1 c1 : Nat) (a2 : Option Addr) (n2 c2 : Nat) (a3 : Option Addr) (n3 c3 : Nat) (a4 : Option Addr) (n4 c4 : Nat) (a5 : Option Addr) (n5 c5 : Nat) (a6 : Option Addr) (n6 c6 : Nat) (a7 : Option Addr) (n7 c7 : Nat) (a8 : Option Addr) (n8 c8 : Nat) (a9 : Option Addr) (n9 c9 : Nat) (a10 : Option Addr) (n10 c10 : Nat) (vs : List (Option Addr × Nat × Nat)) (w : World) (b1 : n1 ≤ 9223372036854775807) (b2 : n2 ≤ 9223372036854775807) (b3 : n3 ≤ 9223372036854775807) (b4 : n4 ≤ 9223372036854775807) (b5 : n5 ≤ 9223372036854775807) (b6 : n6 ≤ 9223372036854775807) (b7 : n7 ≤ 9223372036854775807) (b8 : n8 ≤ 9223372036854775807) (b9 : n9 ≤ 9223372036854775807) (b10 : n10 ≤ 9223372036854775807) (hv : Hid (vs.length = n7)) (hr : Hid (RdS w a7 vs)) (hl : Hid (∀ v ∈ vs, v.2.1 ≤ 9223372036854775807)) :
    Calls Try.prog 15 #[.int .i64 k0, .slice a1 n1 c1, .slice a2 n2 c2, .slice a3 n3 c3, .slice a4 n4 c4, .slice a5 n5 c5, .slice a6 n6 c6, .slice a7 n7 c7, .slice a8 n8 c8, .slice a9 n9 c9, .slice a10 n10 c10] w (RBool w fun r => r = true → (∀ j, j < n7 → (vs.getD j (none, 0, 0)).2.1 ≤ 1048576) ∧ n1 ≤ 1048576 ∧ n2 ≤ 1048576 ∧ n3 ≤ 1048576 ∧ n4 ≤ 1048576 ∧ n5 ≤ 1048576 ∧ n6 ≤ 1048576 ∧ n7 ≤ 1048576 ∧ n8 ≤ 1048576 ∧ n9 ≤ 1048576 ∧ n10 ≤ 1048576) := by
  go_enter Try.func15, Try.ntmps15
  go_wp2
  all_goals try (go_ret; exact RBool.mk false (fun h => by simp at h))
  go_loopw [23, 24] (fun s i wr => ∃ (k : Nat) (z : Int), k ≤ n7 ∧ 0 ≤ z ∧ z ≤ 1048576 ∧ s = .int .i64 z ∧ i = .int .i64 k ∧ wr = w ∧ Hid (∀ j, j < k → (vs.getD j (none, 0, 0)).2.1 ≤ 1048576)) (fun _ i _ => n7 - (intOf i).toNat)
  case atStart => exact ⟨0, _, Nat.zero_le _, by omega, by omega, rfl, rfl, rfl, fun j hj => by omega⟩
  case round =>
    obtain ⟨k, z, hk, z0, z1, rfl, rfl, rfl, HJ⟩ := hrel
    by_cases h1 : k < n7
    · obtain ⟨b, off, p, q, r, rfl, hc, he⟩ := hr.out.at (k := k) (by rw [hv.out]; exact h1)
      have hq : q ≤ 9223372036854775807 := by
        have hm : vs.getD k (none, 0, 0) ∈ vs := by
          rw [List.getD_eq_getElem?_getD, List.getElem?_eq_getElem (by rw [hv.out]; exact h1)]
          exact List.getElem_mem _
        have := hl.out _ hm
        rw [he] at this; exact this
      have HJ2 : Hid (q ≤ 1048576 → ∀ j, j < k + 1 → (vs.getD j (none, 0, 0)).2.1 ≤ 1048576) := fun hq2 j hj => by
        by_cases hjk : j = k
        · rw [hjk, he]; exact hq2
        · exact HJ.out j (by omega)
      clear he
      go_wp2
      all_goals try (go_ret; exact RBool.mk false (fun h => by simp at h))
      go_roundw
      case rel => exact ⟨k + 1, _, by omega, by omega, by omega, rfl, by go_num, by trivial, HJ2.out (by omega)⟩
      case measure => simp [intOf]; omega
    · have HJ3 : Hid (∀ j, j < n7 → (vs.getD j (none, 0, 0)).2.1 ≤ 1048576) := fun j hj => HJ.out j (by omega)
      go_wp2
      all_goals
        first
        | (go_ret; exact RBool.mk false (fun h => by simp at h))
        | (go_ret; exact RBool.mk true (fun _ => ⟨HJ3.out, by omega, by omega, by omega, by omega, by omega, by omega, by omega, by omega, by omega, by omega⟩))

end Go.Proofs.Qxb6616313a
