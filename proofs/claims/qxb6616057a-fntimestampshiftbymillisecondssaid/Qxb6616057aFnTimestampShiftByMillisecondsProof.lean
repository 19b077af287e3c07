/- A proof of 'Rows.FnTimestampShiftByMillisecondsSaid': the shell that was given, its hole filled. -/
import Derived.Test.Qxb6616057aRows
import Derived.WalkKit
import Derived.ProofKit
import Derived.OpenShut
import Derived.ShutString
import Derived.Laws.BitsAllLaws
namespace Go.Proofs.Qxb6616057a.fnTimestampShiftByMilliseconds
open Go.ChangeShapes Go.WideShapes Go.ChangeAt Go.RowKit
open Go.ChangeMaps (open_string shut_string)
set_option linter.unusedVariables false      -- a walk need not use every 'w<i>' (that an integer argument fits its kind)

theorem own : ownKnob Try.prog.godebug = none := by kernel_rfl

/-! ### THE PLAIN LAW: the low twenty bits of a number do not turn its quotient by 2^20 -/
theorem wrap_i64 (n : Nat) (h : n < 9223372036854775808) : IntKind.i64.wrap (n : Int) = n := by
  simp [IntKind.wrap, IntKind.bits, IntKind.signed]; omega
theorem ofInt64 (a : Nat) (ha : a < 9223372036854775808) : (BitVec.ofInt 64 (a : Int)).toNat = a := by
  rw [BitVec.ofInt_natCast, BitVec.toNat_ofNat]; exact Nat.mod_eq_of_lt (by omega)
theorem and_nat (a : Nat) (ha : a < 9223372036854775808) : bits .and .i64 (a : Int) 1048575 = ((a &&& 1048575 : Nat) : Int) := by
  have hx : a &&& 1048575 < 2 ^ 63 := Nat.and_lt_two_pow _ (by omega)
  show IntKind.i64.wrap ((BitVec.ofInt 64 (a : Int) &&& BitVec.ofInt 64 ((1048575 : Nat) : Int)).toNat : Int) = _
  rw [BitVec.toNat_and, ofInt64 a ha, ofInt64 1048575 (by omega), wrap_i64 _ (by omega)]
theorem or_nat (a : Nat) (ha : a < 9223372036854775808) : bits .or .i64 (a : Int) 1048575 = ((a ||| 1048575 : Nat) : Int) := by
  have hx : a ||| 1048575 < 2 ^ 63 := Nat.or_lt_two_pow (by omega) (by omega)
  show IntKind.i64.wrap ((BitVec.ofInt 64 (a : Int) ||| BitVec.ofInt 64 ((1048575 : Nat) : Int)).toNat : Int) = _
  rw [BitVec.toNat_or, ofInt64 a ha, ofInt64 1048575 (by omega), wrap_i64 _ (by omega)]
theorem andNot_nat (a : Nat) (ha : a < 9223372036854775808) : bits .andNot .i64 (a : Int) 1048575 = ((a &&& 18446744073708503040 : Nat) : Int) := by
  have hx : a &&& 18446744073708503040 < 2 ^ 63 := by rw [Nat.and_comm]; exact Nat.and_lt_two_pow _ (by omega)
  show IntKind.i64.wrap ((BitVec.ofInt 64 (a : Int) &&& ~~~BitVec.ofInt 64 ((1048575 : Nat) : Int)).toNat : Int) = _
  rw [BitVec.toNat_and, BitVec.toNat_not, ofInt64 a ha, ofInt64 1048575 (by omega)]
  have e : 2 ^ 64 - 1 - 1048575 = 18446744073708503040 := by omega
  rw [e, wrap_i64 _ (by omega)]
theorem shr20 (n : Nat) : n / 1048576 = n >>> 20 := by rw [Nat.shiftRight_eq_div_pow]
theorem low (a : Int) (h0 : 0 ≤ a) (h1 : a ≤ 9223372036854775807) : bits .and .i64 a 1048575 / 1048576 = 0 := by
  obtain ⟨A, rfl⟩ := Int.eq_ofNat_of_zero_le h0
  rw [and_nat A (by omega)]
  have e := nat_mask20 A
  omega
theorem floor (a : Int) (h0 : 0 ≤ a) (h1 : a ≤ 9223372036854775807) : bits .andNot .i64 a 1048575 / 1048576 = a / 1048576 := by
  obtain ⟨A, rfl⟩ := Int.eq_ofNat_of_zero_le h0
  rw [andNot_nat A (by omega)]
  have e : (A &&& 18446744073708503040) / 1048576 = A / 1048576 := by
    have m : 18446744073708503040 >>> 20 = 2 ^ 44 - 1 := by decide
    rw [shr20, shr20, Nat.shiftRight_and_distrib, m, Nat.and_two_pow_sub_one_eq_mod, Nat.mod_eq_of_lt]
    rw [← shr20]; omega
  omega
theorem ceil (a : Int) (h0 : 0 ≤ a) (h1 : a ≤ 9223372036854775807) : bits .or .i64 a 1048575 / 1048576 = a / 1048576 := by
  obtain ⟨A, rfl⟩ := Int.eq_ofNat_of_zero_le h0
  rw [or_nat A (by omega)]
  have e : (A ||| 1048575) / 1048576 = A / 1048576 := by
    have m : 1048575 >>> 20 = 0 := by decide
    rw [shr20, shr20, Nat.shiftRight_or_distrib, m, Nat.or_zero]
  omega

/-! ### THE CALLEE: the quotient by 2^20 -/
theorem ts (x : Int) (w : World) : Calls Try.prog 4 #[.int .i64 x] w fun e w' => e = .returned (.int .i64 (x / 1048576)) ∧ w' = w := by
  go_enter Try.func4, Try.ntmps4
  go_wp2
  go_ret
  exact ⟨rfl, rfl⟩

/-! ### STEP 1: THE WALK: the Go text returns true -/
theorem walk (a0 : Int) (a1 : Int) (w0 : (Lit.int .i64 a0).wf = true) (w1 : (Lit.int .i64 a1).wf = true) (w : World) :
    Calls Try.prog 3 #[.int .i64 a0, .int .i64 a1] w fun e w' => e = .returned (.bool true) ∧ Grown w w' := by
  have b := bounds_i64 w0
  clear w0 w1
  by_cases c : a0 < 0 ∨ a1 < 0 ∨ 8796093022207 < a1
  · go_enter Try.func3, Try.ntmps3
    go_wp2
    all_goals
      first
      | (exfalso; omega)
      | (go_ret
         exact ⟨rfl, Grown.refl _⟩)
  · have c0 : 0 ≤ a0 := by omega
    have c1 : 0 ≤ a1 := by omega
    have c2 : a1 ≤ 8796093022207 := by omega
    have c3 : a0 ≤ 9223372036854775807 := by omega
    clear c b
    by_cases d : (9223372036854775807 - a0) / 1048576 < a1
    · go_enter Try.func3, Try.ntmps3
      go_wp2
      go_ret
      exact ⟨rfl, Grown.refl _⟩
    · have e0 := low a0 c0 c3
      have e1 := floor a0 c0 c3
      have e2 := ceil a0 c0 c3
      go_enter Try.func3, Try.ntmps3
      go_wp2_with (go_at_call 4; refine (ts _ _).mono ?_; rintro e w' ⟨rfl, rfl⟩)
      go_ret
      exact ⟨rfl, Grown.refl _⟩

/-! ### THE ROW's STEP: WRITTEN OUT: LEAVE IT -/
set_option maxRecDepth 100000 in
theorem lifted (os : Os) (started : os.Started) (H : Type) (enc : TypeId × Value → H) :
    ReturnsInHanded {} Try.checked os 3 .any (Rows.fnTimestampShiftByMillisecondsSpec.pre6 enc Try.prog Try.f3 Rows.fnTimestampShiftByMillisecondsRow.domain false) (Rows.fnTimestampShiftByMillisecondsSpec.post enc Try.prog Try.f3 false true false false) := by
  refine returnsInHanded_of_change (C := Try.checked) own started (by kernel_rfl) Try.func3
    (ChangeSpec.witness6 (enc := enc) (C := Try.checked) false ⟨#[], #[.int .i64 0, .int .i64 0], []⟩ 8 (by kernel_rfl) (by kernel_rfl) (by kernel_rfl) (by kernel_rfl)) ?_
  intro W base args ds gs before hval0 hW hcnd _
  have hval : ∀ (j : Nat) t v, Try.f3.params[j]? = some t → args[j]? = some v → Value.okWide Try.prog W .any base t v := hval0
  have hW' := hW
  obtain ⟨p, q, hA0, hV, rfl, hfz, hnd⟩ := hW
  have hA : DataW.TrodAll enc Try.prog W 0 (fun _ => true) true Try.f3.params.toList args.toList ds p := hA0
  rw [Try.params3] at hA hval
  obtain ⟨v0, vs0, d0, ds0, p0, q0, hargs, rfl, rfl, h0, r0⟩ := trodAll_cons hA
  obtain ⟨v1, vs1, d1, ds1, p1, q1, rfl, rfl, rfl, h1, r1⟩ := trodAll_cons r0
  obtain ⟨rfl, rfl, rfl⟩ := trodAll_nil r1
  obtain rfl : args = #[v0, v1] := by cases args; simp_all
  obtain ⟨rfl, rfl⟩ := trodVars_none hV
  obtain ⟨a0, rfl, rfl, rfl, w0⟩ := open_int Try.underlying2 (hval 0 2 v0 rfl rfl) h0
  obtain ⟨a1, rfl, rfl, rfl, w1⟩ := open_int Try.underlying2 (hval 1 2 v1 rfl rfl) h1
  clear hA0 hval0
  simp only [List.append_nil] at hW'
  refine (walk a0 a1 w0 w1 W).mono fun e W' ⟨he, hg⟩ => ?_
  subst he
  exact ⟨_, rfl, post_of_same (pa := []) (pv := []) hW' (fun _ _ _ => (trodAll_cons_mk (shut_bool Try.underlying4 _) trodAll_mk0)) (fun sp _ => (trodAll_cons_mk (shut_int Try.underlying2 w0) (trodAll_cons_mk (shut_int Try.underlying2 w1) trodAll_mk0))) (fun _ _ => rfl) rfl
    (hg.frame _) hg.2.1 (ok_one (by kernel_rfl) rfl (okWide_bool_mk Try.underlying4 _))⟩

theorem over : Rows.fnTimestampShiftByMillisecondsRow.holds Try.pinned (OpenSpec.ofChange Rows.fnTimestampShiftByMillisecondsSpec) :=
  OpenClaim.holds_of_wide 3 Try.f3 rfl rfl rfl rfl rfl rfl rfl ⟨rfl, rfl, rfl, rfl, rfl⟩ rfl rfl rfl rfl rfl (by kernel_rfl) Try.func3 (by kernel_rfl)
    (of_decide_eq_true (by kernel_rfl)) (by unfold Func.isWrapper; first | (rw [if_pos (by decide +kernel)]; kernel_rfl) | (rw [if_neg (by decide +kernel)]; exact ⟨rfl, rfl⟩))
    (fun os started H enc _ => lifted os started H enc)

/-- ████ THE STATEMENT ████ -/
theorem proved : Rows.FnTimestampShiftByMillisecondsSaid :=
  over
end Go.Proofs.Qxb6616057a.fnTimestampShiftByMilliseconds
