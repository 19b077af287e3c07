/- A proof of 'Rows.FnCompareSetOfAgreesWithZeroPaddingSaid': the shell that was given, its hole filled. -/
import Derived.Test.Qxb6616079aRows
import Derived.Test.Qxb6616079aPadWalks
import Derived.WalkKit
import Derived.ProofKit
import Derived.OpenShut
import Derived.ShutString
import Derived.ChangeOld
import Derived.Below
namespace Go.Proofs.Qxb6616079a.fnCompareSetOfAgreesWithZeroPadding
open Go.ChangeShapes Go.WideShapes Go.ChangeAt Go.RowKit
open Go.ChangeMaps (open_string shut_string)
set_option linter.unusedVariables false

theorem own : ownKnob Try.prog.godebug = none := by kernel_rfl
theorem laidOut : laidOutB Try.prog = true := by kernel_rfl

/-- WHAT THE WALK IS TOLD OF A SLICE OF INTEGERS THAT CAME IN: it is nil; or it leads to a row of 'cap' cells, the numbers 'zs' (the first 'len' are its elements, the rest its spare room), each fitting its kind. -/
def IsRow (k : IntKind) (w : World) (a : Option Addr) (len cap : Nat) (zs : List Int) : Prop :=
  (a = none ∧ len = 0 ∧ cap = 0 ∧ zs = []) ∨
  ∃ x, a = some x ∧ len ≤ cap ∧ cap ≤ maxLen ∧ zs.length = cap ∧ (∀ i, i < zs.length → w.cell? (x.add i) = some (.int k (zs.getD i 0))) ∧ ∀ n ∈ zs, (Lit.int k n).wf = true

set_option maxHeartbeats 1000000 in
theorem walk_some (x0 : Addr) (len0 cap0 : Nat) (x1 : Addr) (len1 cap1 : Nat) (w : World) (h0 : len0 ≤ 65536) (h1 : len1 ≤ 65536) (xs ys : List Int) (s0 : Src w x0 xs) (s1 : Src w x1 ys) (l0 : Hid (xs.length = len0)) (l1 : Hid (ys.length = len1))
    (hp : ppB xs ys = false) (hp' : ppB ys xs = false) :
    Calls Try.prog 4 #[.slice (some x0) len0 cap0, .slice (some x1) len1 cap1] w fun e w' => e = .returned (.bool true) ∧ Below w.heap.size w w' := by
  have hne := fun w => run_neq_slice_nil_any (P := Try.prog) w 22 5 (some x0) len0 cap0 0 0 Try.underlying22
  have hne1 := fun w => run_neq_slice_nil_any (P := Try.prog) w 22 5 (some x1) len1 cap1 0 0 Try.underlying22
  have hmk0 := run_make_row' (P := Try.prog) 22 5 (.int .u8 0) 1 Try.underlying22 info5 rfl .i64 .i64 len0 (by omega) (by omega)
  have hmk1 := run_make_row' (P := Try.prog) 22 5 (.int .u8 0) 1 Try.underlying22 info5 rfl .i64 .i64 len1 (by omega) (by omega)
  have d0 : len0 + len1 ≤ 1048576 := by omega
  have HLP : Hid (lex xs ys = psign xs ys) := lex_psign xs ys hp hp'
  have HP : Hid (ppB xs ys = false) := hp
  have HP' : Hid (ppB ys xs = false) := hp'
  clear hp hp'
  have hpad : ∀ m, m = max len0 len1 → lex (pad xs m) (pad ys m) = psign xs ys := by
    rintro m rfl
    rw [← l0.out, ← l1.out]
    rfl
  have HPAD : Hid (∀ m, m = max len0 len1 → lex (pad xs m) (pad ys m) = psign xs ys) := hpad
  clear hpad
  have H0 : Hid (Src w x0 xs) := s0
  have H1 : Hid (Src w x1 ys) := s1
  clear s0 s1
  go_enter Try.func4, Try.ntmps4
  go_wp2_with (go_at_call 8; refine (bytes_any8 _ _ _ _ _ _ _ (by omega) (by omega)).mono ?_; rintro e w' ⟨rfl, rfl⟩)
  refine (prefix_len _ _ len0 len1 _ _ xs ys _ (by omega) (by omega) H0.out.rd H1.out.rd l0.out l1.out).mono ?_
  rintro e w1 ⟨rfl, n1, hw1⟩
  rw [HP.out]
  have b1 : Below w'.heap.size w' w1 := by rw [hw1]; exact below_drewN (Below.refl _ _) _
  clear hw1 n1
  go_wp2_with fail
  refine (prefix_len _ _ len1 len0 _ _ ys xs _ (by omega) (by omega) (H1.out.rd.below b1) (H0.out.rd.below b1) l1.out l0.out).mono ?_
  rintro e w2 ⟨rfl, n2, hw2⟩
  rw [HP'.out]
  have b2 : Below w'.heap.size w' w2 := by rw [hw2]; exact below_drewN b1 _
  have t0 := H0.out.below b2
  have t1 := H1.out.below b2
  clear hw2 n2 b1 w1 H0 H1
  by_cases hlm : len0 < len1
  all_goals
    go_wp2_with (first
    | (show wpList _ _ _ ({ dst := _, op := .call { callee := .builtin .copy, args := #[.tmp 35, .tmp 36], argTypes := _ }, type := _, pos := _, after := _, guard := _ } :: _) _ _
       refine wpList_clone rfl (.tmp 35) (.tmp 36) rfl len0 cap0 x0 xs t0 l0.out rfl rfl ?_; intro w3 b3 r0
       replace t1 := t1.below b3
       replace b2 := b2.trans (b3.mono b2.size))
    | (show wpList _ _ _ ({ dst := _, op := .call { callee := .builtin .copy, args := #[.tmp 44, .tmp 45], argTypes := _ }, type := _, pos := _, after := _, guard := _ } :: _) _ _
       refine wpList_clone rfl (.tmp 44) (.tmp 45) rfl len1 cap1 x1 ys t1 l1.out rfl rfl ?_; intro w4 b4 r1
       replace b2 := b2.trans (b4.mono b2.size)
       replace r0 := r0.below b4))
    refine (pad_len _ len0 _ _ xs _ (by omega) (by omega) r0 l0.out).mono ?_
    rintro e w5 ⟨rfl, b5, q0⟩
    replace r0 := r0.below b5
    replace r1 := r1.below b5
    replace b2 := b2.trans (b5.mono b2.size)
    clear b5
    go_wp2_with fail
    refine (pad_len _ len1 _ _ ys _ (by omega) (by omega) r1 l1.out).mono ?_
    rintro e w6 ⟨rfl, b6, q1⟩
    replace r0 := r0.below b6
    replace r1 := r1.below b6
    replace q0 := q0.below b6
    replace b2 := b2.trans (b6.mono b2.size)
    clear b6
    go_wp2_with fail
    refine (compare_len _ _ len0 len1 _ _ xs ys _ r0 r1 l0.out l1.out).mono ?_
    rintro e w7 ⟨rfl, hw7⟩
    rw [hw7, HLP.out]; clear hw7 w7
    go_wp2_with fail
    refine (compare_len _ _ _ _ _ _ _ _ _ q0 q1 (pad_length _ _ (by rw [l0.out]; omega)) (pad_length _ _ (by rw [l1.out]; omega))).mono ?_
    rintro e w7 ⟨rfl, hw7⟩
    rw [hw7, HPAD.out _ (by omega)]; clear hw7 w7
    go_wp2_with fail
    refine (padSign_len _ _ len0 len1 _ _ xs ys _ (by omega) (by omega) r0 r1 l0.out l1.out).mono ?_
    rintro e w7 ⟨rfl, hw7⟩
    rw [hw7]; clear hw7 w7
    go_wp2
    go_ret
    exact ⟨rfl, b2⟩

set_option maxHeartbeats 1000000 in
theorem walk_ns (len0 cap0 : Nat) (x1 : Addr) (len1 cap1 : Nat) (w : World) (h0 : len0 ≤ 65536) (h1 : len1 ≤ 65536) (xs ys : List Int) (s0 : Rd w none xs) (s1 : Src w x1 ys) (l0 : Hid (xs.length = len0)) (l1 : Hid (ys.length = len1))
    (hp : ppB xs ys = false) (hp' : ppB ys xs = false) :
    Calls Try.prog 4 #[.slice none len0 cap0, .slice (some x1) len1 cap1] w fun e w' => e = .returned (.bool true) ∧ Below w.heap.size w w' := by
  have hne := fun w => run_neq_slice_nil_any (P := Try.prog) w 22 5 none len0 cap0 0 0 Try.underlying22
  have hne1 := fun w => run_neq_slice_nil_any (P := Try.prog) w 22 5 (some x1) len1 cap1 0 0 Try.underlying22
  have hmk0 := run_make_row' (P := Try.prog) 22 5 (.int .u8 0) 1 Try.underlying22 info5 rfl .i64 .i64 len0 (by omega) (by omega)
  have hmk1 := run_make_row' (P := Try.prog) 22 5 (.int .u8 0) 1 Try.underlying22 info5 rfl .i64 .i64 len1 (by omega) (by omega)
  have d0 : len0 + len1 ≤ 1048576 := by omega
  have HLP : Hid (lex xs ys = psign xs ys) := lex_psign xs ys hp hp'
  have HP : Hid (ppB xs ys = false) := hp
  have HP' : Hid (ppB ys xs = false) := hp'
  clear hp hp'
  have hpad : ∀ m, m = max len0 len1 → lex (pad xs m) (pad ys m) = psign xs ys := by
    rintro m rfl
    rw [← l0.out, ← l1.out]
    rfl
  have HPAD : Hid (∀ m, m = max len0 len1 → lex (pad xs m) (pad ys m) = psign xs ys) := hpad
  clear hpad
  have H0 : Hid (Rd w none xs) := s0
  have H1 : Hid (Src w x1 ys) := s1
  clear s0 s1
  go_enter Try.func4, Try.ntmps4
  go_wp2_with (go_at_call 8; refine (bytes_any8 _ _ _ _ _ _ _ (by omega) (by omega)).mono ?_; rintro e w' ⟨rfl, rfl⟩)
  refine (prefix_len _ _ len0 len1 _ _ xs ys _ (by omega) (by omega) H0.out H1.out.rd l0.out l1.out).mono ?_
  rintro e w1 ⟨rfl, n1, hw1⟩
  rw [HP.out]
  have b1 : Below w'.heap.size w' w1 := by rw [hw1]; exact below_drewN (Below.refl _ _) _
  clear hw1 n1
  go_wp2_with fail
  refine (prefix_len _ _ len1 len0 _ _ ys xs _ (by omega) (by omega) (H1.out.rd.below b1) (H0.out.below b1) l1.out l0.out).mono ?_
  rintro e w2 ⟨rfl, n2, hw2⟩
  rw [HP'.out]
  have b2 : Below w'.heap.size w' w2 := by rw [hw2]; exact below_drewN b1 _
  have t0 := H0.out.below b2
  have t1 := H1.out.below b2
  clear hw2 n2 b1 w1 H0 H1
  by_cases hlm : len0 < len1
  all_goals
    go_wp2_with (first
    | (show wpList _ _ _ ({ dst := _, op := .call { callee := .builtin .copy, args := #[.tmp 44, .tmp 45], argTypes := _ }, type := _, pos := _, after := _, guard := _ } :: _) _ _
       refine wpList_clone rfl (.tmp 44) (.tmp 45) rfl len1 cap1 x1 ys t1 l1.out rfl rfl ?_; intro w4 b4 r1
       replace b2 := b2.trans (b4.mono b2.size)
       replace t0 := t0.below b4))
    have r0 := t0
    clear t0
    refine (pad_len _ len0 _ _ xs _ (by omega) (by omega) r0 l0.out).mono ?_
    rintro e w5 ⟨rfl, b5, q0⟩
    replace r0 := r0.below b5
    replace r1 := r1.below b5
    replace b2 := b2.trans (b5.mono b2.size)
    clear b5
    go_wp2_with fail
    refine (pad_len _ len1 _ _ ys _ (by omega) (by omega) r1 l1.out).mono ?_
    rintro e w6 ⟨rfl, b6, q1⟩
    replace r0 := r0.below b6
    replace r1 := r1.below b6
    replace q0 := q0.below b6
    replace b2 := b2.trans (b6.mono b2.size)
    clear b6
    go_wp2_with fail
    refine (compare_len _ _ len0 len1 _ _ xs ys _ r0 r1 l0.out l1.out).mono ?_
    rintro e w7 ⟨rfl, hw7⟩
    rw [hw7, HLP.out]; clear hw7 w7
    go_wp2_with fail
    refine (compare_len _ _ _ _ _ _ _ _ _ q0 q1 (pad_length _ _ (by rw [l0.out]; omega)) (pad_length _ _ (by rw [l1.out]; omega))).mono ?_
    rintro e w7 ⟨rfl, hw7⟩
    rw [hw7, HPAD.out _ (by omega)]; clear hw7 w7
    go_wp2_with fail
    refine (padSign_len _ _ len0 len1 _ _ xs ys _ (by omega) (by omega) r0 r1 l0.out l1.out).mono ?_
    rintro e w7 ⟨rfl, hw7⟩
    rw [hw7]; clear hw7 w7
    go_wp2
    go_ret
    exact ⟨rfl, b2⟩

set_option maxHeartbeats 1000000 in
theorem walk_sn (x0 : Addr) (len0 cap0 : Nat) (len1 cap1 : Nat) (w : World) (h0 : len0 ≤ 65536) (h1 : len1 ≤ 65536) (xs ys : List Int) (s0 : Src w x0 xs) (s1 : Rd w none ys) (l0 : Hid (xs.length = len0)) (l1 : Hid (ys.length = len1))
    (hp : ppB xs ys = false) (hp' : ppB ys xs = false) :
    Calls Try.prog 4 #[.slice (some x0) len0 cap0, .slice none len1 cap1] w fun e w' => e = .returned (.bool true) ∧ Below w.heap.size w w' := by
  have hne := fun w => run_neq_slice_nil_any (P := Try.prog) w 22 5 (some x0) len0 cap0 0 0 Try.underlying22
  have hne1 := fun w => run_neq_slice_nil_any (P := Try.prog) w 22 5 none len1 cap1 0 0 Try.underlying22
  have hmk0 := run_make_row' (P := Try.prog) 22 5 (.int .u8 0) 1 Try.underlying22 info5 rfl .i64 .i64 len0 (by omega) (by omega)
  have hmk1 := run_make_row' (P := Try.prog) 22 5 (.int .u8 0) 1 Try.underlying22 info5 rfl .i64 .i64 len1 (by omega) (by omega)
  have d0 : len0 + len1 ≤ 1048576 := by omega
  have HLP : Hid (lex xs ys = psign xs ys) := lex_psign xs ys hp hp'
  have HP : Hid (ppB xs ys = false) := hp
  have HP' : Hid (ppB ys xs = false) := hp'
  clear hp hp'
  have hpad : ∀ m, m = max len0 len1 → lex (pad xs m) (pad ys m) = psign xs ys := by
    rintro m rfl
    rw [← l0.out, ← l1.out]
    rfl
  have HPAD : Hid (∀ m, m = max len0 len1 → lex (pad xs m) (pad ys m) = psign xs ys) := hpad
  clear hpad
  have H0 : Hid (Src w x0 xs) := s0
  have H1 : Hid (Rd w none ys) := s1
  clear s0 s1
  go_enter Try.func4, Try.ntmps4
  go_wp2_with (go_at_call 8; refine (bytes_any8 _ _ _ _ _ _ _ (by omega) (by omega)).mono ?_; rintro e w' ⟨rfl, rfl⟩)
  refine (prefix_len _ _ len0 len1 _ _ xs ys _ (by omega) (by omega) H0.out.rd H1.out l0.out l1.out).mono ?_
  rintro e w1 ⟨rfl, n1, hw1⟩
  rw [HP.out]
  have b1 : Below w'.heap.size w' w1 := by rw [hw1]; exact below_drewN (Below.refl _ _) _
  clear hw1 n1
  go_wp2_with fail
  refine (prefix_len _ _ len1 len0 _ _ ys xs _ (by omega) (by omega) (H1.out.below b1) (H0.out.rd.below b1) l1.out l0.out).mono ?_
  rintro e w2 ⟨rfl, n2, hw2⟩
  rw [HP'.out]
  have b2 : Below w'.heap.size w' w2 := by rw [hw2]; exact below_drewN b1 _
  have t0 := H0.out.below b2
  have t1 := H1.out.below b2
  clear hw2 n2 b1 w1 H0 H1
  by_cases hlm : len0 < len1
  all_goals
    go_wp2_with (first
    | (show wpList _ _ _ ({ dst := _, op := .call { callee := .builtin .copy, args := #[.tmp 35, .tmp 36], argTypes := _ }, type := _, pos := _, after := _, guard := _ } :: _) _ _
       refine wpList_clone rfl (.tmp 35) (.tmp 36) rfl len0 cap0 x0 xs t0 l0.out rfl rfl ?_; intro w3 b3 r0
       replace t1 := t1.below b3
       replace b2 := b2.trans (b3.mono b2.size)))
    have r1 := t1
    clear t1
    refine (pad_len _ len0 _ _ xs _ (by omega) (by omega) r0 l0.out).mono ?_
    rintro e w5 ⟨rfl, b5, q0⟩
    replace r0 := r0.below b5
    replace r1 := r1.below b5
    replace b2 := b2.trans (b5.mono b2.size)
    clear b5
    go_wp2_with fail
    refine (pad_len _ len1 _ _ ys _ (by omega) (by omega) r1 l1.out).mono ?_
    rintro e w6 ⟨rfl, b6, q1⟩
    replace r0 := r0.below b6
    replace r1 := r1.below b6
    replace q0 := q0.below b6
    replace b2 := b2.trans (b6.mono b2.size)
    clear b6
    go_wp2_with fail
    refine (compare_len _ _ len0 len1 _ _ xs ys _ r0 r1 l0.out l1.out).mono ?_
    rintro e w7 ⟨rfl, hw7⟩
    rw [hw7, HLP.out]; clear hw7 w7
    go_wp2_with fail
    refine (compare_len _ _ _ _ _ _ _ _ _ q0 q1 (pad_length _ _ (by rw [l0.out]; omega)) (pad_length _ _ (by rw [l1.out]; omega))).mono ?_
    rintro e w7 ⟨rfl, hw7⟩
    rw [hw7, HPAD.out _ (by omega)]; clear hw7 w7
    go_wp2_with fail
    refine (padSign_len _ _ len0 len1 _ _ xs ys _ (by omega) (by omega) r0 r1 l0.out l1.out).mono ?_
    rintro e w7 ⟨rfl, hw7⟩
    rw [hw7]; clear hw7 w7
    go_wp2
    go_ret
    exact ⟨rfl, b2⟩

set_option maxHeartbeats 1000000 in
theorem walk_nn (len0 cap0 : Nat) (len1 cap1 : Nat) (w : World) (h0 : len0 ≤ 65536) (h1 : len1 ≤ 65536) (xs ys : List Int) (s0 : Rd w none xs) (s1 : Rd w none ys) (l0 : Hid (xs.length = len0)) (l1 : Hid (ys.length = len1))
    (hp : ppB xs ys = false) (hp' : ppB ys xs = false) :
    Calls Try.prog 4 #[.slice none len0 cap0, .slice none len1 cap1] w fun e w' => e = .returned (.bool true) ∧ Below w.heap.size w w' := by
  have hne := fun w => run_neq_slice_nil_any (P := Try.prog) w 22 5 none len0 cap0 0 0 Try.underlying22
  have hne1 := fun w => run_neq_slice_nil_any (P := Try.prog) w 22 5 none len1 cap1 0 0 Try.underlying22
  have hmk0 := run_make_row' (P := Try.prog) 22 5 (.int .u8 0) 1 Try.underlying22 info5 rfl .i64 .i64 len0 (by omega) (by omega)
  have hmk1 := run_make_row' (P := Try.prog) 22 5 (.int .u8 0) 1 Try.underlying22 info5 rfl .i64 .i64 len1 (by omega) (by omega)
  have d0 : len0 + len1 ≤ 1048576 := by omega
  have HLP : Hid (lex xs ys = psign xs ys) := lex_psign xs ys hp hp'
  have HP : Hid (ppB xs ys = false) := hp
  have HP' : Hid (ppB ys xs = false) := hp'
  clear hp hp'
  have hpad : ∀ m, m = max len0 len1 → lex (pad xs m) (pad ys m) = psign xs ys := by
    rintro m rfl
    rw [← l0.out, ← l1.out]
    rfl
  have HPAD : Hid (∀ m, m = max len0 len1 → lex (pad xs m) (pad ys m) = psign xs ys) := hpad
  clear hpad
  have H0 : Hid (Rd w none xs) := s0
  have H1 : Hid (Rd w none ys) := s1
  clear s0 s1
  go_enter Try.func4, Try.ntmps4
  go_wp2_with (go_at_call 8; refine (bytes_any8 _ _ _ _ _ _ _ (by omega) (by omega)).mono ?_; rintro e w' ⟨rfl, rfl⟩)
  refine (prefix_len _ _ len0 len1 _ _ xs ys _ (by omega) (by omega) H0.out H1.out l0.out l1.out).mono ?_
  rintro e w1 ⟨rfl, n1, hw1⟩
  rw [HP.out]
  have b1 : Below w'.heap.size w' w1 := by rw [hw1]; exact below_drewN (Below.refl _ _) _
  clear hw1 n1
  go_wp2_with fail
  refine (prefix_len _ _ len1 len0 _ _ ys xs _ (by omega) (by omega) (H1.out.below b1) (H0.out.below b1) l1.out l0.out).mono ?_
  rintro e w2 ⟨rfl, n2, hw2⟩
  rw [HP'.out]
  have b2 : Below w'.heap.size w' w2 := by rw [hw2]; exact below_drewN b1 _
  have t0 := H0.out.below b2
  have t1 := H1.out.below b2
  clear hw2 n2 b1 w1 H0 H1
  by_cases hlm : len0 < len1
  all_goals
    go_wp2_with fail
    have r0 := t0
    clear t0
    have r1 := t1
    clear t1
    refine (pad_len _ len0 _ _ xs _ (by omega) (by omega) r0 l0.out).mono ?_
    rintro e w5 ⟨rfl, b5, q0⟩
    replace r0 := r0.below b5
    replace r1 := r1.below b5
    replace b2 := b2.trans (b5.mono b2.size)
    clear b5
    go_wp2_with fail
    refine (pad_len _ len1 _ _ ys _ (by omega) (by omega) r1 l1.out).mono ?_
    rintro e w6 ⟨rfl, b6, q1⟩
    replace r0 := r0.below b6
    replace r1 := r1.below b6
    replace q0 := q0.below b6
    replace b2 := b2.trans (b6.mono b2.size)
    clear b6
    go_wp2_with fail
    refine (compare_len _ _ len0 len1 _ _ xs ys _ r0 r1 l0.out l1.out).mono ?_
    rintro e w7 ⟨rfl, hw7⟩
    rw [hw7, HLP.out]; clear hw7 w7
    go_wp2_with fail
    refine (compare_len _ _ _ _ _ _ _ _ _ q0 q1 (pad_length _ _ (by rw [l0.out]; omega)) (pad_length _ _ (by rw [l1.out]; omega))).mono ?_
    rintro e w7 ⟨rfl, hw7⟩
    rw [hw7, HPAD.out _ (by omega)]; clear hw7 w7
    go_wp2_with fail
    refine (padSign_len _ _ len0 len1 _ _ xs ys _ (by omega) (by omega) r0 r1 l0.out l1.out).mono ?_
    rintro e w7 ⟨rfl, hw7⟩
    rw [hw7]; clear hw7 w7
    go_wp2
    go_ret
    exact ⟨rfl, b2⟩

set_option maxHeartbeats 400000 in
theorem walk_pre (a0 a1 : Option Addr) (len0 cap0 len1 cap1 : Nat) (w : World) (h0 : len0 ≤ 65536) (h1 : len1 ≤ 65536) (xs ys : List Int) (s0 : Rd w a0 xs) (s1 : Rd w a1 ys) (l0 : Hid (xs.length = len0)) (l1 : Hid (ys.length = len1))
    (hp : ppB xs ys = true) :
    Calls Try.prog 4 #[.slice a0 len0 cap0, .slice a1 len1 cap1] w fun e w' => e = .returned (.bool true) ∧ Below w.heap.size w w' := by
  have d0 : len0 + len1 ≤ 1048576 := by omega
  have HP : Hid (ppB xs ys = true) := hp

  clear hp
  go_enter Try.func4, Try.ntmps4
  go_wp2_with (go_at_call 8; refine (bytes_any8 _ _ _ _ _ _ _ (by omega) (by omega)).mono ?_; rintro e w' ⟨rfl, rfl⟩)
  refine (prefix_len _ _ len0 len1 _ _ xs ys _ (by omega) (by omega) s0 s1 l0.out l1.out).mono ?_
  rintro e w1 ⟨rfl, n1, hw1⟩
  rw [HP.out]
  have b1 : Below w'.heap.size w' w1 := by rw [hw1]; exact below_drewN (Below.refl _ _) _
  clear hw1 n1
  go_wp2
  go_ret
  exact ⟨rfl, b1⟩

set_option maxHeartbeats 400000 in
theorem walk_pre2 (a0 a1 : Option Addr) (len0 cap0 len1 cap1 : Nat) (w : World) (h0 : len0 ≤ 65536) (h1 : len1 ≤ 65536) (xs ys : List Int) (s0 : Rd w a0 xs) (s1 : Rd w a1 ys) (l0 : Hid (xs.length = len0)) (l1 : Hid (ys.length = len1))
    (hp : ppB xs ys = false) (hp2 : ppB ys xs = true) :
    Calls Try.prog 4 #[.slice a0 len0 cap0, .slice a1 len1 cap1] w fun e w' => e = .returned (.bool true) ∧ Below w.heap.size w w' := by
  have d0 : len0 + len1 ≤ 1048576 := by omega
  have HP : Hid (ppB xs ys = false) := hp
  have HP2 : Hid (ppB ys xs = true) := hp2
  clear hp hp2
  go_enter Try.func4, Try.ntmps4
  go_wp2_with (go_at_call 8; refine (bytes_any8 _ _ _ _ _ _ _ (by omega) (by omega)).mono ?_; rintro e w' ⟨rfl, rfl⟩)
  refine (prefix_len _ _ len0 len1 _ _ xs ys _ (by omega) (by omega) s0 s1 l0.out l1.out).mono ?_
  rintro e w1 ⟨rfl, n1, hw1⟩
  rw [HP.out]
  have b1 : Below w'.heap.size w' w1 := by rw [hw1]; exact below_drewN (Below.refl _ _) _
  clear hw1 n1
  go_wp2_with fail
  refine (prefix_len _ _ len1 len0 _ _ ys xs _ (by omega) (by omega) (s1.below b1) (s0.below b1) l1.out l0.out).mono ?_
  rintro e w2 ⟨rfl, n2, hw2⟩
  rw [HP2.out]
  have b2 : Below w'.heap.size w' w2 := by rw [hw2]; exact below_drewN b1 _
  clear hw2 n2
  go_wp2
  go_ret
  exact ⟨rfl, b2⟩

theorem row_src {w : World} {x : Addr} {len cap : Nat} {zs : List Int} (hl : len ≤ cap) (hz : zs.length = cap) (hc : ∀ i, i < zs.length → w.cell? (x.add i) = some (.int .u8 (zs.getD i 0))) (hw : ∀ n ∈ zs, (Lit.int .u8 n).wf = true) :
    Src w x (zs.take len) ∧ (zs.take len).length = len := by
  have e : (zs.take len).length = len := by simp; omega
  refine ⟨⟨fun n hn => bounds_u8 (hw n (List.mem_of_mem_take hn)), fun i hi => ?_⟩, e⟩
  rw [hc i (by omega)]
  simp [List.getD_eq_getElem?_getD, show i < len by omega]


theorem pick (a0 a1 : Option Addr) (len0 cap0 len1 cap1 : Nat) (w : World) (h0 : len0 ≤ 65536) (h1 : len1 ≤ 65536) (xs ys : List Int) (s0 : Rd w a0 xs) (s1 : Rd w a1 ys) (l0 : Hid (xs.length = len0)) (l1 : Hid (ys.length = len1))
    (h : ppB xs ys = false → ppB ys xs = false → Calls Try.prog 4 #[.slice a0 len0 cap0, .slice a1 len1 cap1] w fun e w' => e = .returned (.bool true) ∧ Below w.heap.size w w') :
    Calls Try.prog 4 #[.slice a0 len0 cap0, .slice a1 len1 cap1] w fun e w' => e = .returned (.bool true) ∧ Below w.heap.size w w' := by
  cases hp : ppB xs ys with
  | true => exact walk_pre a0 a1 len0 cap0 len1 cap1 w h0 h1 xs ys s0 s1 l0 l1 hp
  | false =>
    cases hp' : ppB ys xs with
    | true => exact walk_pre2 a0 a1 len0 cap0 len1 cap1 w h0 h1 xs ys s0 s1 l0 l1 hp hp'
    | false => exact h hp hp'

/-! ### STEP 1: THE WALK -/
set_option maxHeartbeats 400000 in
theorem walk (a0 : Option Addr) (len0 cap0 : Nat) (z0 : List Int) (a1 : Option Addr) (len1 cap1 : Nat) (z1 : List Int) (w : World) (w0 : IsRow .u8 w a0 len0 cap0 z0) (w1 : IsRow .u8 w a1 len1 cap1 z1) :
    Calls Try.prog 4 #[.slice a0 len0 cap0, .slice a1 len1 cap1] w fun e w' => e = .returned (.bool true) ∧ Below w.heap.size w w' := by
  have g0 : len0 ≤ 9223372036854775807 := by
    rcases w0 with ⟨_, h, _, _⟩ | ⟨x, _, h1, h2, _⟩
    · omega
    · unfold maxLen at h2; omega
  have g1 : len1 ≤ 9223372036854775807 := by
    rcases w1 with ⟨_, h, _, _⟩ | ⟨x, _, h1, h2, _⟩
    · omega
    · unfold maxLen at h2; omega
  by_cases hbig : len0 ≤ 65536 ∧ len1 ≤ 65536
  · obtain ⟨h0, h1⟩ := hbig
    rcases w0 with ⟨rfl, rfl, rfl, rfl⟩ | ⟨x, rfl, hl, hm, hz, hc, hw⟩
    · rcases w1 with ⟨rfl, rfl, rfl, rfl⟩ | ⟨x', rfl, hl', hm', hz', hc', hw'⟩
      · exact pick none none 0 0 0 0 w h0 h1 [] [] (rd_nil w) (rd_nil w) rfl rfl (walk_nn 0 0 0 0 w h0 h1 [] [] (rd_nil w) (rd_nil w) rfl rfl)
      · obtain ⟨s1, e1⟩ := row_src hl' hz' hc' hw'
        exact pick none (some x') 0 0 len1 cap1 w h0 h1 [] _ (rd_nil w) s1.rd rfl e1 (walk_ns 0 0 x' len1 cap1 w h0 h1 [] _ (rd_nil w) s1 rfl e1)
    · obtain ⟨s0, e0⟩ := row_src hl hz hc hw
      rcases w1 with ⟨rfl, rfl, rfl, rfl⟩ | ⟨x', rfl, hl', hm', hz', hc', hw'⟩
      · exact pick (some x) none len0 cap0 0 0 w h0 h1 _ [] s0.rd (rd_nil w) e0 rfl (walk_sn x len0 cap0 0 0 w h0 h1 _ [] s0 (rd_nil w) e0 rfl)
      · obtain ⟨s1, e1⟩ := row_src hl' hz' hc' hw'
        exact pick (some x) (some x') len0 cap0 len1 cap1 w h0 h1 _ _ s0.rd s1.rd e0 e1 (walk_some x len0 cap0 x' len1 cap1 w h0 h1 _ _ s0 s1 e0 e1)
  · clear w0 w1
    by_cases d0 : len0 + len1 ≤ 1048576
    · by_cases c0 : len0 ≤ 65536
      · have c1 : ¬ len1 ≤ 65536 := by omega
        go_enter Try.func4, Try.ntmps4
        go_wp2_with (go_at_call 8; refine (bytes_any8 _ _ _ _ _ _ _ (by omega) (by omega)).mono ?_; rintro e w' ⟨rfl, rfl⟩)
        go_ret
        exact ⟨rfl, Below.refl _ _⟩
      · go_enter Try.func4, Try.ntmps4
        go_wp2_with (go_at_call 8; refine (bytes_any8 _ _ _ _ _ _ _ (by omega) (by omega)).mono ?_; rintro e w' ⟨rfl, rfl⟩)
        go_ret
        exact ⟨rfl, Below.refl _ _⟩
    · go_enter Try.func4, Try.ntmps4
      go_wp2_with (go_at_call 8; refine (bytes_any8 _ _ _ _ _ _ _ (by omega) (by omega)).mono ?_; rintro e w' ⟨rfl, rfl⟩)
      go_ret
      exact ⟨rfl, Below.refl _ _⟩

/-! ### THE ROW's STEP: WRITTEN OUT: LEAVE IT -/
set_option maxRecDepth 100000 in
theorem lifted (os : Os) (started : os.Started) (H : Type) (enc : TypeId × Value → H) :
    ReturnsInHanded {} Try.checked os 4 .any (Rows.fnCompareSetOfAgreesWithZeroPaddingSpec.pre6 enc Try.prog Try.f4 Rows.fnCompareSetOfAgreesWithZeroPaddingRow.domain false) (Rows.fnCompareSetOfAgreesWithZeroPaddingSpec.post enc Try.prog Try.f4 false true false false) := by
  refine returnsInHanded_of_change (C := Try.checked) own started (by kernel_rfl) Try.func4
    (ChangeSpec.witness6 (enc := enc) (C := Try.checked) false ⟨#[], #[.slice none 0 0, .slice none 0 0], []⟩ 8 (by kernel_rfl) (by kernel_rfl) (by kernel_rfl) (by kernel_rfl)) ?_
  intro W base args ds gs before hval0 hW hcnd _
  have hval : ∀ (j : Nat) t v, Try.f4.params[j]? = some t → args[j]? = some v → Value.okWide Try.prog W .any base t v := hval0
  have hW' := hW
  obtain ⟨p, q, hA0, hV, rfl, hfz, hnd⟩ := hW
  have hA : DataW.TrodAll enc Try.prog W 0 (fun _ => true) true Try.f4.params.toList args.toList ds p := hA0
  rw [Try.params4] at hA hval
  obtain ⟨v0, vs0, d0, ds0, p0, q0, hargs, rfl, rfl, h0, r0⟩ := trodAll_cons hA
  obtain ⟨v1, vs1, d1, ds1, p1, q1, rfl, rfl, rfl, h1, r1⟩ := trodAll_cons r0
  obtain ⟨rfl, rfl, rfl⟩ := trodAll_nil r1
  obtain rfl : args = #[v0, v1] := by cases args; simp_all
  obtain ⟨rfl, rfl⟩ := trodVars_none hV
  obtain ⟨a0, len0, cap0, rfl⟩ := okWide_slice Try.underlying22 (hval 0 22 v0 rfl rfl)
  have k0 := h0
  have lt0 : ∀ x ∈ p0, x.block < W.heap.size := by obtain ⟨m, hm⟩ := k0; exact DataW.trod_lt m _ _ _ hm
  obtain ⟨z0, w0⟩ : ∃ zs, IsRow .u8 W a0 len0 cap0 zs := by
    obtain ⟨fuel, hf⟩ := h0
    rcases open_ints Try.underlying22 Try.underlying5 (by kernel_rfl) hf with ⟨hcs, _⟩ | ⟨x, l, c, zs, hcs, _, hl, hm, hz, _, hcell, hwz⟩
    · simp [Value.cells] at hcs
      obtain ⟨rfl, rfl, rfl⟩ := hcs
      exact ⟨[], .inl ⟨rfl, rfl, rfl, rfl⟩⟩
    · simp [Value.cells] at hcs
      obtain ⟨rfl, rfl, rfl⟩ := hcs
      exact ⟨zs, .inr ⟨_, rfl, hl, hm, by simpa using hz, hcell, hwz⟩⟩
  obtain ⟨a1, len1, cap1, rfl⟩ := okWide_slice Try.underlying22 (hval 1 22 v1 rfl rfl)
  have k1 := h1
  have lt1 : ∀ x ∈ p1, x.block < W.heap.size := by obtain ⟨m, hm⟩ := k1; exact DataW.trod_lt m _ _ _ hm
  obtain ⟨z1, w1⟩ : ∃ zs, IsRow .u8 W a1 len1 cap1 zs := by
    obtain ⟨fuel, hf⟩ := h1
    rcases open_ints Try.underlying22 Try.underlying5 (by kernel_rfl) hf with ⟨hcs, _⟩ | ⟨x, l, c, zs, hcs, _, hl, hm, hz, _, hcell, hwz⟩
    · simp [Value.cells] at hcs
      obtain ⟨rfl, rfl, rfl⟩ := hcs
      exact ⟨[], .inl ⟨rfl, rfl, rfl, rfl⟩⟩
    · simp [Value.cells] at hcs
      obtain ⟨rfl, rfl, rfl⟩ := hcs
      exact ⟨zs, .inr ⟨_, rfl, hl, hm, by simpa using hz, hcell, hwz⟩⟩
  clear hA0 hval0
  refine (walk a0 len0 cap0 z0 a1 len1 cap1 z1 W w0 w1).mono fun e W' ⟨he, bel⟩ => ?_
  subst he
  exact ⟨_, rfl, _, _, _, [], _, [], hW', trodAll_mk1 (shut_bool Try.underlying4 _), (trodAll_cons_mk (Below.trod laidOut (by kernel_rfl) (of_decide_eq_true (by kernel_rfl)) k0 bel lt0) (trodAll_cons_mk (Below.trod laidOut (by kernel_rfl) (of_decide_eq_true (by kernel_rfl)) k1 bel lt1) trodAll_mk0)), rfl, bel.frame _, fun h => by cases h⟩

theorem over : Rows.fnCompareSetOfAgreesWithZeroPaddingRow.holds Try.pinned (OpenSpec.ofChange Rows.fnCompareSetOfAgreesWithZeroPaddingSpec) :=
  OpenClaim.holds_of_wide 4 Try.f4 rfl rfl rfl rfl rfl rfl rfl ⟨rfl, rfl, rfl, rfl, rfl⟩ rfl rfl rfl rfl rfl (by kernel_rfl) Try.func4 (by kernel_rfl)
    (of_decide_eq_true (by kernel_rfl)) (by unfold Func.isWrapper; first | (rw [if_pos (by decide +kernel)]; kernel_rfl) | (rw [if_neg (by decide +kernel)]; exact ⟨rfl, rfl⟩))
    (fun os started H enc _ => lifted os started H enc)

/-- ████ THE STATEMENT ████ -/
theorem proved : Rows.FnCompareSetOfAgreesWithZeroPaddingSaid := over
end Go.Proofs.Qxb6616079a.fnCompareSetOfAgreesWithZeroPadding
