/- A proof of 'Rows.FnFitsAgainstModelSaid'. -/
import Derived.Test.Qxb6616313aRows
import Derived.Test.Qxb6616313aLawC
import Derived.Test.Qxb6616313aOpen
namespace Go.Proofs.Qxb6616313a.fnFitsAgainstModel
open Go.ChangeShapes Go.WideShapes Go.ChangeAt Go.RowKit
set_option linter.unusedVariables false

theorem own : ownKnob Try.prog.godebug = none := by kernel_rfl
theorem laidOut : laidOutB Try.prog = true := by kernel_rfl
theorem cells3 : Try.prog.cellsOf 3 = 1 := by kernel_rfl
theorem cells61 : Try.prog.cellsOf 61 = 1 := by kernel_rfl
theorem cells5 : Try.prog.cellsOf 5 = 1 := by kernel_rfl
theorem cells4 : Try.prog.cellsOf 4 = 1 := by kernel_rfl
theorem cells36 : Try.prog.cellsOf 36 = 1 := by kernel_rfl

/-! ### THE ROW's STEP -/
set_option maxRecDepth 100000 in
set_option maxHeartbeats 2000000 in
theorem lifted (os : Os) (started : os.Started) (H : Type) (enc : TypeId × Value → H) :
    ReturnsInHanded {} Try.checked os 4 .any (Rows.fnFitsAgainstModelSpec.pre6 enc Try.prog Try.f4 Rows.fnFitsAgainstModelRow.domain false) (Rows.fnFitsAgainstModelSpec.post enc Try.prog Try.f4 false true false false) := by
  refine returnsInHanded_of_change (C := Try.checked) own started (by kernel_rfl) Try.func4
    (ChangeSpec.witness6 (enc := enc) (C := Try.checked) false ⟨#[], #[.int .i64 0, .slice none 0 0, .slice none 0 0, .slice none 0 0, .slice none 0 0, .slice none 0 0, .slice none 0 0, .slice none 0 0, .slice none 0 0, .slice none 0 0, .slice none 0 0], []⟩ 8 (by kernel_rfl) (by kernel_rfl) (by kernel_rfl) (by kernel_rfl)) ?_
  intro W base args ds gs before hval0 hW hcnd _
  have hval : ∀ (j : Nat) t v, Try.f4.params[j]? = some t → args[j]? = some v → Value.okWide Try.prog W .any base t v := hval0
  have hW' := hW
  obtain ⟨p, q, hA0, hV, rfl, hfz, hnd⟩ := hW
  have hA : DataW.TrodAll enc Try.prog W 0 (fun _ => true) true Try.f4.params.toList args.toList ds p := hA0
  rw [Try.params4] at hA hval
  obtain ⟨v0, vs0, d0, ds0, p0, q0, hargs, rfl, rfl, h0, r0⟩ := trodAll_cons hA
  obtain ⟨v1, vs1, d1, ds1, p1, q1, rfl, rfl, rfl, h1, r1⟩ := trodAll_cons r0
  obtain ⟨v2, vs2, d2, ds2, p2, q2, rfl, rfl, rfl, h2, r2⟩ := trodAll_cons r1
  obtain ⟨v3, vs3, d3, ds3, p3, q3, rfl, rfl, rfl, h3, r3⟩ := trodAll_cons r2
  obtain ⟨v4, vs4, d4, ds4, p4, q4, rfl, rfl, rfl, h4, r4⟩ := trodAll_cons r3
  obtain ⟨v5, vs5, d5, ds5, p5, q5, rfl, rfl, rfl, h5, r5⟩ := trodAll_cons r4
  obtain ⟨v6, vs6, d6, ds6, p6, q6, rfl, rfl, rfl, h6, r6⟩ := trodAll_cons r5
  obtain ⟨v7, vs7, d7, ds7, p7, q7, rfl, rfl, rfl, h7, r7⟩ := trodAll_cons r6
  obtain ⟨v8, vs8, d8, ds8, p8, q8, rfl, rfl, rfl, h8, r8⟩ := trodAll_cons r7
  obtain ⟨v9, vs9, d9, ds9, p9, q9, rfl, rfl, rfl, h9, r9⟩ := trodAll_cons r8
  obtain ⟨v10, vs10, d10, ds10, p10, q10, rfl, rfl, rfl, h10, r10⟩ := trodAll_cons r9
  obtain ⟨rfl, rfl, rfl⟩ := trodAll_nil r10
  obtain rfl : args = #[v0, v1, v2, v3, v4, v5, v6, v7, v8, v9, v10] := by cases args; simp_all
  obtain ⟨rfl, rfl⟩ := trodVars_none hV
  have k0 := h0
  obtain ⟨x0, rfl, e0, g0, wf0⟩ := open_int Try.underlying3 (hval 0 3 v0 rfl rfl) h0
  have lt0 : ∀ x ∈ p0, x.block < W.heap.size := by obtain ⟨m, hm⟩ := k0; exact DataW.trod_lt m _ _ _ hm
  have k1 := h1
  obtain ⟨a1, len1, cap1, xs1, rfl, L1, C1, B1, Z1, R1, W1⟩ := open_intsAt Try.underlying36 Try.underlying3 cells3 (hval 1 36 v1 rfl rfl) h1
  have lt1 : ∀ x ∈ p1, x.block < W.heap.size := by obtain ⟨m, hm⟩ := k1; exact DataW.trod_lt m _ _ _ hm
  have k2 := h2
  obtain ⟨a2, len2, cap2, xs2, rfl, L2, C2, B2, Z2, R2, W2⟩ := open_intsAt Try.underlying36 Try.underlying3 cells3 (hval 2 36 v2 rfl rfl) h2
  have lt2 : ∀ x ∈ p2, x.block < W.heap.size := by obtain ⟨m, hm⟩ := k2; exact DataW.trod_lt m _ _ _ hm
  have k3 := h3
  obtain ⟨a3, len3, cap3, xs3, rfl, L3, C3, B3, Z3, R3, W3⟩ := open_intsAt Try.underlying37 Try.underlying61 cells61 (hval 3 37 v3 rfl rfl) h3
  have lt3 : ∀ x ∈ p3, x.block < W.heap.size := by obtain ⟨m, hm⟩ := k3; exact DataW.trod_lt m _ _ _ hm
  have k4 := h4
  obtain ⟨a4, len4, cap4, xs4, rfl, L4, C4, B4, Z4, R4, W4⟩ := open_intsAt Try.underlying38 Try.underlying5 cells5 (hval 4 38 v4 rfl rfl) h4
  have lt4 : ∀ x ∈ p4, x.block < W.heap.size := by obtain ⟨m, hm⟩ := k4; exact DataW.trod_lt m _ _ _ hm
  have k5 := h5
  obtain ⟨a5, len5, cap5, xs5, rfl, L5, C5, B5, Z5, R5, W5⟩ := open_intsAt Try.underlying36 Try.underlying3 cells3 (hval 5 36 v5 rfl rfl) h5
  have lt5 : ∀ x ∈ p5, x.block < W.heap.size := by obtain ⟨m, hm⟩ := k5; exact DataW.trod_lt m _ _ _ hm
  have k6 := h6
  obtain ⟨a6, len6, cap6, xs6, rfl, L6, C6, B6, Z6, R6, W6⟩ := open_intsAt Try.underlying36 Try.underlying3 cells3 (hval 6 36 v6 rfl rfl) h6
  have lt6 : ∀ x ∈ p6, x.block < W.heap.size := by obtain ⟨m, hm⟩ := k6; exact DataW.trod_lt m _ _ _ hm
  have k7 := h7
  obtain ⟨a7, len7, cap7, xs7, xss7, rfl, L7, B7, Z7, R7, I7, Q7, N7⟩ := open_rowsAt Try.underlying39 Try.underlying36 Try.underlying3 cells36 cells3 (hval 7 39 v7 rfl rfl) h7
  have lt7 : ∀ x ∈ p7, x.block < W.heap.size := by obtain ⟨m, hm⟩ := k7; exact DataW.trod_lt m _ _ _ hm
  have k8 := h8
  obtain ⟨a8, len8, cap8, xs8, rfl, L8, C8, B8, Z8, R8, W8⟩ := open_intsAt Try.underlying36 Try.underlying3 cells3 (hval 8 36 v8 rfl rfl) h8
  have lt8 : ∀ x ∈ p8, x.block < W.heap.size := by obtain ⟨m, hm⟩ := k8; exact DataW.trod_lt m _ _ _ hm
  have k9 := h9
  obtain ⟨a9, len9, cap9, xs9, rfl, L9, C9, B9, Z9, R9, W9⟩ := open_intsAt Try.underlying37 Try.underlying61 cells61 (hval 9 37 v9 rfl rfl) h9
  have lt9 : ∀ x ∈ p9, x.block < W.heap.size := by obtain ⟨m, hm⟩ := k9; exact DataW.trod_lt m _ _ _ hm
  have k10 := h10
  obtain ⟨a10, len10, cap10, xs10, rfl, L10, B10, Z10, R10⟩ := open_boolsAt Try.underlying40 Try.underlying4 cells4 (hval 10 40 v10 rfl rfl) h10
  have lt10 : ∀ x ∈ p10, x.block < W.heap.size := by obtain ⟨m, hm⟩ := k10; exact DataW.trod_lt m _ _ _ hm
  clear hA0 hval0
  refine (law4_any W x0 a1 a2 a3 a4 a5 a6 a7 a8 a9 a10 len1 len2 len3 len4 len5 len6 len7 len8 len9 len10 cap1 cap2 cap3 cap4 cap5 cap6 cap7 cap8 cap9 cap10 xs1 xs2 xs3 xs4 xs5 xs6 xs7 xss7 xs8 xs9 xs10 B1 B2 B3 B4 B5 B6 B7 B8 B9 B10 C2 C3 L1 L2 L3 L4 L5 L6 L7 L8 L9 L10 R1 R2 R3 R4 R5 R6 R7 R8 R9 R10 I7 Z1 Z2 Z3 Z4 Z5 Z6 Z7 Z10 Q7 N7 W5 W6).mono fun e W' ⟨he, bel⟩ => ?_
  subst he
  exact ⟨_, rfl, _, _, _, [], _, [], hW', trodAll_mk1 (shut_bool Try.underlying4 _), (trodAll_cons_mk (Below.trod laidOut (by kernel_rfl) (of_decide_eq_true (by kernel_rfl)) k0 bel lt0) (trodAll_cons_mk (Below.trod laidOut (by kernel_rfl) (of_decide_eq_true (by kernel_rfl)) k1 bel lt1) (trodAll_cons_mk (Below.trod laidOut (by kernel_rfl) (of_decide_eq_true (by kernel_rfl)) k2 bel lt2) (trodAll_cons_mk (Below.trod laidOut (by kernel_rfl) (of_decide_eq_true (by kernel_rfl)) k3 bel lt3) (trodAll_cons_mk (Below.trod laidOut (by kernel_rfl) (of_decide_eq_true (by kernel_rfl)) k4 bel lt4) (trodAll_cons_mk (Below.trod laidOut (by kernel_rfl) (of_decide_eq_true (by kernel_rfl)) k5 bel lt5) (trodAll_cons_mk (Below.trod laidOut (by kernel_rfl) (of_decide_eq_true (by kernel_rfl)) k6 bel lt6) (trodAll_cons_mk (Below.trod laidOut (by kernel_rfl) (of_decide_eq_true (by kernel_rfl)) k7 bel lt7) (trodAll_cons_mk (Below.trod laidOut (by kernel_rfl) (of_decide_eq_true (by kernel_rfl)) k8 bel lt8) (trodAll_cons_mk (Below.trod laidOut (by kernel_rfl) (of_decide_eq_true (by kernel_rfl)) k9 bel lt9) (trodAll_cons_mk (Below.trod laidOut (by kernel_rfl) (of_decide_eq_true (by kernel_rfl)) k10 bel lt10) trodAll_mk0))))))))))), rfl, bel.frame _, fun h => by cases h⟩

theorem over : Rows.fnFitsAgainstModelRow.holds Try.pinned (OpenSpec.ofChange Rows.fnFitsAgainstModelSpec) :=
  OpenClaim.holds_of_wide 4 Try.f4 rfl rfl rfl rfl rfl rfl rfl ⟨rfl, rfl, rfl, rfl, rfl⟩ rfl rfl rfl rfl rfl (by kernel_rfl) Try.func4 (by kernel_rfl)
    (of_decide_eq_true (by kernel_rfl)) (by unfold Func.isWrapper; first | (rw [if_pos (by decide +kernel)]; kernel_rfl) | (rw [if_neg (by decide +kernel)]; exact ⟨rfl, rfl⟩))
    (fun os started H enc _ => lifted os started H enc)

theorem proved : Rows.FnFitsAgainstModelSaid :=
  over
end Go.Proofs.Qxb6616313a.fnFitsAgainstModel
