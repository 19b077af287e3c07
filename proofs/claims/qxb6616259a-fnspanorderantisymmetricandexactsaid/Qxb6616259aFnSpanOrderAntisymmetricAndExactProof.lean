/- A proof of 'Rows.FnSpanOrderAntisymmetricAndExactSaid'. -/
import Derived.Test.Qxb6616259aRows
import Derived.Test.Qxb6616259aSpan
namespace Go.Proofs.Qxb6616259a.fnSpanOrderAntisymmetricAndExact
open Go.ChangeShapes Go.WideShapes Go.ChangeAt Go.RowKit
set_option linter.unusedVariables false

set_option maxHeartbeats 1000000 in
theorem walk_ss (b o b' o' : Nat) (t t' : Int) (s s' : ByteArray) (w : World) (H : SpanAt w b o t s) (H' : SpanAt w b' o' t' s') :
    Calls Try.prog 6 #[.pointer (some ⟨b, o, none⟩), .pointer (some ⟨b', o', none⟩)] w fun e w' => e = .returned (.bool true) ∧ Below w.heap.size w w' := by
  have bd := ord_bd t s t' s'
  obtain ⟨bd1, bd2⟩ : -1 ≤ orI (sgn t t') (cb s s') ∧ orI (sgn t t') (cb s s') ≤ 1 := bd
  have HA : Hid (ord t' s' t s = - ord t s t' s') := ord_anti t s t' s'
  have HH : Hid (SpanAt w b o t s) := H
  have HH' : Hid (SpanAt w b' o' t' s') := H'
  clear H H'
  go_enter Try.func6, Try.ntmps6
  go_wp2_with fail
  refine (spanBytes_any b o _ t s _ HH.out (by omega) (by omega)).mono ?_
  rintro e w1 ⟨r1, ⟨rfl, hw1⟩, q1, q2⟩
  rw [hw1]; clear hw1 w1
  go_wp2_with fail
  refine (spanBytes_any b' o' _ t' s' _ HH'.out (by omega) (by omega)).mono ?_
  rintro e w1 ⟨r2, ⟨rfl, hw1⟩, q3, q4⟩
  rw [hw1]; clear hw1 w1
  by_cases hbig : r2 ≤ 1048576
  · go_wp2_with fail
    refine (want_any b o b' o' t t' s s' _ HH.out.sz HH'.out.sz HH.out.ts HH.out.id HH'.out.ts HH'.out.id).mono ?_
    rintro e w1 ⟨rfl, n1, hw1⟩
    have B1 : Below w.heap.size w w1 := by rw [hw1]; exact below_drewN (Below.refl _ _) _
    clear hw1 n1
    go_wp2_with fail
    refine (zzOrder_any b o b' o' t t' s s' _ (below_some B1 HH.out.ts) (below_some B1 HH.out.id) (below_some B1 HH'.out.ts) (below_some B1 HH'.out.id)).mono ?_
    rintro e w2 ⟨rfl, b2⟩
    have B2 : Below w.heap.size w w2 := B1.trans (b2.mono B1.size)
    clear b2
    go_wp2_with fail
    refine (zzOrder_any b' o' b o t' t s' s _ (below_some B2 HH'.out.ts) (below_some B2 HH'.out.id) (below_some B2 HH.out.ts) (below_some B2 HH.out.id)).mono ?_
    rintro e w3 ⟨rfl, b3⟩
    have B3 : Below w.heap.size w w3 := B2.trans (b3.mono B2.size)
    clear b3
    have e1 : orI (sgn t' t) (cb s' s) = - orI (sgn t t') (cb s s') := HA.out
    rw [e1]; clear e1
    go_wp2
    go_ret
    exact ⟨rfl, B3⟩
  · go_wp2
    go_ret
    exact ⟨rfl, Below.refl _ _⟩

set_option maxHeartbeats 400000 in
theorem walk (a0 a1 : Option Addr) (w : World) (w0 : IsSpan w a0) (w1 : IsSpan w a1) :
    Calls Try.prog 6 #[.pointer a0, .pointer a1] w fun e w' => e = .returned (.bool true) ∧ Below w.heap.size w w' := by
  rcases w0 with rfl | ⟨b, o, t, s, rfl, H⟩
  · go_enter Try.func6, Try.ntmps6
    go_wp2
    go_ret
    exact ⟨rfl, Below.refl _ _⟩
  · rcases w1 with rfl | ⟨b', o', t', s', rfl, H'⟩
    · clear H
      go_enter Try.func6, Try.ntmps6
      go_wp2
      go_ret
      exact ⟨rfl, Below.refl _ _⟩
    · exact walk_ss b o b' o' t t' s s' w H H'

/-! ### THE ROW's STEP -/
set_option maxRecDepth 100000 in
theorem lifted (os : Os) (started : os.Started) (H : Type) (enc : TypeId × Value → H) :
    ReturnsInHanded {} Try.checked os 6 .any (Rows.fnSpanOrderAntisymmetricAndExactSpec.pre6 enc Try.prog Try.f6 Rows.fnSpanOrderAntisymmetricAndExactRow.domain false) (Rows.fnSpanOrderAntisymmetricAndExactSpec.post enc Try.prog Try.f6 false true false false) := by
  refine returnsInHanded_of_change (C := Try.checked) own started (by kernel_rfl) Try.func6
    (ChangeSpec.witness6 (enc := enc) (C := Try.checked) false ⟨#[], #[.pointer none, .pointer none], []⟩ 8 (by kernel_rfl) (by kernel_rfl) (by kernel_rfl) (by kernel_rfl)) ?_
  intro W base args ds gs before hval0 hW hcnd _
  have hval : ∀ (j : Nat) t v, Try.f6.params[j]? = some t → args[j]? = some v → Value.okWide Try.prog W .any base t v := hval0
  have hW' := hW
  obtain ⟨p, q, hA0, hV, rfl, hfz, hnd⟩ := hW
  have hA : DataW.TrodAll enc Try.prog W 0 (fun _ => true) true Try.f6.params.toList args.toList ds p := hA0
  rw [Try.params6] at hA hval
  obtain ⟨v0, vs0, d0, ds0, p0, q0, hargs, rfl, rfl, h0, r0⟩ := trodAll_cons hA
  obtain ⟨v1, vs1, d1, ds1, p1, q1, rfl, rfl, rfl, h1, r1⟩ := trodAll_cons r0
  obtain ⟨rfl, rfl, rfl⟩ := trodAll_nil r1
  obtain rfl : args = #[v0, v1] := by cases args; simp_all
  obtain ⟨rfl, rfl⟩ := trodVars_none hV
  obtain ⟨a0, rfl, w0⟩ := open_span (hval 0 48 v0 rfl rfl) h0
  have lt0 : ∀ x ∈ p0, x.block < W.heap.size := by obtain ⟨m, hm⟩ := h0; exact DataW.trod_lt m _ _ _ hm
  obtain ⟨a1, rfl, w1⟩ := open_span (hval 1 48 v1 rfl rfl) h1
  have lt1 : ∀ x ∈ p1, x.block < W.heap.size := by obtain ⟨m, hm⟩ := h1; exact DataW.trod_lt m _ _ _ hm
  clear hA0 hval0
  refine (walk a0 a1 W w0 w1).mono fun e W' ⟨he, bel⟩ => ?_
  subst he
  exact ⟨_, rfl, _, _, _, [], _, [], hW', trodAll_mk1 (shut_bool Try.underlying4 _), (trodAll_cons_mk (Below.trod laidOut (by kernel_rfl) (of_decide_eq_true (by kernel_rfl)) h0 bel lt0) (trodAll_cons_mk (Below.trod laidOut (by kernel_rfl) (of_decide_eq_true (by kernel_rfl)) h1 bel lt1) trodAll_mk0)), rfl, bel.frame _, fun h => by cases h⟩

theorem over : Rows.fnSpanOrderAntisymmetricAndExactRow.holds Try.pinned (OpenSpec.ofChange Rows.fnSpanOrderAntisymmetricAndExactSpec) :=
  OpenClaim.holds_of_wide 6 Try.f6 rfl rfl rfl rfl rfl rfl rfl ⟨rfl, rfl, rfl, rfl, rfl⟩ rfl rfl rfl rfl rfl (by kernel_rfl) Try.func6 (by kernel_rfl)
    (of_decide_eq_true (by kernel_rfl)) (by unfold Func.isWrapper; first | (rw [if_pos (by decide +kernel)]; kernel_rfl) | (rw [if_neg (by decide +kernel)]; exact ⟨rfl, rfl⟩))
    (fun os started H enc _ => lifted os started H enc)

theorem proved : Rows.FnSpanOrderAntisymmetricAndExactSaid :=
  over
end Go.Proofs.Qxb6616259a.fnSpanOrderAntisymmetricAndExact
