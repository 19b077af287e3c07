/- A proof of 'Rows.FnSpanOrderTransitiveAndExactSaid'. -/
import Derived.Test.Qxb6616259aRows
import Derived.Test.Qxb6616259aSpan
namespace Go.Proofs.Qxb6616259a.fnSpanOrderTransitiveAndExact
open Go.ChangeShapes Go.WideShapes Go.ChangeAt Go.RowKit
set_option linter.unusedVariables false

set_option maxHeartbeats 2000000 in
theorem walk_sss (b o b' o' b'' o'' : Nat) (t t' t'' : Int) (s s' s'' : ByteArray) (w : World) (H : SpanAt w b o t s) (H' : SpanAt w b' o' t' s') (H'' : SpanAt w b'' o'' t'' s'') :
    Calls Try.prog 7 #[.pointer (some ⟨b, o, none⟩), .pointer (some ⟨b', o', none⟩), .pointer (some ⟨b'', o'', none⟩)] w fun e w' => e = .returned (.bool true) ∧ Below w.heap.size w w' := by
  have HT : Hid (ord t s t' s' ≤ 0 → ord t' s' t'' s'' ≤ 0 → ord t s t'' s'' ≤ 0 ∧ (ord t s t' s' < 0 ∨ ord t' s' t'' s'' < 0 → ord t s t'' s'' < 0)) := ord_trans t s t' s' t'' s''
  have HA : Hid (SpanAt w b o t s) := H
  have HB : Hid (SpanAt w b' o' t' s') := H'
  have HC : Hid (SpanAt w b'' o'' t'' s'') := H''
  clear H H' H''
  go_enter Try.func7, Try.ntmps7
  go_wp2_with fail
  refine (spanBytes_any b o _ t s _ HA.out (by omega) (by omega)).mono ?_
  rintro e w1 ⟨r1, ⟨rfl, hw1⟩, q1, q2⟩
  rw [hw1]; clear hw1 w1
  go_wp2_with fail
  refine (spanBytes_any b' o' _ t' s' _ HB.out (by omega) (by omega)).mono ?_
  rintro e w1 ⟨r2, ⟨rfl, hw1⟩, q3, q4⟩
  rw [hw1]; clear hw1 w1
  go_wp2_with fail
  refine (spanBytes_any b'' o'' _ t'' s'' _ HC.out (by omega) (by omega)).mono ?_
  rintro e w1 ⟨r3, ⟨rfl, hw1⟩, q5, q6⟩
  rw [hw1]; clear hw1 w1
  by_cases hbig : r3 ≤ 1048576
  · skip
    go_wp2_with fail
    refine (want_any b o b' o' t t' s s' _ HA.out.sz HB.out.sz HA.out.ts HA.out.id HB.out.ts HB.out.id).mono ?_
    rintro e w1 ⟨rfl, n1, hw1⟩
    have B1 : Below w.heap.size w w1 := by rw [hw1]; exact below_drewN (Below.refl _ _) _
    clear hw1 n1
    go_wp2_with fail
    refine (want_any b' o' b'' o'' t' t'' s' s'' _ HB.out.sz HC.out.sz (below_some B1 HB.out.ts) (below_some B1 HB.out.id) (below_some B1 HC.out.ts) (below_some B1 HC.out.id)).mono ?_
    rintro e w2 ⟨rfl, n1, hw1⟩
    have B2 : Below w.heap.size w w2 := by rw [hw1]; exact below_drewN B1 _
    clear hw1 n1
    go_wp2_with fail
    refine (want_any b o b'' o'' t t'' s s'' _ HA.out.sz HC.out.sz (below_some B2 HA.out.ts) (below_some B2 HA.out.id) (below_some B2 HC.out.ts) (below_some B2 HC.out.id)).mono ?_
    rintro e w3 ⟨rfl, n1, hw1⟩
    have B3 : Below w.heap.size w w3 := by rw [hw1]; exact below_drewN B2 _
    clear hw1 n1
    go_wp2_with fail
    refine (zzOrder_any b o b' o' t t' s s' _ (below_some B3 HA.out.ts) (below_some B3 HA.out.id) (below_some B3 HB.out.ts) (below_some B3 HB.out.id)).mono ?_
    rintro e w4 ⟨rfl, b2⟩
    have B4 : Below w.heap.size w w4 := B3.trans (b2.mono B3.size)
    clear b2
    go_wp2_with fail
    refine (zzOrder_any b' o' b'' o'' t' t'' s' s'' _ (below_some B4 HB.out.ts) (below_some B4 HB.out.id) (below_some B4 HC.out.ts) (below_some B4 HC.out.id)).mono ?_
    rintro e w5 ⟨rfl, b2⟩
    have B5 : Below w.heap.size w w5 := B4.trans (b2.mono B4.size)
    clear b2
    go_wp2_with fail
    refine (zzOrder_any b o b'' o'' t t'' s s'' _ (below_some B5 HA.out.ts) (below_some B5 HA.out.id) (below_some B5 HC.out.ts) (below_some B5 HC.out.id)).mono ?_
    rintro e w6 ⟨rfl, b2⟩
    have B6 : Below w.heap.size w w6 := B5.trans (b2.mono B5.size)
    clear b2
    have T : orI (sgn t t') (cb s s') ≤ 0 → orI (sgn t' t'') (cb s' s'') ≤ 0 → orI (sgn t t'') (cb s s'') ≤ 0 ∧ (orI (sgn t t') (cb s s') < 0 ∨ orI (sgn t' t'') (cb s' s'') < 0 → orI (sgn t t'') (cb s s'') < 0) := HT.out
    clear HT HA HB HC B1 B2 B3 B4 B5
    generalize orI (sgn t t') (cb s s') = ab at *
    generalize orI (sgn t' t'') (cb s' s'') = bc at *
    generalize orI (sgn t t'') (cb s s'') = ac at *
    by_cases c1 : ab ≤ 0
    · by_cases c2 : bc ≤ 0
      · obtain ⟨T1, T2⟩ := T c1 c2
        clear T
        by_cases c3 : ab < 0
        · have c4 : ac < 0 := T2 (.inl c3)
          clear T2
          go_wp2
          all_goals (go_ret; exact ⟨rfl, B6⟩)
        · by_cases c5 : bc < 0
          · have c4 : ac < 0 := T2 (.inr c5)
            clear T2
            go_wp2
            all_goals (go_ret; exact ⟨rfl, B6⟩)
          · clear T2
            go_wp2
            all_goals (go_ret; exact ⟨rfl, B6⟩)
      · clear T
        go_wp2
        all_goals (go_ret; exact ⟨rfl, B6⟩)
    · clear T
      go_wp2
      all_goals (go_ret; exact ⟨rfl, B6⟩)
  · go_wp2
    go_ret
    exact ⟨rfl, Below.refl _ _⟩

set_option maxHeartbeats 400000 in
theorem walk (a0 a1 a2 : Option Addr) (w : World) (w0 : IsSpan w a0) (w1 : IsSpan w a1) (w2 : IsSpan w a2) :
    Calls Try.prog 7 #[.pointer a0, .pointer a1, .pointer a2] w fun e w' => e = .returned (.bool true) ∧ Below w.heap.size w w' := by
  rcases w0 with rfl | ⟨b, o, t, s, rfl, H⟩
  · clear w1 w2
    go_enter Try.func7, Try.ntmps7
    go_wp2
    go_ret
    exact ⟨rfl, Below.refl _ _⟩
  · rcases w1 with rfl | ⟨b', o', t', s', rfl, H'⟩
    · clear H w2
      go_enter Try.func7, Try.ntmps7
      go_wp2
      go_ret
      exact ⟨rfl, Below.refl _ _⟩
    · rcases w2 with rfl | ⟨b'', o'', t'', s'', rfl, H''⟩
      · clear H H'
        go_enter Try.func7, Try.ntmps7
        go_wp2
        go_ret
        exact ⟨rfl, Below.refl _ _⟩
      · exact walk_sss b o b' o' b'' o'' t t' t'' s s' s'' w H H' H''

/-! ### THE ROW's STEP -/
set_option maxRecDepth 100000 in
theorem lifted (os : Os) (started : os.Started) (H : Type) (enc : TypeId × Value → H) :
    ReturnsInHanded {} Try.checked os 7 .any (Rows.fnSpanOrderTransitiveAndExactSpec.pre6 enc Try.prog Try.f7 Rows.fnSpanOrderTransitiveAndExactRow.domain false) (Rows.fnSpanOrderTransitiveAndExactSpec.post enc Try.prog Try.f7 false true false false) := by
  refine returnsInHanded_of_change (C := Try.checked) own started (by kernel_rfl) Try.func7
    (ChangeSpec.witness6 (enc := enc) (C := Try.checked) false ⟨#[], #[.pointer none, .pointer none, .pointer none], []⟩ 8 (by kernel_rfl) (by kernel_rfl) (by kernel_rfl) (by kernel_rfl)) ?_
  intro W base args ds gs before hval0 hW hcnd _
  have hval : ∀ (j : Nat) t v, Try.f7.params[j]? = some t → args[j]? = some v → Value.okWide Try.prog W .any base t v := hval0
  have hW' := hW
  obtain ⟨p, q, hA0, hV, rfl, hfz, hnd⟩ := hW
  have hA : DataW.TrodAll enc Try.prog W 0 (fun _ => true) true Try.f7.params.toList args.toList ds p := hA0
  rw [Try.params7] at hA hval
  obtain ⟨v0, vs0, d0, ds0, p0, q0, hargs, rfl, rfl, h0, r0⟩ := trodAll_cons hA
  obtain ⟨v1, vs1, d1, ds1, p1, q1, rfl, rfl, rfl, h1, r1⟩ := trodAll_cons r0
  obtain ⟨v2, vs2, d2, ds2, p2, q2, rfl, rfl, rfl, h2, r2⟩ := trodAll_cons r1
  obtain ⟨rfl, rfl, rfl⟩ := trodAll_nil r2
  obtain rfl : args = #[v0, v1, v2] := by cases args; simp_all
  obtain ⟨rfl, rfl⟩ := trodVars_none hV
  obtain ⟨a0, rfl, w0⟩ := open_span (hval 0 48 v0 rfl rfl) h0
  have lt0 : ∀ x ∈ p0, x.block < W.heap.size := by obtain ⟨m, hm⟩ := h0; exact DataW.trod_lt m _ _ _ hm
  obtain ⟨a1, rfl, w1⟩ := open_span (hval 1 48 v1 rfl rfl) h1
  have lt1 : ∀ x ∈ p1, x.block < W.heap.size := by obtain ⟨m, hm⟩ := h1; exact DataW.trod_lt m _ _ _ hm
  obtain ⟨a2, rfl, w2⟩ := open_span (hval 2 48 v2 rfl rfl) h2
  have lt2 : ∀ x ∈ p2, x.block < W.heap.size := by obtain ⟨m, hm⟩ := h2; exact DataW.trod_lt m _ _ _ hm
  clear hA0 hval0
  refine (walk a0 a1 a2 W w0 w1 w2).mono fun e W' ⟨he, bel⟩ => ?_
  subst he
  exact ⟨_, rfl, _, _, _, [], _, [], hW', trodAll_mk1 (shut_bool Try.underlying4 _), (trodAll_cons_mk (Below.trod laidOut (by kernel_rfl) (of_decide_eq_true (by kernel_rfl)) h0 bel lt0) (trodAll_cons_mk (Below.trod laidOut (by kernel_rfl) (of_decide_eq_true (by kernel_rfl)) h1 bel lt1) (trodAll_cons_mk (Below.trod laidOut (by kernel_rfl) (of_decide_eq_true (by kernel_rfl)) h2 bel lt2) trodAll_mk0))), rfl, bel.frame _, fun h => by cases h⟩

theorem over : Rows.fnSpanOrderTransitiveAndExactRow.holds Try.pinned (OpenSpec.ofChange Rows.fnSpanOrderTransitiveAndExactSpec) :=
  OpenClaim.holds_of_wide 7 Try.f7 rfl rfl rfl rfl rfl rfl rfl ⟨rfl, rfl, rfl, rfl, rfl⟩ rfl rfl rfl rfl rfl (by kernel_rfl) Try.func7 (by kernel_rfl)
    (of_decide_eq_true (by kernel_rfl)) (by unfold Func.isWrapper; first | (rw [if_pos (by decide +kernel)]; kernel_rfl) | (rw [if_neg (by decide +kernel)]; exact ⟨rfl, rfl⟩))
    (fun os started H enc _ => lifted os started H enc)

theorem proved : Rows.FnSpanOrderTransitiveAndExactSaid :=
  over
end Go.Proofs.Qxb6616259a.fnSpanOrderTransitiveAndExact
