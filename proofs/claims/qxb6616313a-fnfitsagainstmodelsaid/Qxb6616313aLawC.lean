/- LAW 4: FnFitsAgainstModel: ITS CONTRACT. -/
import Derived.Test.Qxb6616313aModel
import Derived.BigQuiet
namespace Go.Proofs.Qxb6616313a
open Go.ChangeShapes Go.WideShapes Go.ChangeAt Go.RowKit
set_option linter.unusedVariables false

set_option maxRecDepth 100000 in
set_option maxHeartbeats 8000000 in
theorem law4_any (w : World) (k0 : Int) (a1 a2 a3 a4 a5 a6 a7 a8 a9 a10 : Option Addr) (n1 n2 n3 n4 n5 n6 n7 n8 n9 n10 c1 c2 c3 c4 c5 c6 c7 c8 c9 c10 : Nat) (ends hs cs fs uh rs : List Int) (vs : List (Option Addr × Nat × Nat)) (xss : List (List Int)) (ch cc : List Int) (cov : List Bool)
    (b1 : n1 ≤ 9223372036854775807) (b2 : n2 ≤ 9223372036854775807) (b3 : n3 ≤ 9223372036854775807) (b4 : n4 ≤ 9223372036854775807) (b5 : n5 ≤ 9223372036854775807) (b6 : n6 ≤ 9223372036854775807) (b7 : n7 ≤ 9223372036854775807) (b8 : n8 ≤ 9223372036854775807) (b9 : n9 ≤ 9223372036854775807) (b10 : n10 ≤ 9223372036854775807)
    (hc2 : n2 ≤ c2) (hc3 : n3 ≤ c3)
    (L1 : Hid (ends.length = n1)) (L2 : Hid (hs.length = n2)) (L3 : Hid (cs.length = n3)) (L4 : Hid (fs.length = n4)) (L5 : Hid (uh.length = n5)) (L6 : Hid (rs.length = n6)) (L7 : Hid (vs.length = n7)) (L8 : Hid (ch.length = n8)) (L9 : Hid (cc.length = n9)) (L10 : Hid (cov.length = n10))
    (r1 : Hid (RdI w a1 ends)) (r2 : Hid (RdI w a2 hs)) (r3 : Hid (RdU w a3 cs)) (r4 : Hid (Rd8 w a4 fs)) (r5 : Hid (RdI w a5 uh)) (r6 : Hid (RdI w a6 rs)) (r7 : Hid (RdS w a7 vs)) (r8 : Hid (RdI w a8 ch)) (r9 : Hid (RdU w a9 cc)) (r10 : Hid (RdO w a10 cov)) (ri : Hid (Inner w vs xss))
    (z1 : Hid (a1 = none → n1 = 0)) (z2 : Hid (a2 = none → n2 = 0)) (z3 : Hid (a3 = none → n3 = 0)) (z4 : Hid (a4 = none → n4 = 0)) (z5 : Hid (a5 = none → n5 = 0)) (z6 : Hid (a6 = none → n6 = 0)) (z7 : Hid (a7 = none → n7 = 0)) (z10 : Hid (a10 = none → n10 = 0))
    (hln : Hid (∀ v ∈ vs, v.2.1 ≤ 9223372036854775807)) (hvn : Hid (∀ v ∈ vs, v.1 = none → v.2.1 = 0))
    (wu : Hid (∀ x ∈ uh, (Lit.int .i64 x).wf = true)) (wr5 : Hid (∀ x ∈ rs, (Lit.int .i64 x).wf = true)) :
    Calls Try.prog 4 #[.int .i64 k0, .slice a1 n1 c1, .slice a2 n2 c2, .slice a3 n3 c3, .slice a4 n4 c4, .slice a5 n5 c5, .slice a6 n6 c6, .slice a7 n7 c7, .slice a8 n8 c8, .slice a9 n9 c9, .slice a10 n10 c10] w (RLaw w) := by
  have HB0 : Hid (∀ n, RLaw w (.returned (.bool true)) (w.drewN n)) := fun n => RLaw.mk (Below_drewN (Below.refl _ _) n)
  go_enter Try.func4, Try.ntmps4
  go_wp2_with fail
  refine (bytes15_any k0 a1 n1 c1 a2 n2 c2 a3 n3 c3 a4 n4 c4 a5 n5 c5 a6 n6 c6 a7 n7 c7 a8 n8 c8 a9 n9 c9 a10 n10 c10 vs w b1 b2 b3 b4 b5 b6 b7 b8 b9 b10 L7 r7 hln).mono ?_
  rintro e w1 ⟨r, ⟨rfl, hw1⟩, hb⟩
  rw [hw1]
  clear hw1 w1
  cases r with
  | false =>
    clear hb
    go_wp2
    go_ret
    exact HB0.out 0
  | true =>
  obtain ⟨hvq, m1, m2, m3, m4, m5, m6, m7, m8, m9, m10⟩ := hb rfl
  have HVQ : Hid (∀ j, j < n7 → (vs.getD j (none, 0, 0)).2.1 ≤ 1048576) := hvq
  clear hvq hb
  go_wp2_with fail
  refine (tooBig_any a1 n1 c1 a2 n2 c2 a3 n3 c3 a4 n4 c4 a5 n5 c5 a6 n6 c6 a7 n7 c7 a8 n8 c8 a9 n9 c9 a10 n10 c10 vs w b1 b2 b3 b4 b5 b6 b7 b8 b9 b10 L7 r7 hln).mono ?_
  rintro e w1 ⟨r, ⟨rfl, hw1⟩, _⟩
  rw [hw1]
  clear hw1 w1
  cases r with
  | true =>
    go_wp2
    go_ret
    exact HB0.out 0
  | false =>
  go_wp2_with fail
  refine (shape_any k0 a1 a2 a3 a4 a6 a7 n1 n2 n3 n4 n6 n7 c1 c2 c3 c4 c6 c7 ends hs cs fs rs vs xss w b1 b2 b3 b4 b6 b7 hc2 hc3 L1 L2 L3 L4 L6 L7 hln r1 r2 r3 r4 r6 r7 ri).mono ?_
  rintro e w1 ⟨⟨nd, rfl⟩, rfl | ⟨s, t, rfl, hok⟩⟩
  · go_wp2
    go_ret
    exact HB0.out _
  have HS : Hid (ShapeOK k0 ends hs cs fs rs vs xss s t) := hok
  have e1 := hok.lh
  have e2 := hok.lf
  have e3 := hok.lr
  rw [L2.out, L3.out] at e1
  rw [L4.out, L1.out] at e2
  rw [L6.out, L7.out] at e3
  subst e1 e2 e3
  have q1 := hok.k0
  have q2 := hok.k1
  have q3 := hok.s0
  have q4 := hok.st
  have q5 := hok.tl
  rw [L1.out] at q2
  rw [L2.out] at q5
  clear hok
  obtain ⟨k, rfl⟩ := Int.eq_ofNat_of_zero_le q1
  obtain ⟨S, rfl⟩ := Int.eq_ofNat_of_zero_le q3
  obtain ⟨T, rfl⟩ := Int.eq_ofNat_of_zero_le (show 0 ≤ t by omega)
  have hST : S ≤ T := by omega
  have hT2 : T ≤ n2 := by omega
  have hk : k < n4 := by omega
  clear q1 q2 q3 q4 q5
  go_wp2_with fail
  refine (clockOK_any a8 a9 n8 n9 c8 c9 ch cc (w.drewN nd) b8 b9 L8 L9 (r8.out.drewN nd) (r9.out.drewN nd)).mono ?_
  rintro e w1 ⟨rfl, nd2, rfl⟩
  cases hokc : okB ch cc with
  | false =>
    go_wp2
    go_ret
    try rw [drewN2]
    exact HB0.out _
  | true =>
  obtain ⟨hrc0, hlc⟩ := okB_rising hokc
  rw [L8.out, L9.out] at hlc
  subst hlc
  have RCH : Hid (Rising ch) := hrc0
  clear hokc hrc0
  by_cases hcv : n10 < n8
  · have g5 : decide ((n10 : Int) < (n8 : Int)) = true := decide_eq_true (by omega)
    have g5' : decide (n10 < n8) = true := decide_eq_true hcv
    go_wp2
    go_ret
    try rw [drewN2]
    exact HB0.out _
  have g5 : decide ((n10 : Int) < (n8 : Int)) = false := decide_eq_false (by omega)
  have g5' : decide (n10 < n8) = false := decide_eq_false hcv
  have hne : Hid (¬ ends = []) := fun e => by have := L1.out; rw [e] at this; simp at this; omega
  go_wp2_with fail
  refine (clone20_any a1 n4 c1 ends (w.drewN (nd + nd2)) L1.out m4 z1.out (r1.out.drewN (nd + nd2))).mono ?_
  rintro e w1 ⟨x1, y1, rfl, t1, o1⟩
  have T1 : Hid (Below w.heap.size w w1) := (Below_drewN (Below.refl _ _) (nd + nd2)).trans t1
  have O1 : Hid (Own (Value.int .i64) 3 w.heap.size w1 x1 ends) := o1
  clear t1 o1
  go_wp2_with fail
  refine (clone20_any a2 n2 c2 hs _ L2.out m2 z2.out (r2.out.below T1.out)).mono ?_
  rintro e w2 ⟨x2, y2, rfl, t2, o2⟩
  have P2 : Hid (RdI w2 x2 hs) := o2.rd
  have C2 : Hid (Below w1.heap.size w1 w2) := t2
  have T2 : Hid (Below w.heap.size w w2) := T1.out.trans (t2.mono T1.out.size)
  clear t2 o2
  go_wp2_with fail
  refine (clone21_any a3 n2 c3 cs _ L3.out m2 z3.out (r3.out.below T2.out)).mono ?_
  rintro e w3 ⟨x3, y3, rfl, t3, o3⟩
  have P3 : Hid (RdU w3 x3 cs) := o3.rd
  have P2 : Hid (RdI w3 x2 hs) := P2.out.below t3
  have C3 : Hid (Below w1.heap.size w1 w3) := C2.out.trans (t3.mono C2.out.size)
  have T3 : Hid (Below w.heap.size w w3) := T1.out.trans (C3.out.mono T1.out.size)
  clear t3 o3 T2 C2
  go_wp2_with fail
  refine (clone22_any a4 n4 c4 fs _ L4.out m4 z4.out (r4.out.below T3.out)).mono ?_
  rintro e w4 ⟨x4, y4, rfl, t4, o4⟩
  have P4 : Hid (Rd8 w4 x4 fs) := o4.rd
  have P3 : Hid (RdU w4 x3 cs) := P3.out.below t4
  have P2 : Hid (RdI w4 x2 hs) := P2.out.below t4
  have C4 : Hid (Below w1.heap.size w1 w4) := C3.out.trans (t4.mono C3.out.size)
  have T4 : Hid (Below w.heap.size w w4) := T1.out.trans (C4.out.mono T1.out.size)
  clear t4 o4 T3 C3
  go_wp2_with fail
  refine (clone20_any a5 n5 c5 uh _ L5.out m5 z5.out (r5.out.below T4.out)).mono ?_
  rintro e w5 ⟨x5, y5, rfl, t5, o5⟩
  have P5 : Hid (RdI w5 x5 uh) := o5.rd
  have P4 : Hid (Rd8 w5 x4 fs) := P4.out.below t5
  have P3 : Hid (RdU w5 x3 cs) := P3.out.below t5
  have P2 : Hid (RdI w5 x2 hs) := P2.out.below t5
  have C5 : Hid (Below w1.heap.size w1 w5) := C4.out.trans (t5.mono C4.out.size)
  have T5 : Hid (Below w.heap.size w w5) := T1.out.trans (C5.out.mono T1.out.size)
  clear t5 o5 T4 C4
  go_wp2_with fail
  refine (clone20_any a6 n6 c6 rs _ L6.out m6 z6.out (r6.out.below T5.out)).mono ?_
  rintro e w6 ⟨x6, y6, rfl, t6, o6⟩
  have P6 : Hid (RdI w6 x6 rs) := o6.rd
  have P5 : Hid (RdI w6 x5 uh) := P5.out.below t6
  have P4 : Hid (Rd8 w6 x4 fs) := P4.out.below t6
  have P3 : Hid (RdU w6 x3 cs) := P3.out.below t6
  have P2 : Hid (RdI w6 x2 hs) := P2.out.below t6
  have C6 : Hid (Below w1.heap.size w1 w6) := C5.out.trans (t6.mono C5.out.size)
  have T6 : Hid (Below w.heap.size w w6) := T1.out.trans (C6.out.mono T1.out.size)
  clear t6 o6 T5 C5
  go_wp2_with fail
  refine (cloneL_any a7 n6 c7 vs xss _ L7.out m6 z7.out (r7.out.below T6.out) (ri.out.below T6.out) HVQ.out (fun j hj => hvn.out _ (getD_mem (by rw [L7.out]; exact hj)))).mono ?_
  rintro e w7 ⟨x7, y7, vs', rfl, t7, vl7, s7, i7, q7⟩
  have V7 : Hid (vs'.length = n6) := vl7
  have S7 : Hid (RdS w7 x7 vs') := s7
  have I7 : Hid (Inner w7 vs' xss) := i7
  have Q7 : Hid (∀ p ∈ vs', p.2.1 ≤ p.2.2 ∧ ∀ x, p.1 = some x → w6.heap.size ≤ x.block ∧ x.block < w7.heap.size) := q7
  have P1 : Hid (RdI w7 x1 ends) := ((O1.out.rd (d := 0)).below C6.out).below t7
  have P6 : Hid (RdI w7 x6 rs) := P6.out.below t7
  have P5 : Hid (RdI w7 x5 uh) := P5.out.below t7
  have P4 : Hid (Rd8 w7 x4 fs) := P4.out.below t7
  have P3 : Hid (RdU w7 x3 cs) := P3.out.below t7
  have P2 : Hid (RdI w7 x2 hs) := P2.out.below t7
  have T7 : Hid (Below w6.heap.size w6 w7) := t7
  clear t7 s7 i7 q7 vl7
  go_wp2_with fail
  refine (new_any x1 x2 x3 x4 x5 x6 x7 n4 n2 n4 n5 n6 y1 y2 y3 y4 y5 y6 y7 ends hs cs fs uh rs vs' w7 m4 m2 m4 m5 m6 L1 L2 L3 L4 L5 L6 V7 P1 P2 P3 P4 P5 P6 S7 wu wr5).mono ?_
  rintro e w8 ⟨l, rfl, hR⟩
  obtain ⟨R, E, F, U, V, ce, HM0⟩ := made_of T1.out O1.out hne.out C6.out T7.out V7.out L6.out I7.out Q7.out hR L2.out L3.out L4.out
  have HM : Hid (Made w n4 n2 n4 ends hs cs fs uh rs xss l R E F U V ce vs' w8) := HM0
  clear HM0 hR P1 P2 P3 P4 P5 P6 S7 I7 Q7 V7 T7 T6 C6 O1 T1 hne
  obtain ⟨vb, pA, q0, rr0, pB, rB, us, hus, hva, hvb, ul, uq, ur, urA, urB, ufar, und⟩ := vouch_facts HM.out HS.out ri.out HVQ.out L7.out
  have HVA : Hid (vouch fs rs vs' k = (vb, (pA, q0, rr0))) := hva
  have HVB : Hid (vouch fs rs vs k = (vb, (pB, q0, rB))) := hvb
  have HUL : Hid (us.length = q0) := ul
  have HUA : Hid (RdI w8 pA us) := urA
  have HUB : Hid (RdI w pB us) := urB
  have HUF : Hid (∀ x, pA = some x → x.block < w8.heap.size ∧ x.block ≠ l ∧ x.block ≠ ce) := ufar
  have HND : Hid (vb = true → ndB us = true) := und
  clear hus hva hvb ul urA urB ufar und HVQ
  obtain ⟨KH, eKH⟩ : ∃ KH, cutL hs S T = KH := ⟨_, rfl⟩
  obtain ⟨KC, eKC⟩ : ∃ KC, cutL cs S T = KC := ⟨_, rfl⟩
  have EKH : Hid (cutL hs S T = KH) := eKH
  have EKC : Hid (cutL cs S T = KC) := eKC
  have LKH : Hid (KH.length = T - S) := by show _ = _; rw [← eKH]; exact cutL_length _ _ _ (by rw [L2.out]; exact hT2)
  have LKC : Hid (KC.length = T - S) := by show _ = _; rw [← eKC]; exact cutL_length _ _ _ (by rw [L3.out]; exact hT2)
  have RKH : Hid (Rising KH) := by have := (okB_rising HS.out.ok).1; simp only [Int.toNat_natCast] at this; rw [← eKH]; exact this
  have BH8 : Hid (Below w.heap.size w w8) := HM.out.bel
  clear eKH eKC g5 g5'
  go_wp2_with fail
  refine (clock_any a8 a9 n8 c8 c9 ch cc w8 m8 L8 L9 (r8.out.below BH8.out) (r9.out.below BH8.out)).mono ?_
  rintro e w9 ⟨rfl, t9, o9⟩
  have T9 : Hid (Below w8.heap.size w8 w9) := t9
  have O9 : Hid (RowE w9 w8.heap.size 64 n8 ch cc n8) := o9
  have s9 : w8.heap.size < w9.heap.size := by obtain ⟨D, hD, _⟩ := o9; exact heap_lt hD
  have BW9 : Hid (Below w.heap.size w w9) := BH8.out.trans (t9.mono BH8.out.size)
  clear t9 o9
  go_wp2_with fail
  refine (clone25_any a10 n10 c10 cov w9 L10.out m10 z10.out (r10.out.below BW9.out)).mono ?_
  rintro e w13 ⟨x13, y13, rfl, t13, o13⟩
  have s13 := t13.size
  obtain ⟨j1, j2, j3, j4, j5, j6, j7⟩ := HM.out.news
  obtain ⟨f1, f2, f3, f4, f5, f6, f7, f8⟩ := HM.out.spare
  have s8 := BH8.out.size
  obtain ⟨cv, hcvr, hv1, hv2, hv3, hv4, hv5, hv6, hv7, hv8, hv9, hv10⟩ : ∃ cv, CovRow w13 x13 cv cov ∧ cv < w13.heap.size ∧ w.heap.size ≤ cv ∧ cv ≠ l ∧ R ≠ cv ∧ E ≠ cv ∧ F ≠ cv ∧ U ≠ cv ∧ V ≠ cv ∧ w8.heap.size ≠ cv ∧ (∀ x, pA = some x → x.block ≠ cv) := by
    by_cases hce : cov = []
    · exact ⟨ce, .inl hce, by omega, f1, f3, f4, f5, f6, f7, f8, by omega, fun x hx => (HUF.out x hx).2.2⟩
    · obtain ⟨cv, u3, u4, k2⟩ := o13.cov hce
      exact ⟨cv, k2, u4, by omega, by omega, by omega, by omega, by omega, by omega, by omega, by omega, fun x hx => by have := (HUF.out x hx).1; omega⟩
  have K2 : Hid (CovRow w13 x13 cv cov) := hcvr
  have T813 : Hid (Below w8.heap.size w8 w13) := T9.out.trans (t13.mono (by omega))
  have RA13 : Hid (RdE w13 (some ⟨w8.heap.size, 0, none⟩) ch cc) := (O9.out.rd L8.out L9.out).below t13
  have BW13 : Hid (Below w.heap.size w w13) := BW9.out.trans (t13.mono BW9.out.size)
  have H13 : Hid (Ready w13 l R E F U V n4 n2 n4 ends hs cs fs uh rs vs' w13.heap.size) := HM.out.ready _ _ (by omega) T813.out
  have Z13 : Hid (HasSame w13 w13.heap.size l) := HM.out.same _ _ T813.out
  have U13 : Hid (RdI w13 pA us) := HUA.out.below T813.out
  have hSs : Hid (startOf ends k = (S : Int)) := by
    have := HS.out.se
    simp only [Int.toNat_natCast] at this
    show _ = _
    rw [this]; unfold startOf
    by_cases e : k = 0
    · rw [if_pos e, if_pos (by omega)]
    · rw [if_neg e, if_neg (by omega)]
  have hTs : Hid (ends.getD k 0 = (T : Int)) := by
    have := HS.out.te
    simp only [Int.toNat_natCast] at this
    exact this.symm
  have hcl2 : Hid (cv < w13.heap.size ∧ cv ≠ l ∧ R ≠ cv ∧ E ≠ cv ∧ F ≠ cv ∧ U ≠ cv ∧ V ≠ cv) := ⟨hv1, hv3, hv4, hv5, hv6, hv7, hv8⟩
  have FA : Hid (Far w13.heap.size l cv (some ⟨w8.heap.size, 0, none⟩)) := fun x hx => by cases hx; refine ⟨?_, ?_, ?_⟩ <;> show _ <;> simp only <;> omega
  have FU : Hid (Far w13.heap.size l cv pA) := fun x hx => by have := HUF.out x hx; have := hv10 x hx; refine ⟨?_, ?_, ?_⟩ <;> omega
  clear t13 o13 hcvr
  go_wp2_with fail
  refine (fits26 w13 l R E F U V n4 n2 n4 ends hs cs fs uh rs vs' w13.heap.size H13 (Nat.le_refl _) k S T hk hk m4 m2 m4 L4 L2 hSs hTs hST hT2 (some ⟨w8.heap.size, 0, none⟩) x13 n8 n8 n10 y13 cv ch cc us vb cov m8 m10 (by omega) L8 L10 K2 Z13 hcl2 RA13 FA RCH KH KC EKH EKC RKH pA q0 rr0 HVA HUL uq ur U13 FU HND).mono ?_
  rintro e w15 ⟨rr, cov2, rfl, hF2, hK2, hC2, hZ2⟩
  have BW15 : Hid (Below w.heap.size w w15) := Kp.below BW13.out hK2 BW13.out.size j1 hv2
  have K2 : Hid (RdO w15 x13 cov2) := hC2.rd
  have LC2 : Hid (cov2.length = n10) := hF2.len.trans L10.out
  have HF2 : Hid (Fits KH KC ch cc us (hasB uh (k : Int)) vb cov rr cov2) := hF2
  have HYES : Hid (rr = true ↔ hasB uh (k : Int) = false ∧ AtBelow KH KC ch cc ∧ ¬ SameCl KH KC ch cc) := law4_yes hF2 RKH.out RCH.out
  have RH15 : Hid (RdI w15 (cutAt a2 c2 S 1) KH) := by
    have := (r2.out.below BW15.out).cut (c := c2) hST (by rw [L2.out]; exact hT2) (by rw [L2.out]; exact hc2)
    rw [EKH.out] at this; exact this
  have RC15 : Hid (RdU w15 (cutAt a3 c3 S 1) KC) := by
    have := (r3.out.below BW15.out).cut (c := c3) hST (by rw [L3.out]; exact hT2) (by rw [L3.out]; exact hc3)
    rw [EKC.out] at this; exact this
  have HP : Hid (∀ n, RLaw w (.returned (.bool true)) (w15.drewN n)) := fun n => RLaw.mk (Below_drewN BW15.out n)
  have hcutH := run_cut (P := Try.prog) 36 3 1 Try.underlying36 size3 a2 n2 c2 S T hST (by omega)
  have hcutC := run_cut (P := Try.prog) 37 61 1 Try.underlying37 size61 a3 n2 c3 S T hST (by omega)
  clear hF2 hK2 hC2 hZ2 H13 Z13 U13 RA13 FA FU hcl2 T813 hSs hTs hv10 T9 O9
  go_wp2_with fail
  obtain ⟨M, hMd⟩ : ∃ M, M = T - S := ⟨_, rfl⟩
  rw [← hMd]
  rw [← hMd] at LKH LKC
  have hMb : M ≤ 9223372036854775807 := by omega
  clear hMd hcutH hcutC
  generalize cutAt a2 c2 S 1 = aH at RH15 ⊢
  generalize cutAt a3 c3 S 1 = aC at RC15 ⊢
  refine (has_any a5 n5 c5 uh (k : Int) w15 b5 L5 (r5.out.below BW15.out)).mono ?_
  rintro e w16 ⟨rfl, h16⟩
  rw [h16]
  clear h16 w16
  generalize hasB uh (k : Int) = hd at HF2 HYES ⊢
  cases hd with
  | true =>
    obtain rfl : rr = false := by
      cases rr with
      | false => rfl
      | true => exact absurd (HYES.out.1 rfl) (by simp)
    clear HYES
    go_wp2_with fail
    refine (vouched_val k a4 a6 a7 n4 n6 n6 c4 c6 c7 fs rs vs vb pB q0 rB w15 b6 b4 hk L4 L6 L7 rfl ((r4.out.below BW15.out)) ((r6.out.below BW15.out)) ((r7.out.below BW15.out)) HVB).mono ?_
    rintro e w18 ⟨rfl, h18⟩
    rw [h18]
    clear h18 w18
    go_wp2
    go_loopw [35] (fun vi wz => ∃ i nz : Nat, i ≤ n10 ∧ vi = .int .i64 i ∧ wz = w15.drewN nz) (fun vi _ => n10 - (intOf vi).toNat)
    case atStart => exact ⟨0, 0, Nat.zero_le _, rfl, rfl⟩
    case round =>
      obtain ⟨i, nz, hi1, rfl, rfl⟩ := hrel
      by_cases hi : i < n10
      · obtain ⟨b10', o10', v, rfl, d10, V10⟩ := (r10.out.below BW15.out).atv L10.out hi
        obtain ⟨b13, o13, v2, rfl, d13, V13⟩ := K2.out.atv LC2.out hi
        have HMK : Hid (v2 = true ↔ _) := law4_marks HF2.out (by rw [L10.out]; exact hi) V10.out V13.out
        have i3 : (i : Int) < (n10 : Int) := by omega
        have hvv : (v != v) = false := by cases v <;> rfl
        obtain rfl : v2 = v := by have := HMK.out; rw [Bool.eq_iff_iff, this]; simp
        clear HMK
        go_wp2
        go_quiet (fail)
        go_wp2
        go_roundw
        case rel => exact ⟨i + 1, _, by omega, by go_num, rfl⟩
        case measure => simp [intOf]; omega
      · go_wp2
        go_ret
        exact HP.out _
  | false =>
  go_wp2_with fail
  refine (below_any aH aC a8 a9 M (c2 - S) (c3 - S) n8 c8 c9 KH KC ch cc w15 hMb b8 LKH LKC L8 L9 RCH RH15 RC15 (r8.out.below BW15.out) (r9.out.below BW15.out)).mono ?_
  rintro e w16 ⟨rb, n16, rfl, rfl, hrb⟩
  cases rb with
  | false =>
    have hnb : ¬ AtBelow KH KC ch cc := fun h => by cases hrb.2 h
    obtain rfl : rr = false := by
      cases rr with
      | false => rfl
      | true => exact absurd (HYES.out.1 rfl) (by simp [hnb])
    clear HYES
    clear hrb hnb
    go_wp2_with fail
    refine (vouched_val k a4 a6 a7 n4 n6 n6 c4 c6 c7 fs rs vs vb pB q0 rB (w15.drewN n16) b6 b4 hk L4 L6 L7 rfl ((r4.out.below BW15.out).drewN n16) ((r6.out.below BW15.out).drewN n16) ((r7.out.below BW15.out).drewN n16) HVB).mono ?_
    rintro e w18 ⟨rfl, h18⟩
    rw [h18]
    clear h18 w18
    go_wp2
    go_loopw [35] (fun vi wz => ∃ i nz : Nat, i ≤ n10 ∧ vi = .int .i64 i ∧ wz = w15.drewN nz) (fun vi _ => n10 - (intOf vi).toNat)
    case atStart => exact ⟨0, n16, Nat.zero_le _, rfl, rfl⟩
    case round =>
      obtain ⟨i, nz, hi1, rfl, rfl⟩ := hrel
      by_cases hi : i < n10
      · obtain ⟨b10', o10', v, rfl, d10, V10⟩ := (r10.out.below BW15.out).atv L10.out hi
        obtain ⟨b13, o13, v2, rfl, d13, V13⟩ := K2.out.atv LC2.out hi
        have HMK : Hid (v2 = true ↔ _) := law4_marks HF2.out (by rw [L10.out]; exact hi) V10.out V13.out
        have i3 : (i : Int) < (n10 : Int) := by omega
        have hvv : (v != v) = false := by cases v <;> rfl
        obtain rfl : v2 = v := by have := HMK.out; rw [Bool.eq_iff_iff, this]; simp
        clear HMK
        go_wp2
        go_quiet (fail)
        go_wp2
        go_roundw
        case rel => exact ⟨i + 1, _, by omega, by go_num, rfl⟩
        case measure => simp [intOf]; omega
      · go_wp2
        go_ret
        exact HP.out _
  | true =>
  have hyb : AtBelow KH KC ch cc := hrb.1 rfl
  have HYB : Hid (AtBelow KH KC ch cc) := hyb
  clear hrb hyb
  go_wp2_with fail
  refine (same_any aH aC a8 a9 M (c2 - S) (c3 - S) n8 c8 c9 KH KC ch cc (w15.drewN n16) hMb b8 LKH LKC L8 L9 (RH15.out.drewN n16) (RC15.out.drewN n16) ((r8.out.below BW15.out).drewN n16) ((r9.out.below BW15.out).drewN n16)).mono ?_
  rintro e w17 ⟨rc, n17, rfl, rfl, hrc⟩
  cases rc with
  | true =>
    have hys : SameCl KH KC ch cc := hrc.1 rfl
    obtain rfl : rr = false := by
      cases rr with
      | false => rfl
      | true => exact absurd (HYES.out.1 rfl) (by simp [hys])
    clear HYES
    clear hrc hys
    go_wp2_with fail
    refine (vouched_val k a4 a6 a7 n4 n6 n6 c4 c6 c7 fs rs vs vb pB q0 rB (w15.drewN (n16 + n17)) b6 b4 hk L4 L6 L7 rfl ((r4.out.below BW15.out).drewN (n16 + n17)) ((r6.out.below BW15.out).drewN (n16 + n17)) ((r7.out.below BW15.out).drewN (n16 + n17)) HVB).mono ?_
    rintro e w18 ⟨rfl, h18⟩
    rw [h18]
    clear h18 w18
    go_wp2
    go_loopw [35] (fun vi wz => ∃ i nz : Nat, i ≤ n10 ∧ vi = .int .i64 i ∧ wz = w15.drewN nz) (fun vi _ => n10 - (intOf vi).toNat)
    case atStart => exact ⟨0, n16 + n17, Nat.zero_le _, rfl, rfl⟩
    case round =>
      obtain ⟨i, nz, hi1, rfl, rfl⟩ := hrel
      by_cases hi : i < n10
      · obtain ⟨b10', o10', v, rfl, d10, V10⟩ := (r10.out.below BW15.out).atv L10.out hi
        obtain ⟨b13, o13, v2, rfl, d13, V13⟩ := K2.out.atv LC2.out hi
        have HMK : Hid (v2 = true ↔ _) := law4_marks HF2.out (by rw [L10.out]; exact hi) V10.out V13.out
        have i3 : (i : Int) < (n10 : Int) := by omega
        have hvv : (v != v) = false := by cases v <;> rfl
        obtain rfl : v2 = v := by have := HMK.out; rw [Bool.eq_iff_iff, this]; simp
        clear HMK
        go_wp2
        go_quiet (fail)
        go_wp2
        go_roundw
        case rel => exact ⟨i + 1, _, by omega, by go_num, rfl⟩
        case measure => simp [intOf]; omega
      · go_wp2
        go_ret
        exact HP.out _
  | false =>
  obtain rfl : rr = true := HYES.out.2 ⟨by trivial, HYB.out, fun h => by cases hrc.2 h⟩
  clear HYES hrc HYB
  go_wp2_with fail
  refine (vouched_val k a4 a6 a7 n4 n6 n6 c4 c6 c7 fs rs vs vb pB q0 rB (w15.drewN (n16 + n17)) b6 b4 hk L4 L6 L7 rfl ((r4.out.below BW15.out).drewN (n16 + n17)) ((r6.out.below BW15.out).drewN (n16 + n17)) ((r7.out.below BW15.out).drewN (n16 + n17)) HVB).mono ?_
  rintro e w18 ⟨rfl, h18⟩
  rw [h18]
  clear h18 w18
  go_wp2
  go_loopw [35] (fun vi wz => ∃ i nz : Nat, i ≤ n10 ∧ vi = .int .i64 i ∧ wz = w15.drewN nz) (fun vi _ => n10 - (intOf vi).toNat)
  case atStart => exact ⟨0, n16 + n17, Nat.zero_le _, rfl, rfl⟩
  case round =>
    obtain ⟨i, nz, hi1, rfl, rfl⟩ := hrel
    by_cases hi : i < n10
    · obtain ⟨b10', o10', v, rfl, d10, V10⟩ := (r10.out.below BW15.out).atv L10.out hi
      obtain ⟨b13, o13, v2, rfl, d13, V13⟩ := K2.out.atv LC2.out hi
      have HMK : Hid (v2 = true ↔ _) := law4_marks HF2.out (by rw [L10.out]; exact hi) V10.out V13.out
      have i3 : (i : Int) < (n10 : Int) := by omega
      have hvv : (v != v) = false := by cases v <;> rfl
      cases vb with
      | false =>
        obtain rfl : v2 = v := by have := HMK.out; rw [Bool.eq_iff_iff, this]; simp
        clear HMK
        go_wp2
        go_quiet (fail)
        go_wp2
        go_roundw
        case rel => exact ⟨i + 1, _, by omega, by go_num, rfl⟩
        case measure => simp [intOf]; omega
      | true =>
      by_cases hiM : i < n8
      · have g6 : decide ((i : Int) < (n8 : Int)) = true := decide_eq_true (by omega)
        have g6' : decide (i < n8) = true := decide_eq_true hiM
        have i4 : (i : Int) < (n8 : Int) := by omega
        obtain ⟨b8', o8', x, rfl, d8, V8⟩ := (r8.out.below BW15.out).atv L8.out hiM
        obtain ⟨b9', o9', y, rfl, d9, V9⟩ := (r9.out.below BW15.out).atv L9.out hiM
        have HMK2 : Hid (v2 = true ↔ v = true ∨ (Gives KH KC x y ∧ ¬ x ∈ us)) := by
          have := HMK.out
          rw [V8.out, V9.out, L8.out] at this
          show _ ↔ _
          simpa [hiM] using this
        clear HMK
        have HG0 : ∀ n m0, Calls Try.prog 31 #[.slice aH M (c2 - S), .slice aC M (c3 - S), .int .i64 x, .int .u64 y] (w15.drewN (n + m0)) (RIff (w15.drewN (n + m0)) (Gives KH KC x y)) := fun n m0 => gives_any aH aC M (c2 - S) (c3 - S) KH KC x y (w15.drewN (n + m0)) hMb LKH LKC (RH15.out.drewN (n + m0)) (RC15.out.drewN (n + m0))
        by_cases hg : Gives KH KC x y
        · have HC31 : ∀ n m0, Calls Try.prog 31 #[.slice aH M (c2 - S), .slice aC M (c3 - S), .int .i64 x, .int .u64 y] (w15.drewN (n + m0)) fun e w' => e = .returned (.bool true) ∧ ∃ j, w' = w15.drewN (n + j) := fun n m0 => (HG0 n m0).mono (fun e w' ⟨r, m, he, hw, hr⟩ => ⟨by rw [he, hr.2 hg], m0 + m, by rw [hw, drewN2, Nat.add_assoc]⟩)
          have HC27' : ∀ n m0, Calls Try.prog 27 #[.slice pB q0 rB, .int .i64 x] (w15.drewN (n + m0)) fun e w' => e = .returned (.bool (hasB us x)) ∧ w' = (w15.drewN (n + m0)) := fun n m0 => has_any pB q0 rB us x (w15.drewN (n + m0)) (by omega) HUL ((HUB.out.below BW15.out).drewN (n + m0))
          clear HG0
          by_cases hm : x ∈ us
          · have HC27 : ∀ n m0, Calls Try.prog 27 #[.slice pB q0 rB, .int .i64 x] (w15.drewN (n + m0)) fun e w' => e = .returned (.bool true) ∧ ∃ j, w' = w15.drewN (n + j) := fun n m0 => (HC27' n m0).mono (fun e w' ⟨he, hw⟩ => ⟨by rw [he, show hasB us x = true from decide_eq_true hm], m0, hw⟩)
            obtain rfl : v2 = v := by have := HMK2.out; rw [Bool.eq_iff_iff, this]; simp [hm]
            clear HMK2 HC27' hg hm
            go_wp2
            go_quiet (first | (go_at_call 31; exact HC31 _ _) | (go_at_call 27; exact HC27 _ _))
            go_wp2
            go_roundw
            case rel => exact ⟨i + 1, _, by omega, by go_num, rfl⟩
            case measure => simp [intOf]; omega
          · have HC27 : ∀ n m0, Calls Try.prog 27 #[.slice pB q0 rB, .int .i64 x] (w15.drewN (n + m0)) fun e w' => e = .returned (.bool false) ∧ ∃ j, w' = w15.drewN (n + j) := fun n m0 => (HC27' n m0).mono (fun e w' ⟨he, hw⟩ => ⟨by rw [he, show hasB us x = false from decide_eq_false hm], m0, hw⟩)
            obtain rfl : v2 = true := HMK2.out.2 (.inr ⟨hg, hm⟩)
            clear HMK2 HC27' hg hm
            go_wp2
            go_quiet (first | (go_at_call 31; exact HC31 _ _) | (go_at_call 27; exact HC27 _ _))
            go_wp2
            go_roundw
            case rel => exact ⟨i + 1, _, by omega, by go_num, rfl⟩
            case measure => simp [intOf]; omega
        · have HC31 : ∀ n m0, Calls Try.prog 31 #[.slice aH M (c2 - S), .slice aC M (c3 - S), .int .i64 x, .int .u64 y] (w15.drewN (n + m0)) fun e w' => e = .returned (.bool false) ∧ ∃ j, w' = w15.drewN (n + j) := fun n m0 => (HG0 n m0).mono (fun e w' ⟨r, m, he, hw, hr⟩ => ⟨by rw [he, show r = false from by cases r; rfl; exact absurd (hr.1 rfl) hg], m0 + m, by rw [hw, drewN2, Nat.add_assoc]⟩)
          obtain rfl : v2 = v := by have := HMK2.out; rw [Bool.eq_iff_iff, this]; simp [hg]
          clear HMK2 HG0 hg
          go_wp2
          go_quiet (first | (go_at_call 31; exact HC31 _ _))
          go_wp2
          go_roundw
          case rel => exact ⟨i + 1, _, by omega, by go_num, rfl⟩
          case measure => simp [intOf]; omega
      · have g6 : decide ((i : Int) < (n8 : Int)) = false := decide_eq_false (by omega)
        have g6' : decide (i < n8) = false := decide_eq_false hiM
        obtain rfl : v2 = v := by have := HMK.out; rw [L8.out] at this; rw [Bool.eq_iff_iff, this]; simp [hiM]
        clear HMK
        go_wp2
        go_quiet (fail)
        go_wp2
        go_roundw
        case rel => exact ⟨i + 1, _, by omega, by go_num, rfl⟩
        case measure => simp [intOf]; omega
    · go_wp2
      go_ret
      exact HP.out _
end Go.Proofs.Qxb6616313a
