/- LAW 5: FnFitsAboveOwnClockOnlyWhenRaised: ITS CONTRACT. -/
import Derived.Test.Qxb6616313aLawA
namespace Go.Proofs.Qxb6616313a
open Go.ChangeShapes Go.WideShapes Go.ChangeAt Go.RowKit
set_option linter.unusedVariables false

set_option maxRecDepth 100000 in
set_option maxHeartbeats 8000000 in
theorem law5_any (w : World) (k0 p0 d0 : Int) (a1 a2 a3 a4 a5 a6 a7 a10 : Option Addr) (n1 n2 n3 n4 n5 n6 n7 n10 c1 c2 c3 c4 c5 c6 c7 c10 : Nat) (ends hs cs fs uh rs : List Int) (vs : List (Option Addr × Nat × Nat)) (xss : List (List Int)) (cov : List Bool)
    (b1 : n1 ≤ 9223372036854775807) (b2 : n2 ≤ 9223372036854775807) (b3 : n3 ≤ 9223372036854775807) (b4 : n4 ≤ 9223372036854775807) (b5 : n5 ≤ 9223372036854775807) (b6 : n6 ≤ 9223372036854775807) (b7 : n7 ≤ 9223372036854775807) (b10 : n10 ≤ 9223372036854775807)
    (hc2 : n2 ≤ c2) (hc3 : n3 ≤ c3)
    (L1 : Hid (ends.length = n1)) (L2 : Hid (hs.length = n2)) (L3 : Hid (cs.length = n3)) (L4 : Hid (fs.length = n4)) (L5 : Hid (uh.length = n5)) (L6 : Hid (rs.length = n6)) (L7 : Hid (vs.length = n7)) (L10 : Hid (cov.length = n10))
    (r1 : Hid (RdI w a1 ends)) (r2 : Hid (RdI w a2 hs)) (r3 : Hid (RdU w a3 cs)) (r4 : Hid (Rd8 w a4 fs)) (r5 : Hid (RdI w a5 uh)) (r6 : Hid (RdI w a6 rs)) (r7 : Hid (RdS w a7 vs)) (r10 : Hid (RdO w a10 cov)) (ri : Hid (Inner w vs xss))
    (z1 : Hid (a1 = none → n1 = 0)) (z2 : Hid (a2 = none → n2 = 0)) (z3 : Hid (a3 = none → n3 = 0)) (z4 : Hid (a4 = none → n4 = 0)) (z5 : Hid (a5 = none → n5 = 0)) (z6 : Hid (a6 = none → n6 = 0)) (z7 : Hid (a7 = none → n7 = 0)) (z10 : Hid (a10 = none → n10 = 0))
    (hln : Hid (∀ v ∈ vs, v.2.1 ≤ 9223372036854775807)) (hvn : Hid (∀ v ∈ vs, v.1 = none → v.2.1 = 0))
    (wu : Hid (∀ x ∈ uh, (Lit.int .i64 x).wf = true)) (wr5 : Hid (∀ x ∈ rs, (Lit.int .i64 x).wf = true)) (hcs : Hid (∀ x ∈ cs, 0 ≤ x ∧ x ≤ 18446744073709551615)) (hd0 : 0 ≤ d0) (hd1 : d0 ≤ 18446744073709551615) :
    Calls Try.prog 5 #[.int .i64 k0, .slice a1 n1 c1, .slice a2 n2 c2, .slice a3 n3 c3, .slice a4 n4 c4, .slice a5 n5 c5, .slice a6 n6 c6, .slice a7 n7 c7, .int .i64 p0, .int .u64 d0, .slice a10 n10 c10] w (RLaw w) := by
  have HB0 : Hid (∀ n, RLaw w (.returned (.bool true)) (w.drewN n)) := fun n => RLaw.mk (Below_drewN (Below.refl _ _) n)
  go_enter Try.func5, Try.ntmps5
  go_wp2_with fail
  refine (bytes32_any k0 a1 n1 c1 a2 n2 c2 a3 n3 c3 a4 n4 c4 a5 n5 c5 a6 n6 c6 a7 n7 c7 p0 d0 a10 n10 c10 vs w b1 b2 b3 b4 b5 b6 b7 b10 L7 r7 hln).mono ?_
  rintro e w1 ⟨r, ⟨rfl, hw1⟩, hb⟩
  rw [hw1]
  clear hw1 w1
  cases r with
  | false =>
    clear hb
    go_wp2
    go_ret
    exact HB0.out 0
  | true =>
  obtain ⟨hvq, m1, m2, m3, m4, m5, m6, m7, m10⟩ := hb rfl
  have HVQ : Hid (∀ j, j < n7 → (vs.getD j (none, 0, 0)).2.1 ≤ 1048576) := hvq
  clear hvq hb
  go_wp2_with fail
  refine (tooBig_any a1 n1 c1 a2 n2 c2 a3 n3 c3 a4 n4 c4 a5 n5 c5 a6 n6 c6 a7 n7 c7 none 0 0 none 0 0 a10 n10 c10 vs w b1 b2 b3 b4 b5 b6 b7 (by omega) (by omega) b10 L7 r7 hln).mono ?_
  rintro e w1 ⟨r, ⟨rfl, hw1⟩, _⟩
  rw [hw1]
  clear hw1 w1
  cases r with
  | true =>
    go_wp2
    go_ret
    exact HB0.out 0
  | false =>
  go_wp2_with fail
  refine (shape_any k0 a1 a2 a3 a4 a6 a7 n1 n2 n3 n4 n6 n7 c1 c2 c3 c4 c6 c7 ends hs cs fs rs vs xss w b1 b2 b3 b4 b6 b7 hc2 hc3 L1 L2 L3 L4 L6 L7 hln r1 r2 r3 r4 r6 r7 ri).mono ?_
  rintro e w1 ⟨⟨nd, rfl⟩, rfl | ⟨s, t, rfl, hok⟩⟩
  · go_wp2
    go_ret
    exact HB0.out _
  have HS : Hid (ShapeOK k0 ends hs cs fs rs vs xss s t) := hok
  have e1 := hok.lh
  have e2 := hok.lf
  have e3 := hok.lr
  rw [L2.out, L3.out] at e1
  rw [L4.out, L1.out] at e2
  rw [L6.out, L7.out] at e3
  subst e1 e2 e3
  have q1 := hok.k0
  have q2 := hok.k1
  have q3 := hok.s0
  have q4 := hok.st
  have q5 := hok.tl
  rw [L1.out] at q2
  rw [L2.out] at q5
  clear hok
  obtain ⟨k, rfl⟩ := Int.eq_ofNat_of_zero_le q1
  obtain ⟨S, rfl⟩ := Int.eq_ofNat_of_zero_le q3
  obtain ⟨T, rfl⟩ := Int.eq_ofNat_of_zero_le (show 0 ≤ t by omega)
  have hST : S ≤ T := by omega
  have hT2 : T ≤ n2 := by omega
  have hk : k < n4 := by omega
  clear q1 q2 q3 q4 q5
  by_cases hp0 : p0 < 0
  · have g1 : decide (p0 < 0) = true := decide_eq_true hp0
    go_wp2
    go_ret
    exact HB0.out _
  have g1 : decide (p0 < 0) = false := decide_eq_false hp0
  obtain ⟨p, rfl⟩ := Int.eq_ofNat_of_zero_le (show 0 ≤ p0 by omega)
  by_cases hpT : T - S ≤ p
  · have g2 : decide ((T : Int) - (S : Int) ≤ (p : Int)) = true := decide_eq_true (by omega)
    go_wp2
    go_ret
    exact HB0.out _
  have g2 : decide ((T : Int) - (S : Int) ≤ (p : Int)) = false := decide_eq_false (by omega)
  by_cases hdz : d0 = 0
  · have g3 : (d0 == 0) = true := by simpa using hdz
    go_wp2
    go_ret
    exact HB0.out _
  have g3 : (d0 == 0) = false := by simpa using hdz
  obtain ⟨bu, offu, c, rfl, hcc, HCP⟩ := r3.out.atv (k := S + p) L3.out (by omega)
  have hcb : 0 ≤ c ∧ c ≤ 18446744073709551615 := by
    have := hcs.out _ (getD_mem (d := 0) (show S + p < cs.length by rw [L3.out]; omega))
    rw [HCP.out] at this
    exact this
  have i1 : (S : Int) + (p : Int) < (n2 : Int) := by omega
  by_cases hov : 18446744073709551615 - d0 < c
  · have g4 : decide (18446744073709551615 - d0 < c) = true := decide_eq_true hov
    go_wp2
    go_ret
    exact HB0.out _
  have g4 : decide (18446744073709551615 - d0 < c) = false := decide_eq_false hov
  by_cases hcv : n10 < T - S
  · have g5 : decide ((n10 : Int) < (T : Int) - (S : Int)) = true := decide_eq_true (by omega)
    go_wp2
    go_ret
    exact HB0.out _
  have g5 : decide ((n10 : Int) < (T : Int) - (S : Int)) = false := decide_eq_false (by omega)
  have hne : Hid (¬ ends = []) := fun e => by have := L1.out; rw [e] at this; simp at this; omega
  go_wp2_with fail
  refine (clone20_any a1 n4 c1 ends (w.drewN nd) L1.out m4 z1.out (r1.out.drewN nd)).mono ?_
  rintro e w1 ⟨x1, y1, rfl, t1, o1⟩
  have T1 : Hid (Below w.heap.size w w1) := (Below_drewN (Below.refl _ _) nd).trans t1
  have O1 : Hid (Own (Value.int .i64) 3 w.heap.size w1 x1 ends) := o1
  clear t1 o1
  go_wp2_with fail
  refine (clone20_any a2 n2 c2 hs _ L2.out m2 z2.out (r2.out.below T1.out)).mono ?_
  rintro e w2 ⟨x2, y2, rfl, t2, o2⟩
  have P2 : Hid (RdI w2 x2 hs) := o2.rd
  have C2 : Hid (Below w1.heap.size w1 w2) := t2
  have T2 : Hid (Below w.heap.size w w2) := T1.out.trans (t2.mono T1.out.size)
  clear t2 o2
  go_wp2_with fail
  refine (clone21_any (some ⟨bu, offu, none⟩) n2 c3 cs _ L3.out m2 (fun h => by cases h) (r3.out.below T2.out)).mono ?_
  rintro e w3 ⟨x3, y3, rfl, t3, o3⟩
  have P3 : Hid (RdU w3 x3 cs) := o3.rd
  have P2 : Hid (RdI w3 x2 hs) := P2.out.below t3
  have C3 : Hid (Below w1.heap.size w1 w3) := C2.out.trans (t3.mono C2.out.size)
  have T3 : Hid (Below w.heap.size w w3) := T1.out.trans (C3.out.mono T1.out.size)
  clear t3 o3 T2 C2
  go_wp2_with fail
  refine (clone22_any a4 n4 c4 fs _ L4.out m4 z4.out (r4.out.below T3.out)).mono ?_
  rintro e w4 ⟨x4, y4, rfl, t4, o4⟩
  have P4 : Hid (Rd8 w4 x4 fs) := o4.rd
  have P3 : Hid (RdU w4 x3 cs) := P3.out.below t4
  have P2 : Hid (RdI w4 x2 hs) := P2.out.below t4
  have C4 : Hid (Below w1.heap.size w1 w4) := C3.out.trans (t4.mono C3.out.size)
  have T4 : Hid (Below w.heap.size w w4) := T1.out.trans (C4.out.mono T1.out.size)
  clear t4 o4 T3 C3
  go_wp2_with fail
  refine (clone20_any a5 n5 c5 uh _ L5.out m5 z5.out (r5.out.below T4.out)).mono ?_
  rintro e w5 ⟨x5, y5, rfl, t5, o5⟩
  have P5 : Hid (RdI w5 x5 uh) := o5.rd
  have P4 : Hid (Rd8 w5 x4 fs) := P4.out.below t5
  have P3 : Hid (RdU w5 x3 cs) := P3.out.below t5
  have P2 : Hid (RdI w5 x2 hs) := P2.out.below t5
  have C5 : Hid (Below w1.heap.size w1 w5) := C4.out.trans (t5.mono C4.out.size)
  have T5 : Hid (Below w.heap.size w w5) := T1.out.trans (C5.out.mono T1.out.size)
  clear t5 o5 T4 C4
  go_wp2_with fail
  refine (clone20_any a6 n6 c6 rs _ L6.out m6 z6.out (r6.out.below T5.out)).mono ?_
  rintro e w6 ⟨x6, y6, rfl, t6, o6⟩
  have P6 : Hid (RdI w6 x6 rs) := o6.rd
  have P5 : Hid (RdI w6 x5 uh) := P5.out.below t6
  have P4 : Hid (Rd8 w6 x4 fs) := P4.out.below t6
  have P3 : Hid (RdU w6 x3 cs) := P3.out.below t6
  have P2 : Hid (RdI w6 x2 hs) := P2.out.below t6
  have C6 : Hid (Below w1.heap.size w1 w6) := C5.out.trans (t6.mono C5.out.size)
  have T6 : Hid (Below w.heap.size w w6) := T1.out.trans (C6.out.mono T1.out.size)
  clear t6 o6 T5 C5
  go_wp2_with fail
  refine (cloneL_any a7 n6 c7 vs xss _ L7.out m6 z7.out (r7.out.below T6.out) (ri.out.below T6.out) HVQ.out (fun j hj => hvn.out _ (getD_mem (by rw [L7.out]; exact hj)))).mono ?_
  rintro e w7 ⟨x7, y7, vs', rfl, t7, vl7, s7, i7, q7⟩
  have V7 : Hid (vs'.length = n6) := vl7
  have S7 : Hid (RdS w7 x7 vs') := s7
  have I7 : Hid (Inner w7 vs' xss) := i7
  have Q7 : Hid (∀ p ∈ vs', p.2.1 ≤ p.2.2 ∧ ∀ x, p.1 = some x → w6.heap.size ≤ x.block ∧ x.block < w7.heap.size) := q7
  have P1 : Hid (RdI w7 x1 ends) := ((O1.out.rd (d := 0)).below C6.out).below t7
  have P6 : Hid (RdI w7 x6 rs) := P6.out.below t7
  have P5 : Hid (RdI w7 x5 uh) := P5.out.below t7
  have P4 : Hid (Rd8 w7 x4 fs) := P4.out.below t7
  have P3 : Hid (RdU w7 x3 cs) := P3.out.below t7
  have P2 : Hid (RdI w7 x2 hs) := P2.out.below t7
  have T7 : Hid (Below w6.heap.size w6 w7) := t7
  clear t7 s7 i7 q7 vl7
  go_wp2_with fail
  refine (new_any x1 x2 x3 x4 x5 x6 x7 n4 n2 n4 n5 n6 y1 y2 y3 y4 y5 y6 y7 ends hs cs fs uh rs vs' w7 m4 m2 m4 m5 m6 L1 L2 L3 L4 L5 L6 V7 P1 P2 P3 P4 P5 P6 S7 wu wr5).mono ?_
  rintro e w8 ⟨l, rfl, hR⟩
  obtain ⟨R, E, F, U, V, ce, HM0⟩ := made_of T1.out O1.out hne.out C6.out T7.out V7.out L6.out I7.out Q7.out hR L2.out L3.out L4.out
  have HM : Hid (Made w n4 n2 n4 ends hs cs fs uh rs xss l R E F U V ce vs' w8) := HM0
  clear HM0 hR P1 P2 P3 P4 P5 P6 S7 I7 Q7 V7 T7 T6 C6 O1 T1 hne
  obtain ⟨vb, pA, q0, rr0, pB, rB, us, hus, hva, hvb, ul, uq, ur, urA, urB, ufar, und⟩ := vouch_facts HM.out HS.out ri.out HVQ.out L7.out
  have HVA : Hid (vouch fs rs vs' k = (vb, (pA, q0, rr0))) := hva
  have HVB : Hid (vouch fs rs vs k = (vb, (pB, q0, rB))) := hvb
  have HUL : Hid (us.length = q0) := ul
  have HUA : Hid (RdI w8 pA us) := urA
  have HUB : Hid (RdI w pB us) := urB
  have HUF : Hid (∀ x, pA = some x → x.block < w8.heap.size ∧ x.block ≠ l ∧ x.block ≠ ce) := ufar
  have HND : Hid (vb = true → ndB us = true) := und
  clear hus hva hvb ul urA urB ufar und HVQ
  obtain ⟨KH, eKH⟩ : ∃ KH, cutL hs S T = KH := ⟨_, rfl⟩
  obtain ⟨KC, eKC⟩ : ∃ KC, cutL cs S T = KC := ⟨_, rfl⟩
  obtain ⟨M, hMd⟩ : ∃ M, M = T - S := ⟨_, rfl⟩
  have EKH : Hid (cutL hs S T = KH) := eKH
  have EKC : Hid (cutL cs S T = KC) := eKC
  have LKH : Hid (KH.length = M) := by show _ = _; rw [← eKH, hMd]; exact cutL_length _ _ _ (by rw [L2.out]; exact hT2)
  have LKC : Hid (KC.length = M) := by show _ = _; rw [← eKC, hMd]; exact cutL_length _ _ _ (by rw [L3.out]; exact hT2)
  have RKH : Hid (Rising KH) := by have := (okB_rising HS.out.ok).1; simp only [Int.toNat_natCast] at this; rw [← eKH]; exact this
  have B8 := HM.out.bel
  have RH8 : Hid (RdI w8 (cutAt a2 c2 S 1) KH) := by
    have := (r2.out.below B8).cut (c := c2) hST (by rw [L2.out]; exact hT2) (by rw [L2.out]; exact hc2)
    rw [eKH] at this; exact this
  have RC8 : Hid (RdU w8 (cutAt (some ⟨bu, offu, none⟩) c3 S 1) KC) := by
    have := (r3.out.below B8).cut (c := c3) hST (by rw [L3.out]; exact hT2) (by rw [L3.out]; exact hc3)
    rw [eKC] at this; exact this
  have hKCp : Hid (KC.getD p 0 = c) := by show _ = _; rw [← eKC, cutL_getD _ _ _ _ _ (by omega)]; exact HCP.out
  have hcutH := run_cut (P := Try.prog) 36 3 1 Try.underlying36 size3 a2 n2 c2 S T hST (by omega)
  have hcutC := run_cut (P := Try.prog) 37 61 1 Try.underlying37 size61 (some ⟨bu, offu, none⟩) n2 c3 S T hST (by omega)
  have BH8 : Hid (Below w.heap.size w w8) := B8
  clear eKH eKC B8
  go_wp2_with fail
  rw [← hMd]
  have hMm : M ≤ 1048576 := by omega
  have hpM : p < M := by omega
  have hMN : M ≤ n10 := by omega
  have HTS : Hid (T - S = M) := hMd.symm
  have hcne : Hid (¬ cov = []) := fun e => by have := L10.out; rw [e] at this; simp at this; omega
  clear hMd hcutH hcutC g1 g2 g3 g4 g5 hpT hcv i1 hcc
  refine (clock_any (cutAt a2 c2 S 1) (cutAt (some ⟨bu, offu, none⟩) c3 S 1) M (c2 - S) (c3 - S) KH KC w8 hMm LKH LKC RH8 RC8).mono ?_
  rintro e w9 ⟨rfl, t9, o9⟩
  have T9 : Hid (Below w8.heap.size w8 w9) := t9
  have O9 : Hid (RowE w9 w8.heap.size 64 M KH KC M) := o9
  clear t9 o9
  go_wp2_with fail
  refine (clock_any (cutAt a2 c2 S 1) (cutAt (some ⟨bu, offu, none⟩) c3 S 1) M (c2 - S) (c3 - S) KH KC w9 hMm LKH LKC (RH8.out.below T9.out) (RC8.out.below T9.out)).mono ?_
  rintro e w10 ⟨rfl, t10, o10⟩
  have T10 : Hid (Below w9.heap.size w9 w10) := t10
  have O10 : Hid (RowE w10 w9.heap.size 64 M KH KC M) := o10
  have gc : w10.cell? ⟨w9.heap.size, p * 2 + 1, none⟩ = some (.int .u64 c) := by rw [o10.cellC hpM, hKCp.out]
  have gt := o10.thawed (p * 2 + 1)
  have i2 : (p : Int) < (M : Int) := by omega
  have hsum : 0 ≤ c + d0 := by omega
  have hsum2 : c + d0 ≤ 18446744073709551615 := by omega
  clear t10 o10
  go_wp2_with fail
  obtain ⟨w11, h11⟩ : ∃ w11, w11 = w10.setCell ⟨w9.heap.size, p * 2 + 1, none⟩ (.int .u64 (c + d0)) := ⟨_, rfl⟩
  rw [← h11]
  have s9 : w8.heap.size < w9.heap.size := by obtain ⟨D, hD, _⟩ := O9.out; exact heap_lt hD
  have s10 : w9.heap.size < w10.heap.size := by obtain ⟨D, hD, _⟩ := O10.out; exact heap_lt hD
  have s11 : w11.heap.size = w10.heap.size := by rw [h11]; simp [World.setCell]
  have T11 : Hid (Below w8.heap.size w8 w11) := by
    rw [h11]; exact (T9.out.trans (T10.out.mono (by omega))).setCell (by show _ ≤ w9.heap.size; omega) _
  have RA11 : Hid (RdE w11 (some ⟨w8.heap.size, 0, none⟩) KH KC) := by
    refine ((O9.out.rd LKH.out LKC.out).below T10.out).ofBlock (fun x hx => ?_)
    cases hx
    rw [h11]
    exact Below.heap_setCell _ _ _ _ (by show w8.heap.size ≠ w9.heap.size; omega)
  have RB11 : Hid (RdE w11 (some ⟨w9.heap.size, 0, none⟩) KH (KC.set p (c + d0))) := by
    rw [h11]; exact O10.out.raise LKH.out LKC.out hpM _
  have BW11 : Hid (Below w.heap.size w w11) := BH8.out.trans (T11.out.mono BH8.out.size)
  clear gc gt T9 T10 O9 O10 h11 RH8 RC8
  refine (clone25_any a10 n10 c10 cov w11 L10.out m10 z10.out (r10.out.below BW11.out)).mono ?_
  rintro e w12 ⟨x12, y12, rfl, t12, o12⟩
  obtain ⟨cv1, u1, u2, k1⟩ := o12.cov hcne.out
  have T12 : Hid (Below w11.heap.size w11 w12) := t12
  have K1 : Hid (CovRow w12 x12 cv1 cov) := k1
  clear t12 o12 k1
  go_wp2_with fail
  refine (clone25_any a10 n10 c10 cov w12 L10.out m10 z10.out (r10.out.below (BW11.out.trans (T12.out.mono BW11.out.size)))).mono ?_
  rintro e w13 ⟨x13, y13, rfl, t13, o13⟩
  obtain ⟨cv2, u3, u4, k2⟩ := o13.cov hcne.out
  have s13 := t13.size
  have T13 : Hid (Below w11.heap.size w11 w13) := T12.out.trans (t13.mono T12.out.size)
  have K1 : Hid (CovRow w13 x12 cv1 cov) := K1.out.kept (t13.block cv1 u2)
  have K2 : Hid (CovRow w13 x13 cv2 cov) := k2
  have T813 : Hid (Below w8.heap.size w8 w13) := T11.out.trans (T13.out.mono (by omega))
  have RA13 : Hid (RdE w13 (some ⟨w8.heap.size, 0, none⟩) KH KC) := RA11.out.below T13.out
  have RB13 : Hid (RdE w13 (some ⟨w9.heap.size, 0, none⟩) KH (KC.set p (c + d0))) := RB11.out.below T13.out
  have BW13 : Hid (Below w.heap.size w w13) := BW11.out.trans (T13.out.mono BW11.out.size)
  have H13 : Hid (Ready w13 l R E F U V n4 n2 n4 ends hs cs fs uh rs vs' w13.heap.size) := HM.out.ready _ _ (by omega) T813.out
  have Z13 : Hid (HasSame w13 w13.heap.size l) := HM.out.same _ _ T813.out
  have U13 : Hid (RdI w13 pA us) := HUA.out.below T813.out
  obtain ⟨j1, j2, j3, j4, j5, j6, j7⟩ := HM.out.news
  have hSs : Hid (startOf ends k = (S : Int)) := by
    have := HS.out.se
    simp only [Int.toNat_natCast] at this
    show _ = _
    rw [this]; unfold startOf
    by_cases e : k = 0
    · rw [if_pos e, if_pos (by omega)]
    · rw [if_neg e, if_neg (by omega)]
  have hTs : Hid (ends.getD k 0 = (T : Int)) := by
    have := HS.out.te
    simp only [Int.toNat_natCast] at this
    exact this.symm
  have hcl1 : Hid (cv1 < w13.heap.size ∧ cv1 ≠ l ∧ R ≠ cv1 ∧ E ≠ cv1 ∧ F ≠ cv1 ∧ U ≠ cv1 ∧ V ≠ cv1) := by refine ⟨?_, ?_, ?_, ?_, ?_, ?_, ?_⟩ <;> omega
  have hcl2 : Hid (cv2 < w13.heap.size ∧ cv2 ≠ l ∧ R ≠ cv2 ∧ E ≠ cv2 ∧ F ≠ cv2 ∧ U ≠ cv2 ∧ V ≠ cv2) := by refine ⟨?_, ?_, ?_, ?_, ?_, ?_, ?_⟩ <;> omega
  have FA1 : Hid (Far w13.heap.size l cv1 (some ⟨w8.heap.size, 0, none⟩)) := fun x hx => by cases hx; refine ⟨?_, ?_, ?_⟩ <;> show _ <;> simp only <;> omega
  have FB1 : Hid (Far w13.heap.size l cv1 (some ⟨w9.heap.size, 0, none⟩)) := fun x hx => by cases hx; refine ⟨?_, ?_, ?_⟩ <;> show _ <;> simp only <;> omega
  have FB2 : Hid (Far w13.heap.size l cv2 (some ⟨w9.heap.size, 0, none⟩)) := fun x hx => by cases hx; refine ⟨?_, ?_, ?_⟩ <;> show _ <;> simp only <;> omega
  have FU1 : Hid (Far w13.heap.size l cv1 pA) := fun x hx => by have := HUF.out x hx; refine ⟨?_, ?_, ?_⟩ <;> omega
  have FU2 : Hid (Far w13.heap.size l cv2 pA) := fun x hx => by have := HUF.out x hx; refine ⟨?_, ?_, ?_⟩ <;> omega
  clear t13 o13 k2
  go_wp2_with fail
  refine (fits26 w13 l R E F U V n4 n2 n4 ends hs cs fs uh rs vs' w13.heap.size H13 (Nat.le_refl _) k S T hk hk m4 m2 m4 L4 L2 hSs hTs hST hT2 (some ⟨w8.heap.size, 0, none⟩) x12 M M n10 y12 cv1 KH KC us vb cov hMm m10 hMN LKH L10 K1 Z13 hcl1 RA13 FA1 RKH KH KC EKH EKC RKH pA q0 rr0 HVA HUL uq ur U13 FU1 HND).mono ?_
  rintro e w14 ⟨rr1, cov1, rfl, hF1, hK1, hC1, hZ1⟩
  obtain ⟨rfl, rfl⟩ := law5_own hF1
  have KP1 : Hid (Kp w13.heap.size l cv1 w13 w14) := hK1
  have K1 : Hid (CovRow w14 x12 cv1 cov1) := hC1
  have Z14 : Hid (HasSame w14 w13.heap.size l) := hZ1
  have K2 : Hid (CovRow w14 x13 cv2 cov1) := K2.out.kept (hK1.block cv2 (by omega) (by omega) (by omega))
  have H14 : Hid (Ready w14 l R E F U V n4 n2 n4 ends hs cs fs uh rs vs' w13.heap.size) := H13.out.kept hK1 hcl1.out.2.2
  have RB14 : Hid (RdE w14 (some ⟨w9.heap.size, 0, none⟩) KH (KC.set p (c + d0))) := RB13.out.far hK1 FB1.out
  have U14 : Hid (RdI w14 pA us) := U13.out.far hK1 FU1.out
  have hs14 := hK1.size
  have BW14 : Hid (Below w.heap.size w w14) := Kp.below BW13.out hK1 BW13.out.size j1 (by have := BW11.out.size; omega)
  clear hF1 hK1 hC1 hZ1
  go_wp2_with fail
  refine (fits26 w14 l R E F U V n4 n2 n4 ends hs cs fs uh rs vs' w13.heap.size H14 hs14 k S T hk hk m4 m2 m4 L4 L2 hSs hTs hST hT2 (some ⟨w9.heap.size, 0, none⟩) x13 M M n10 y13 cv2 KH (KC.set p (c + d0)) us vb cov1 hMm m10 hMN LKH L10 K2 Z14 hcl2 RB14 FB2 RKH KH KC EKH EKC RKH pA q0 rr0 HVA HUL uq ur U14 FU2 HND).mono ?_
  rintro e w15 ⟨rr2, cov2, rfl, hF2, hK2, hC2, hZ2⟩
  have hKCv : KC.getD p 0 < c + d0 := by rw [hKCp.out]; omega
  obtain ⟨hrr2, hl2, hw2⟩ := law5_raised hF2 RKH.out (by rw [LKH.out]; exact hpM) (by rw [LKC.out, LKH.out]) hKCv
  have HRR : Hid (rr2 = !hasB uh (k : Int)) := hrr2
  clear hrr2
  have BW15 : Hid (Below w.heap.size w w15) := Kp.below BW14.out hK2 (by have := BW13.out.size; omega) j1 (by have := BW11.out.size; omega)
  have K1 : Hid (RdO w15 x12 cov1) := (K1.out.kept (hK2.block cv1 (by omega) (by omega) (by omega))).rd
  have K2 : Hid (RdO w15 x13 cov2) := hC2.rd
  have LC2 : Hid (cov2.length = n10) := hl2.trans L10.out
  have HW2 : Hid (∀ q, q < n10 → cov2.getD q false = want5 KH us (hasB uh (k : Int)) vb cov1 p q) := fun q hq => hw2 q (by rw [L10.out]; exact hq)
  have RH15 : Hid (RdI w15 (cutAt a2 c2 S 1) KH) := by
    have := (r2.out.below BW15.out).cut (c := c2) hST (by rw [L2.out]; exact hT2) (by rw [L2.out]; exact hc2)
    rw [EKH.out] at this; exact this
  have HP : Hid (∀ n, RLaw w (.returned (.bool true)) (w15.drewN n)) := fun n => RLaw.mk (Below_drewN BW15.out n)
  clear hF2 hK2 hC2 hZ2 hl2 hw2 hKCv RB14 U14 H14 Z14 KP1 BW14 RB13 U13 H13 Z13 BW13 FA1 FB1 FB2 FU1 FU2 hcl1 hcl2 T813 T13 T12 T11 RA11 RB11 RA13 hSs hTs
  go_wp2_with fail
  refine (has_any a5 n5 c5 uh (k : Int) w15 b5 L5 (r5.out.below BW15.out)).mono ?_
  rintro e w16 ⟨rfl, h16⟩
  rw [h16]
  clear h16 w16
  generalize hasB uh (k : Int) = hd at HW2 HRR ⊢
  have hdd : (rr2 == hd) = false := by rw [HRR.out]; cases hd <;> rfl
  go_wp2_with fail
  refine (vouched_val k a4 a6 a7 n4 n6 n6 c4 c6 c7 fs rs vs vb pB q0 rB w15 b6 b4 hk L4 L6 L7 rfl (r4.out.below BW15.out) (r6.out.below BW15.out) (r7.out.below BW15.out) HVB).mono ?_
  rintro e w16 ⟨rfl, h16⟩
  rw [h16]
  clear h16 w16
  generalize cutAt a2 c2 S 1 = aH at RH15 ⊢
  go_wp2
  go_loopw [38] (fun vi wz => ∃ i nz : Nat, i ≤ n10 ∧ vi = .int .i64 i ∧ wz = w15.drewN nz) (fun vi _ => n10 - (intOf vi).toNat)
  case atStart => exact ⟨0, 0, Nat.zero_le _, rfl, rfl⟩
  case round =>
    obtain ⟨i, nz, hi1, rfl, rfl⟩ := hrel
    by_cases hi : i < n10
    · obtain ⟨b12, o12, v, rfl, d12, V12⟩ := K1.out.atv L10.out hi
      obtain ⟨b10', o10', v', rfl, d10, V10⟩ := (r10.out.below BW15.out).atv L10.out hi
      obtain ⟨b13, o13, v2, rfl, d13, V13⟩ := K2.out.atv LC2.out hi
      obtain rfl : v = v' := V12.out.symm.trans V10.out
      have HV2 : Hid (v2 = (v || (!hd && vb && decide (i < M) && !decide (i = p) && !hasB us (KH.getD i 0)))) := by
        have := HW2.out i hi
        unfold want5 at this
        rw [V13.out, V12.out, LKH.out] at this
        exact this
      have i3 : (i : Int) < (n10 : Int) := by omega
      have hvv : (v != v) = false := by cases v <;> rfl
      cases hd with
      | true =>
        obtain rfl : v2 = v := by have := HV2.out; simpa using this
        go_wp2
        go_quiet (fail)
        go_wp2
        go_roundw
        case rel => exact ⟨i + 1, _, by omega, by go_num, rfl⟩
        case measure => simp [intOf]; omega
      | false =>
      cases vb with
      | false =>
        obtain rfl : v2 = v := by have := HV2.out; simpa using this
        go_wp2
        go_quiet (fail)
        go_wp2
        go_roundw
        case rel => exact ⟨i + 1, _, by omega, by go_num, rfl⟩
        case measure => simp [intOf]; omega
      | true =>
      by_cases hiM : i < M
      · have g6 : decide ((i : Int) < (M : Int)) = true := decide_eq_true (by omega)
        have g6' : decide (i < M) = true := decide_eq_true hiM
        by_cases hip : i = p
        · obtain rfl : v2 = v := by have := HV2.out; simpa [hip] using this
          clear HV2
          subst hip
          have g7 : ((i : Int) != (i : Int)) = false := by simp
          go_wp2
          go_quiet (fail)
          go_wp2
          go_roundw
          case rel => exact ⟨i + 1, _, by omega, by go_num, rfl⟩
          case measure => simp [intOf]; omega
        · have g7 : ((i : Int) != (p : Int)) = true := by simp; omega
          have g7' : (i != p) = true := by simpa using hip
          obtain ⟨bH, oH, x, rfl, dH, VH⟩ := RH15.out.atv LKH.out hiM
          have i4 : (i : Int) < (M : Int) := by omega
          have HV3 : Hid (v2 = (v || !hasB us x)) := by
            have := HV2.out
            rw [VH.out] at this
            show _ = _
            simpa [hip, hiM] using this
          clear hip HV2
          have HC : ∀ n, Calls Try.prog 27 #[.slice pB q0 rB, .int .i64 x] (w15.drewN n) fun e w' => e = .returned (.bool (hasB us x)) ∧ w' = w15.drewN n := fun n => has_any pB q0 rB us x (w15.drewN n) (by omega) HUL ((HUB.out.below BW15.out).drewN n)
          cases hhb : hasB us x with
          | true =>
            rw [hhb] at HC HV3
            obtain rfl : v2 = v := by have := HV3.out; simpa using this
            clear hhb HV3
            go_wp2
            go_quiet (fail)
            go_wp2_with (go_at_call 27; refine (HC _).mono ?_; rintro e w17 ⟨rfl, rfl⟩)
            go_roundw
            case rel => exact ⟨i + 1, _, by omega, by go_num, rfl⟩
            case measure => simp [intOf]; omega
          | false =>
            rw [hhb] at HC HV3
            obtain rfl : v2 = true := by have := HV3.out; simpa using this
            clear hhb HV3
            go_wp2
            go_quiet (fail)
            go_wp2_with (go_at_call 27; refine (HC _).mono ?_; rintro e w17 ⟨rfl, rfl⟩)
            go_roundw
            case rel => exact ⟨i + 1, _, by omega, by go_num, rfl⟩
            case measure => simp [intOf]; omega
      · have g6 : decide ((i : Int) < (M : Int)) = false := decide_eq_false (by omega)
        have g6' : decide (i < M) = false := decide_eq_false hiM
        obtain rfl : v2 = v := by have := HV2.out; simpa [hiM] using this
        go_wp2
        go_quiet (fail)
        go_wp2
        go_roundw
        case rel => exact ⟨i + 1, _, by omega, by go_num, rfl⟩
        case measure => simp [intOf]; omega
    · go_wp2
      go_ret
      exact HP.out _
end Go.Proofs.Qxb6616313a
