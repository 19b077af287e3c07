/- CUTS; zzReadingShape. -/
import Derived.Test.Qxb6616313aTests
namespace Go.Proofs.Qxb6616313a
open Go.ChangeShapes Go.WideShapes Go.ChangeAt Go.RowKit
set_option linter.unusedVariables false

/-- where a cut begins -/
def cutAt (a : Option Addr) (c lo size : Nat) : Option Addr := if c = lo then a else a.map (·.add (lo * size))
theorem run_cut {P : Program} (t e : TypeId) (size : Nat) (ht : P.underlying t = some (.slice e)) (hs : (P.info? e).map (·.size) = some size) (a : Option Addr) (n c lo hi : Nat) (h1 : lo ≤ hi) (h2 : hi ≤ c) (w : World) :
    (Instr.slice t (.slice a n c) (some (.int .i64 (lo : Int))) (some (.int .i64 (hi : Int))) none).run P w = .ok (.slice (cutAt a c lo size) (hi - lo) (c - lo)) w := by
  obtain ⟨i, hi', hz⟩ := Option.map_eq_some_iff.1 hs
  unfold cutAt
  simp [Instr.slice, run_underlying ht, Instr.sliceBounds, sizeOf, typeInfo, hi', hz, run_sliceBound, h1, h2]

def cutL {α : Type} (xs : List α) (lo hi : Nat) : List α := (xs.drop lo).take (hi - lo)
theorem cutL_length {α : Type} (xs : List α) (lo hi : Nat) (h : hi ≤ xs.length) : (cutL xs lo hi).length = hi - lo := by simp [cutL]; omega
theorem cutL_getD {α : Type} (xs : List α) (lo hi j : Nat) (d : α) (h : j < hi - lo) : (cutL xs lo hi).getD j d = xs.getD (lo + j) d := by
  simp [cutL, List.getD_eq_getElem?_getD, List.getElem?_drop, h]
theorem RdG.cut {α : Type} {f : α → Value} {d : α} {w : World} {a : Option Addr} {xs : List α} (h : RdG f d w a xs) {c lo hi : Nat} (h1 : lo ≤ hi) (h2 : hi ≤ xs.length) (h3 : xs.length ≤ c) :
    RdG f d w (cutAt a c lo 1) (cutL xs lo hi) := by
  by_cases he : lo = hi
  · subst he
    exact .inl (by simp [cutL])
  · rcases h with h | ⟨b, off, rfl, hc⟩
    · subst h; simp at h2; omega
    · refine .inr ⟨b, off + lo, ?_, fun j hj => ?_⟩
      · unfold cutAt
        rw [if_neg (by omega)]
        simp [Addr.add]
      · rw [cutL_length _ _ _ h2] at hj
        rw [cutL_getD _ _ _ _ _ hj, Nat.add_assoc]
        exact hc (lo + j) (by omega)

theorem size3 : (Try.prog.info? 3).map (·.size) = some 1 := by kernel_rfl
theorem size61 : (Try.prog.info? 61).map (·.size) = some 1 := by kernel_rfl

/-- the inner lists -/
def Inner (w : World) (vs : List (Option Addr × Nat × Nat)) (xss : List (List Int)) : Prop :=
  vs.length = xss.length ∧ ∀ j, j < vs.length → (xss.getD j []).length = (vs.getD j (none, 0, 0)).2.1 ∧ RdI w (vs.getD j (none, 0, 0)).1 (xss.getD j [])
theorem Inner.below {w w' : World} {vs : List (Option Addr × Nat × Nat)} {xss : List (List Int)} (h : Inner w vs xss) (hb : Below w.heap.size w w') : Inner w' vs xss :=
  ⟨h.1, fun j hj => ⟨(h.2 j hj).1, (h.2 j hj).2.below hb⟩⟩

def vlist (fs rs : List Int) (xss : List (List Int)) (k : Nat) : List Int :=
  if fs.getD k 0 = 1 then [] else
  match lastTo rs k rs.length with
  | none => []
  | some j => xss.getD j []
theorem lastTo_lt {rs : List Int} {k : Int} : ∀ {m j : Nat}, lastTo rs k m = some j → j < m ∧ rs.getD j 0 = k
  | 0, _, h => by simp [lastTo] at h
  | m + 1, j, h => by
    unfold lastTo at h
    by_cases hm : rs.getD m 0 = k
    · rw [if_pos hm] at h
      obtain rfl : m = j := by simpa using h
      exact ⟨by omega, hm⟩
    · rw [if_neg hm] at h
      obtain ⟨a, b⟩ := lastTo_lt h
      exact ⟨by omega, b⟩
theorem vouch_reads {w : World} {fs rs : List Int} {vs : List (Option Addr × Nat × Nat)} {xss : List (List Int)} (k : Nat) (h : Inner w vs xss) (hl : rs.length = vs.length) :
    (vlist fs rs xss k).length = (vouch fs rs vs k).2.2.1 ∧ RdI w (vouch fs rs vs k).2.1 (vlist fs rs xss k) := by
  unfold vouch vlist vouchTo
  by_cases hf : fs.getD k 0 = 1
  · rw [if_pos hf, if_pos hf]
    exact ⟨rfl, .inl rfl⟩
  · rw [if_neg hf, if_neg hf]
    cases hj : lastTo rs (k : Int) rs.length with
    | none => exact ⟨rfl, .inl rfl⟩
    | some j =>
      have := (lastTo_lt hj).1
      exact h.2 j (by omega)

/-- what zzReadingShape has looked for -/
structure ShapeOK (k : Int) (ends hs cs fs rs : List Int) (vs : List (Option Addr × Nat × Nat)) (xss : List (List Int)) (s t : Int) : Prop where
  lh : hs.length = cs.length
  lf : fs.length = ends.length
  lr : rs.length = vs.length
  k0 : 0 ≤ k
  k1 : k < ends.length
  se : s = if k = 0 then 0 else ends.getD (k.toNat - 1) 0
  te : t = ends.getD k.toNat 0
  s0 : 0 ≤ s
  st : s ≤ t
  tl : t ≤ hs.length
  ok : okB (cutL hs s.toNat t.toNat) (cutL cs s.toNat t.toNat) = true
  nd : (vouch fs rs vs k.toNat).1 = true → ndB (vlist fs rs xss k.toNat) = true

def RShape (w : World) (P : Int → Int → Prop) (e : Ending) (w' : World) : Prop :=
  (∃ n, w' = w.drewN n) ∧ (e = .returned (.tuple #[.int .i64 0, .int .i64 0, .bool false]) ∨ ∃ s t, e = .returned (.tuple #[.int .i64 s, .int .i64 t, .bool true]) ∧ P s t)
theorem RShape.no {w : World} {P : Int → Int → Prop} {w' : World} (h : ∃ n, w' = w.drewN n) : RShape w P (.returned (.tuple #[.int .i64 0, .int .i64 0, .bool false])) w' := ⟨h, .inl rfl⟩
theorem RShape.yes {w : World} {P : Int → Int → Prop} {w' : World} (h : ∃ n, w' = w.drewN n) {s t : Int} (hp : P s t) : RShape w P (.returned (.tuple #[.int .i64 s, .int .i64 t, .bool true])) w' := ⟨h, .inr ⟨s, t, rfl, hp⟩⟩

theorem vouch_bd {fs rs : List Int} {vs : List (Option Addr × Nat × Nat)} (k : Nat) (hln : ∀ v ∈ vs, v.2.1 ≤ 9223372036854775807) (hl : rs.length = vs.length) : (vouch fs rs vs k).2.2.1 ≤ 9223372036854775807 := by
  unfold vouch vouchTo
  by_cases hf : fs.getD k 0 = 1
  · rw [if_pos hf]; exact Nat.zero_le _
  · rw [if_neg hf]
    cases hj : lastTo rs (k : Int) rs.length with
    | none => exact Nat.zero_le _
    | some j =>
      have := (lastTo_lt hj).1
      exact hln _ (getD_mem (by omega))
theorem vouched_val (k : Nat) (af ar av : Option Addr) (nf nr nv cf cr cv : Nat) (fs rs : List Int) (vs : List (Option Addr × Nat × Nat)) (vb : Bool) (p : Option Addr) (q r : Nat) (w : World)
    (hnr : nr ≤ 9223372036854775807) (hnf : nf ≤ 9223372036854775807) (hk : k < nf) (HF : Hid (fs.length = nf)) (HR : Hid (rs.length = nr)) (HV : Hid (vs.length = nv)) (HRV : nr = nv)
    (hf : Hid (Rd8 w af fs)) (hr : Hid (RdI w ar rs)) (hv : Hid (RdS w av vs)) (hx : Hid (vouch fs rs vs k = (vb, (p, q, r)))) :
    Calls Try.prog 30 #[.int .i64 k, .slice af nf cf, .slice ar nr cr, .slice av nv cv] w fun e w' => e = .returned (.tuple #[.bool vb, .slice p q r]) ∧ w' = w := by
  refine (vouched_any k af ar av nf nr nv cf cr cv fs rs vs w hnr hnf hk HF HR HV HRV hf hr hv).mono ?_
  rintro e w' ⟨rfl, rfl⟩
  exact ⟨by rw [hx.out]; rfl, rfl⟩


set_option maxHeartbeats 4000000 in
theorem shape_zero (ae ah ac af ar av : Option Addr) (ne nh nc nf nr nv ce ch cc cf cr cv : Nat) (ends hs cs fs rs : List Int) (vs : List (Option Addr × Nat × Nat)) (xss : List (List Int)) (w : World)
    (hne : ne ≤ 9223372036854775807) (hnh : nh ≤ 9223372036854775807) (hnc : nc ≤ 9223372036854775807) (hnf : nf ≤ 9223372036854775807) (hnr : nr ≤ 9223372036854775807) (hnv : nv ≤ 9223372036854775807) (hch : nh ≤ ch) (hcc : nc ≤ cc)
    (HE : Hid (ends.length = ne)) (HH : Hid (hs.length = nh)) (HC : Hid (cs.length = nc)) (HF : Hid (fs.length = nf)) (HR : Hid (rs.length = nr)) (HV : Hid (vs.length = nv)) (hln : Hid (∀ v ∈ vs, v.2.1 ≤ 9223372036854775807))
    (re : Hid (RdI w ae ends)) (rh : Hid (RdI w ah hs)) (rc : Hid (RdU w ac cs)) (rf : Hid (Rd8 w af fs)) (rr : Hid (RdI w ar rs)) (rv : Hid (RdS w av vs)) (ri : Hid (Inner w vs xss))
    (hk : 0 < ne) (hl1 : nh = nc) (hl2 : ne = nf) (hl3 : nr = nv) :
    Calls Try.prog 17 #[.int .i64 0, .slice ae ne ce, .slice ah nh ch, .slice ac nc cc, .slice af nf cf, .slice ar nr cr, .slice av nv cv] w (RShape w (ShapeOK 0 ends hs cs fs rs vs xss)) := by
  subst hl1 hl2 hl3
  obtain ⟨b, off, t, rfl, hc, HT⟩ := re.out.atv HE.out hk
  simp only [Nat.add_zero] at hc
  have e1 : ((nh : Int) != (nh : Int)) = false := by simp
  obtain ⟨⟨vb, p, q, r⟩, hvv⟩ : ∃ x, vouch fs rs vs 0 = x := ⟨_, rfl⟩
  have HVV : Hid (vouch fs rs vs 0 = (vb, (p, q, r))) := hvv
  have hq : q ≤ 9223372036854775807 := by
    have := vouch_bd (fs := fs) (rs := rs) (vs := vs) 0 hln.out (by rw [HR.out, HV.out])
    rw [hvv] at this; exact this
  have HLN : Hid ((vlist fs rs xss 0).length = q) := by
    have := (vouch_reads (fs := fs) (rs := rs) 0 ri.out (by rw [HR.out, HV.out])).1
    rw [hvv] at this; exact this
  have HLR : Hid (RdI w p (vlist fs rs xss 0)) := by
    have := (vouch_reads (fs := fs) (rs := rs) 0 ri.out (by rw [HR.out, HV.out])).2
    rw [hvv] at this; exact this
  clear hvv
  by_cases hs1 : (0 : Int) ≤ 0 ∧ 0 ≤ t ∧ t ≤ nh
  · obtain ⟨hs1, hs2, hs3⟩ := hs1
    obtain ⟨T, rfl⟩ := Int.eq_ofNat_of_zero_le (show 0 ≤ t by omega)
    have q1 : 0 ≤ T := by omega
    have q2 : T ≤ nh := by omega
    have q3 : T ≤ ch := by omega
    have q4 : T ≤ cc := by omega
    have hcut : ∀ w, (Instr.slice 36 (.slice ah nh ch) (some (.int .i64 0)) (some (.int .i64 (T : Int))) none).run Try.prog w = .ok (.slice (cutAt ah ch 0 1) T ch) w := run_cut (P := Try.prog) 36 3 1 Try.underlying36 size3 ah nh ch 0 T q1 q3
    have hcut2 : ∀ w, (Instr.slice 37 (.slice ac nh cc) (some (.int .i64 0)) (some (.int .i64 (T : Int))) none).run Try.prog w = .ok (.slice (cutAt ac cc 0 1) T cc) w := run_cut (P := Try.prog) 37 61 1 Try.underlying37 size61 ac nh cc 0 T q1 q4
    have G1 : Hid (RdI w (cutAt ah ch 0 1) (cutL hs 0 T)) := rh.out.cut q1 (by rw [HH.out]; exact q2) (by rw [HH.out]; exact hch)
    have G2 : Hid (RdU w (cutAt ac cc 0 1) (cutL cs 0 T)) := rc.out.cut q1 (by rw [HC.out]; omega) (by rw [HC.out]; exact hcc)
    have G3 : Hid ((cutL hs 0 T).length = T - 0) := cutL_length _ _ _ (by rw [HH.out]; exact q2)
    have G4 : Hid ((cutL cs 0 T).length = T - 0) := cutL_length _ _ _ (by rw [HC.out]; omega)
    have HOK : Hid (okB (cutL hs 0 T) (cutL cs 0 T) = true → (vb = true → ndB (vlist fs rs xss 0) = true) → ShapeOK 0 ends hs cs fs rs vs xss 0 (T : Int)) := fun h1 h2 =>
      ⟨by rw [HH.out, HC.out], by rw [HF.out, HE.out], by rw [HR.out, HV.out], by omega, by rw [HE.out]; omega, rfl, by exact HT.out.symm, by omega, by omega, by rw [HH.out]; omega, h1, fun h3 => h2 (by rw [← h3]; have := HVV.out; simp only [Int.toNat_zero] at this ⊢; rw [this])⟩
    cases hok : okB (cutL hs 0 T) (cutL cs 0 T) with
    | false =>
      go_enter Try.func17, Try.ntmps17
      go_wp2
      go_quiet ((go_at_call 18; exact Calls.quiet_of (clockOK_any _ _ _ _ _ _ _ _ _ (by omega) (by omega) G3 G4 G1 G2)))
      go_wp2
      go_ret3
      exact RShape.no ⟨_, rfl⟩
    | true =>
      have HOK2 : Hid ((vb = true → ndB (vlist fs rs xss 0) = true) → ShapeOK 0 ends hs cs fs rs vs xss 0 (T : Int)) := HOK.out hok
      clear HOK
      cases vb with
      | false =>
        have HOK3 : Hid (ShapeOK 0 ends hs cs fs rs vs xss 0 (T : Int)) := HOK2.out (fun h => by cases h)
        clear HOK2
        go_enter Try.func17, Try.ntmps17
        go_wp2
        go_quiet ((go_at_call 18; exact Calls.quiet_of (clockOK_any _ _ _ _ _ _ _ _ _ (by omega) (by omega) G3 G4 G1 G2)))
        go_wp2_with fail
        refine (vouched_val 0 _ _ _ _ _ _ _ _ _ fs rs vs false p q r _ hnr hne (by omega) HF HR HV rfl (rf.out.drewN _) (rr.out.drewN _) (rv.out.drewN _) HVV).mono ?_
        rintro e w1 ⟨rfl, hw1⟩
        rw [hw1]; clear hw1 w1
        go_wp2
        go_ret3
        exact RShape.yes ⟨_, rfl⟩ HOK3.out
      | true =>
        cases hnd : ndB (vlist fs rs xss 0) with
        | false =>
          go_enter Try.func17, Try.ntmps17
          go_wp2
          go_quiet ((go_at_call 18; exact Calls.quiet_of (clockOK_any _ _ _ _ _ _ _ _ _ (by omega) (by omega) G3 G4 G1 G2)))
          go_wp2_with fail
          refine (vouched_val 0 _ _ _ _ _ _ _ _ _ fs rs vs true p q r _ hnr hne (by omega) HF HR HV rfl (rf.out.drewN _) (rr.out.drewN _) (rv.out.drewN _) HVV).mono ?_
          rintro e w1 ⟨rfl, hw1⟩
          rw [hw1]; clear hw1 w1
          go_wp2_with fail
          refine (nondec_any _ _ _ _ _ hq HLN (HLR.out.drewN _)).mono ?_
          rintro e w1 ⟨rfl, n1, hw1⟩
          rw [hw1, World.drewN_drewN]; clear hw1 w1
          go_wp2
          go_ret3
          exact RShape.no ⟨_, rfl⟩
        | true =>
          have HOK3 : Hid (ShapeOK 0 ends hs cs fs rs vs xss 0 (T : Int)) := HOK2.out (fun _ => hnd)
          clear HOK2
          go_enter Try.func17, Try.ntmps17
          go_wp2
          go_quiet ((go_at_call 18; exact Calls.quiet_of (clockOK_any _ _ _ _ _ _ _ _ _ (by omega) (by omega) G3 G4 G1 G2)))
          go_wp2_with fail
          refine (vouched_val 0 _ _ _ _ _ _ _ _ _ fs rs vs true p q r _ hnr hne (by omega) HF HR HV rfl (rf.out.drewN _) (rr.out.drewN _) (rv.out.drewN _) HVV).mono ?_
          rintro e w1 ⟨rfl, hw1⟩
          rw [hw1]; clear hw1 w1
          go_wp2_with fail
          refine (nondec_any _ _ _ _ _ hq HLN (HLR.out.drewN _)).mono ?_
          rintro e w1 ⟨rfl, n1, hw1⟩
          rw [hw1, World.drewN_drewN]; clear hw1 w1
          go_wp2
          go_ret3
          exact RShape.yes ⟨_, rfl⟩ HOK3.out
  · go_enter Try.func17, Try.ntmps17
    go_wp2
    all_goals
      first
      | (exfalso; omega)
      | (go_ret3
         exact RShape.no ⟨0, rfl⟩)

set_option maxHeartbeats 4000000 in
theorem shape_pos (K : Nat) (ae ah ac af ar av : Option Addr) (ne nh nc nf nr nv ce ch cc cf cr cv : Nat) (ends hs cs fs rs : List Int) (vs : List (Option Addr × Nat × Nat)) (xss : List (List Int)) (w : World)
    (hne : ne ≤ 9223372036854775807) (hnh : nh ≤ 9223372036854775807) (hnc : nc ≤ 9223372036854775807) (hnf : nf ≤ 9223372036854775807) (hnr : nr ≤ 9223372036854775807) (hnv : nv ≤ 9223372036854775807) (hch : nh ≤ ch) (hcc : nc ≤ cc)
    (HE : Hid (ends.length = ne)) (HH : Hid (hs.length = nh)) (HC : Hid (cs.length = nc)) (HF : Hid (fs.length = nf)) (HR : Hid (rs.length = nr)) (HV : Hid (vs.length = nv)) (hln : Hid (∀ v ∈ vs, v.2.1 ≤ 9223372036854775807))
    (re : Hid (RdI w ae ends)) (rh : Hid (RdI w ah hs)) (rc : Hid (RdU w ac cs)) (rf : Hid (Rd8 w af fs)) (rr : Hid (RdI w ar rs)) (rv : Hid (RdS w av vs)) (ri : Hid (Inner w vs xss))
    (hk : K + 1 < ne) (hl1 : nh = nc) (hl2 : ne = nf) (hl3 : nr = nv) :
    Calls Try.prog 17 #[.int .i64 ((K + 1 : Nat) : Int), .slice ae ne ce, .slice ah nh ch, .slice ac nc cc, .slice af nf cf, .slice ar nr cr, .slice av nv cv] w (RShape w (ShapeOK ((K + 1 : Nat) : Int) ends hs cs fs rs vs xss)) := by
  subst hl1 hl2 hl3
  obtain ⟨b, off, t, rfl, hc, HT⟩ := re.out.atv HE.out hk
  obtain ⟨b2, off2, x, eb, hc2, HX⟩ := re.out.atv (k := K) HE.out (by omega)
  obtain ⟨rfl, rfl⟩ : b = b2 ∧ off = off2 := by simpa using eb
  clear eb
  obtain ⟨⟨vb, p, q, r⟩, hvv⟩ : ∃ x, vouch fs rs vs (K + 1) = x := ⟨_, rfl⟩
  have HVV : Hid (vouch fs rs vs (K + 1) = (vb, (p, q, r))) := hvv
  have hq : q ≤ 9223372036854775807 := by
    have := vouch_bd (fs := fs) (rs := rs) (vs := vs) (K + 1) hln.out (by rw [HR.out, HV.out])
    rw [hvv] at this; exact this
  have HLN : Hid ((vlist fs rs xss (K + 1)).length = q) := by
    have := (vouch_reads (fs := fs) (rs := rs) (K + 1) ri.out (by rw [HR.out, HV.out])).1
    rw [hvv] at this; exact this
  have HLR : Hid (RdI w p (vlist fs rs xss (K + 1))) := by
    have := (vouch_reads (fs := fs) (rs := rs) (K + 1) ri.out (by rw [HR.out, HV.out])).2
    rw [hvv] at this; exact this
  clear hvv
  by_cases hs1 : (0 : Int) ≤ x ∧ x ≤ t ∧ t ≤ nh
  · obtain ⟨hs1, hs2, hs3⟩ := hs1
    obtain ⟨T, rfl⟩ := Int.eq_ofNat_of_zero_le (show 0 ≤ t by omega)
    obtain ⟨S, rfl⟩ := Int.eq_ofNat_of_zero_le hs1
    have q1 : S ≤ T := by omega
    have q2 : T ≤ nh := by omega
    have q3 : T ≤ ch := by omega
    have q4 : T ≤ cc := by omega
    have hcut := run_cut (P := Try.prog) 36 3 1 Try.underlying36 size3 ah nh ch S T q1 q3
    have hcut2 := run_cut (P := Try.prog) 37 61 1 Try.underlying37 size61 ac nh cc S T q1 q4
    have G1 : Hid (RdI w (cutAt ah ch S 1) (cutL hs S T)) := rh.out.cut q1 (by rw [HH.out]; exact q2) (by rw [HH.out]; exact hch)
    have G2 : Hid (RdU w (cutAt ac cc S 1) (cutL cs S T)) := rc.out.cut q1 (by rw [HC.out]; omega) (by rw [HC.out]; exact hcc)
    have G3 : Hid ((cutL hs S T).length = T - S) := cutL_length _ _ _ (by rw [HH.out]; exact q2)
    have G4 : Hid ((cutL cs S T).length = T - S) := cutL_length _ _ _ (by rw [HC.out]; omega)
    have HOK : Hid (okB (cutL hs S T) (cutL cs S T) = true → (vb = true → ndB (vlist fs rs xss (K + 1)) = true) → ShapeOK ((K + 1 : Nat) : Int) ends hs cs fs rs vs xss (S : Int) (T : Int)) := fun h1 h2 =>
      ⟨by rw [HH.out, HC.out], by rw [HF.out, HE.out], by rw [HR.out, HV.out], by omega, by rw [HE.out]; omega, by rw [if_neg (by omega)]; simpa using HX.out.symm, by simpa using HT.out.symm, by omega, by omega, by rw [HH.out]; omega, h1, fun h3 => h2 (by rw [← h3]; have := HVV.out; simp only [Int.toNat_natCast] at this ⊢; rw [this])⟩
    cases hok : okB (cutL hs S T) (cutL cs S T) with
    | false =>
      go_enter Try.func17, Try.ntmps17
      go_wp2
      go_quiet ((go_at_call 18; exact Calls.quiet_of (clockOK_any _ _ _ _ _ _ _ _ _ (by omega) (by omega) G3 G4 G1 G2)))
      go_wp2
      go_ret3
      exact RShape.no ⟨_, rfl⟩
    | true =>
      have HOK2 : Hid ((vb = true → ndB (vlist fs rs xss (K + 1)) = true) → ShapeOK ((K + 1 : Nat) : Int) ends hs cs fs rs vs xss (S : Int) (T : Int)) := HOK.out hok
      clear HOK
      cases vb with
      | false =>
        have HOK3 : Hid (ShapeOK ((K + 1 : Nat) : Int) ends hs cs fs rs vs xss (S : Int) (T : Int)) := HOK2.out (fun h => by cases h)
        clear HOK2
        go_enter Try.func17, Try.ntmps17
        go_wp2
        go_quiet ((go_at_call 18; exact Calls.quiet_of (clockOK_any _ _ _ _ _ _ _ _ _ (by omega) (by omega) G3 G4 G1 G2)))
        go_wp2_with fail
        refine (vouched_val (K + 1) _ _ _ _ _ _ _ _ _ fs rs vs false p q r _ hnr hne (by omega) HF HR HV rfl (rf.out.drewN _) (rr.out.drewN _) (rv.out.drewN _) HVV).mono ?_
        rintro e w1 ⟨rfl, hw1⟩
        rw [hw1]; clear hw1 w1
        go_wp2
        go_ret3
        exact RShape.yes ⟨_, rfl⟩ HOK3.out
      | true =>
        cases hnd : ndB (vlist fs rs xss (K + 1)) with
        | false =>
          go_enter Try.func17, Try.ntmps17
          go_wp2
          go_quiet ((go_at_call 18; exact Calls.quiet_of (clockOK_any _ _ _ _ _ _ _ _ _ (by omega) (by omega) G3 G4 G1 G2)))
          go_wp2_with fail
          refine (vouched_val (K + 1) _ _ _ _ _ _ _ _ _ fs rs vs true p q r _ hnr hne (by omega) HF HR HV rfl (rf.out.drewN _) (rr.out.drewN _) (rv.out.drewN _) HVV).mono ?_
          rintro e w1 ⟨rfl, hw1⟩
          rw [hw1]; clear hw1 w1
          go_wp2_with fail
          refine (nondec_any _ _ _ _ _ hq HLN (HLR.out.drewN _)).mono ?_
          rintro e w1 ⟨rfl, n1, hw1⟩
          rw [hw1, World.drewN_drewN]; clear hw1 w1
          go_wp2
          go_ret3
          exact RShape.no ⟨_, rfl⟩
        | true =>
          have HOK3 : Hid (ShapeOK ((K + 1 : Nat) : Int) ends hs cs fs rs vs xss (S : Int) (T : Int)) := HOK2.out (fun _ => hnd)
          clear HOK2
          go_enter Try.func17, Try.ntmps17
          go_wp2
          go_quiet ((go_at_call 18; exact Calls.quiet_of (clockOK_any _ _ _ _ _ _ _ _ _ (by omega) (by omega) G3 G4 G1 G2)))
          go_wp2_with fail
          refine (vouched_val (K + 1) _ _ _ _ _ _ _ _ _ fs rs vs true p q r _ hnr hne (by omega) HF HR HV rfl (rf.out.drewN _) (rr.out.drewN _) (rv.out.drewN _) HVV).mono ?_
          rintro e w1 ⟨rfl, hw1⟩
          rw [hw1]; clear hw1 w1
          go_wp2_with fail
          refine (nondec_any _ _ _ _ _ hq HLN (HLR.out.drewN _)).mono ?_
          rintro e w1 ⟨rfl, n1, hw1⟩
          rw [hw1, World.drewN_drewN]; clear hw1 w1
          go_wp2
          go_ret3
          exact RShape.yes ⟨_, rfl⟩ HOK3.out
  · go_enter Try.func17, Try.ntmps17
    go_wp2
    all_goals
      first
      | (exfalso; omega)
      | (go_ret3
         exact RShape.no ⟨0, rfl⟩)

theorem shape_bad1 (k : Int) (ae ah ac af ar av : Option Addr) (ne nh nc nf nr nv ce ch cc cf cr cv : Nat) (P : Int → Int → Prop) (w : World) (hne : ne ≤ 9223372036854775807) (hnh : nh ≤ 9223372036854775807) (hnc : nc ≤ 9223372036854775807) (hnf : nf ≤ 9223372036854775807) (hnr : nr ≤ 9223372036854775807) (hnv : nv ≤ 9223372036854775807) (h1 : ¬ nh = nc) :
    Calls Try.prog 17 #[.int .i64 k, .slice ae ne ce, .slice ah nh ch, .slice ac nc cc, .slice af nf cf, .slice ar nr cr, .slice av nv cv] w (RShape w P) := by
  have e1 : ((nh : Int) != (nc : Int)) = true := bne_iff_ne.2 (by omega)
  clear h1
  go_enter Try.func17, Try.ntmps17
  go_wp2
  go_ret3
  exact RShape.no ⟨0, rfl⟩

theorem shape_bad2 (k : Int) (ae ah ac af ar av : Option Addr) (ne nh nc nf nr nv ce ch cc cf cr cv : Nat) (P : Int → Int → Prop) (w : World) (hne : ne ≤ 9223372036854775807) (hnh : nh ≤ 9223372036854775807) (hnc : nc ≤ 9223372036854775807) (hnf : nf ≤ 9223372036854775807) (hnr : nr ≤ 9223372036854775807) (hnv : nv ≤ 9223372036854775807) (h1 : nh = nc) (h2 : ¬ ne = nf) :
    Calls Try.prog 17 #[.int .i64 k, .slice ae ne ce, .slice ah nh ch, .slice ac nc cc, .slice af nf cf, .slice ar nr cr, .slice av nv cv] w (RShape w P) := by
  subst h1
  have e2 : ((nf : Int) != (ne : Int)) = true := bne_iff_ne.2 (by omega)
  clear h2
  go_enter Try.func17, Try.ntmps17
  go_wp2
  go_ret3
  exact RShape.no ⟨0, rfl⟩

theorem shape_bad3 (k : Int) (ae ah ac af ar av : Option Addr) (ne nh nc nf nr nv ce ch cc cf cr cv : Nat) (P : Int → Int → Prop) (w : World) (hne : ne ≤ 9223372036854775807) (hnh : nh ≤ 9223372036854775807) (hnc : nc ≤ 9223372036854775807) (hnf : nf ≤ 9223372036854775807) (hnr : nr ≤ 9223372036854775807) (hnv : nv ≤ 9223372036854775807) (h1 : nh = nc) (h2 : ne = nf) (h3 : ¬ nr = nv) :
    Calls Try.prog 17 #[.int .i64 k, .slice ae ne ce, .slice ah nh ch, .slice ac nc cc, .slice af nf cf, .slice ar nr cr, .slice av nv cv] w (RShape w P) := by
  subst h1 h2
  have e3 : ((nr : Int) != (nv : Int)) = true := bne_iff_ne.2 (by omega)
  clear h3
  go_enter Try.func17, Try.ntmps17
  go_wp2
  go_ret3
  exact RShape.no ⟨0, rfl⟩

theorem shape_bad4 (k : Int) (ae ah ac af ar av : Option Addr) (ne nh nc nf nr nv ce ch cc cf cr cv : Nat) (P : Int → Int → Prop) (w : World) (hne : ne ≤ 9223372036854775807) (hnh : nh ≤ 9223372036854775807) (hnc : nc ≤ 9223372036854775807) (hnf : nf ≤ 9223372036854775807) (hnr : nr ≤ 9223372036854775807) (hnv : nv ≤ 9223372036854775807) (h1 : nh = nc) (h2 : ne = nf) (h3 : nr = nv) (h4 : k < 0) :
    Calls Try.prog 17 #[.int .i64 k, .slice ae ne ce, .slice ah nh ch, .slice ac nc cc, .slice af nf cf, .slice ar nr cr, .slice av nv cv] w (RShape w P) := by
  subst h1 h2 h3
  go_enter Try.func17, Try.ntmps17
  go_wp2
  go_ret3
  exact RShape.no ⟨0, rfl⟩

theorem shape_bad5 (k : Int) (ae ah ac af ar av : Option Addr) (ne nh nc nf nr nv ce ch cc cf cr cv : Nat) (P : Int → Int → Prop) (w : World) (hne : ne ≤ 9223372036854775807) (hnh : nh ≤ 9223372036854775807) (hnc : nc ≤ 9223372036854775807) (hnf : nf ≤ 9223372036854775807) (hnr : nr ≤ 9223372036854775807) (hnv : nv ≤ 9223372036854775807) (h1 : nh = nc) (h2 : ne = nf) (h3 : nr = nv) (h4 : 0 ≤ k) (h5 : (ne : Int) ≤ k) :
    Calls Try.prog 17 #[.int .i64 k, .slice ae ne ce, .slice ah nh ch, .slice ac nc cc, .slice af nf cf, .slice ar nr cr, .slice av nv cv] w (RShape w P) := by
  subst h1 h2 h3
  go_enter Try.func17, Try.ntmps17
  go_wp2
  go_ret3
  exact RShape.no ⟨0, rfl⟩

theorem shape_any (k : Int) (ae ah ac af ar av : Option Addr) (ne nh nc nf nr nv ce ch cc cf cr cv : Nat) (ends hs cs fs rs : List Int) (vs : List (Option Addr × Nat × Nat)) (xss : List (List Int)) (w : World)
    (hne : ne ≤ 9223372036854775807) (hnh : nh ≤ 9223372036854775807) (hnc : nc ≤ 9223372036854775807) (hnf : nf ≤ 9223372036854775807) (hnr : nr ≤ 9223372036854775807) (hnv : nv ≤ 9223372036854775807) (hch : nh ≤ ch) (hcc : nc ≤ cc)
    (HE : Hid (ends.length = ne)) (HH : Hid (hs.length = nh)) (HC : Hid (cs.length = nc)) (HF : Hid (fs.length = nf)) (HR : Hid (rs.length = nr)) (HV : Hid (vs.length = nv)) (hln : Hid (∀ v ∈ vs, v.2.1 ≤ 9223372036854775807))
    (re : Hid (RdI w ae ends)) (rh : Hid (RdI w ah hs)) (rc : Hid (RdU w ac cs)) (rf : Hid (Rd8 w af fs)) (rr : Hid (RdI w ar rs)) (rv : Hid (RdS w av vs)) (ri : Hid (Inner w vs xss)) :
    Calls Try.prog 17 #[.int .i64 k, .slice ae ne ce, .slice ah nh ch, .slice ac nc cc, .slice af nf cf, .slice ar nr cr, .slice av nv cv] w (RShape w (ShapeOK k ends hs cs fs rs vs xss)) := by
  by_cases h1 : nh = nc
  · by_cases h2 : ne = nf
    · by_cases h3 : nr = nv
      · by_cases h4 : k < 0
        · exact shape_bad4 k ae ah ac af ar av ne nh nc nf nr nv ce ch cc cf cr cv _ w hne hnh hnc hnf hnr hnv h1 h2 h3 h4
        · by_cases h5 : (ne : Int) ≤ k
          · exact shape_bad5 k ae ah ac af ar av ne nh nc nf nr nv ce ch cc cf cr cv _ w hne hnh hnc hnf hnr hnv h1 h2 h3 (by omega) h5
          · obtain ⟨K, rfl⟩ := Int.eq_ofNat_of_zero_le (show 0 ≤ k by omega)
            cases K with
            | zero => exact shape_zero ae ah ac af ar av ne nh nc nf nr nv ce ch cc cf cr cv ends hs cs fs rs vs xss w hne hnh hnc hnf hnr hnv hch hcc HE HH HC HF HR HV hln re rh rc rf rr rv ri (by omega) h1 h2 h3
            | succ K => exact shape_pos K ae ah ac af ar av ne nh nc nf nr nv ce ch cc cf cr cv ends hs cs fs rs vs xss w hne hnh hnc hnf hnr hnv hch hcc HE HH HC HF HR HV hln re rh rc rf rr rv ri (by omega) h1 h2 h3
      · exact shape_bad3 k ae ah ac af ar av ne nh nc nf nr nv ce ch cc cf cr cv _ w hne hnh hnc hnf hnr hnv h1 h2 h3
    · exact shape_bad2 k ae ah ac af ar av ne nh nc nf nr nv ce ch cc cf cr cv _ w hne hnh hnc hnf hnr hnv h1 h2
  · exact shape_bad1 k ae ah ac af ar av ne nh nc nf nr nv ce ch cc cf cr cv _ w hne hnh hnc hnf hnr hnv h1
end Go.Proofs.Qxb6616313a
