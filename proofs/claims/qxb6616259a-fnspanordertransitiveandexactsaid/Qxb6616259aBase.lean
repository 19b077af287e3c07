/- THE CONTRACTS OF WHAT THE SPAN LAWS CALL. -/
import Derived.Test.Qxb6616259aRows
import Derived.WalkKit
import Derived.ProofKit
import Derived.OpenShut
import Derived.WalkLawsBesides
import Derived.Deep.QuietTactic
import Derived.BigQuiet
import Derived.Lib.Bytealg
import Derived.Laws.Externs
import Derived.Deep.RegionHeld3
namespace Go.Proofs.Qxb6616259a
open Go.ChangeShapes Go.WideShapes Go.ChangeAt Go.RowKit
set_option linter.unusedVariables false

def sgn (x y : Int) : Int := if x < y then -1 else if y < x then 1 else 0
def cb (x y : ByteArray) : Int := Lib.compareBytes x.data.toList y.data.toList
theorem ret_int {k : IntKind} {a b : Int} (h : a = b) : Ending.returned (.int k a) = .returned (.int k b) := by rw [h]

theorem sign64_any (x y : Int) (w : World) : Calls Try.prog 13 #[.int .i64 x, .int .i64 y] w fun e w' => e = .returned (.int .i64 (sgn x y)) ∧ w' = w := by
  by_cases h : x < y
  · go_enter Try.func13, Try.ntmps13
    go_wp2
    go_ret
    exact ⟨ret_int (by simp [sgn, h]), rfl⟩
  · by_cases h2 : y < x
    · go_enter Try.func13, Try.ntmps13
      go_wp2
      go_ret
      exact ⟨ret_int (by simp [sgn, h, h2]), rfl⟩
    · go_enter Try.func13, Try.ntmps13
      go_wp2
      go_ret
      exact ⟨ret_int (by unfold sgn; rw [if_neg (by omega), if_neg (by omega)]), rfl⟩

theorem compare_any (x y : Int) (w : World) : Calls Try.prog 27 #[.int .i64 x, .int .i64 y] w fun e w' => e = .returned (.int .i64 (sgn x y)) ∧ w' = w := by
  by_cases h : x < y
  · go_enter Try.func27, Try.ntmps27
    go_wp2
    go_ret
    exact ⟨ret_int (by simp [sgn, h]), rfl⟩
  · by_cases h2 : y < x
    · go_enter Try.func27, Try.ntmps27
      go_wp2
      go_ret
      exact ⟨ret_int (by simp [sgn, h, h2]), rfl⟩
    · go_enter Try.func27, Try.ntmps27
      go_wp2
      go_ret
      exact ⟨ret_int (by unfold sgn; rw [if_neg (by omega), if_neg (by omega)]), rfl⟩

theorem strings_any (x y : ByteArray) (w : World) : Calls Try.prog 33 #[.string x, .string y] w fun e w' => e = .returned (.int .i64 (cb x y)) ∧ w' = w := by
  have hcall : (callFunc 35 #[.string x, .string y]).run Try.prog w = .ok (.value (.int .i64 (cb x y))) w := by
    rw [run_callFunc_extern Try.func35 (by kernel_rfl) (by kernel_rfl) (by kernel_rfl) (e := Extern.BytealgCompare.compare) (by kernel_rfl), Lib.run_compareString]
    rfl
  go_enter Try.func33, Try.ntmps33
  go_wp2
  go_ret
  exact ⟨rfl, rfl⟩

def orI (x y : Int) : Int := if x = 0 then y else x
/-- cmp.Or at two numbers -/
theorem or_any (b : Nat) (x y : Int) (w : World) (h0 : w.cell? ⟨b, 0, none⟩ = some (.int .i64 x)) (h1 : w.cell? ⟨b, 1, none⟩ = some (.int .i64 y)) :
    Calls Try.prog 32 #[.slice (some ⟨b, 0, none⟩) 2 2] w fun e w' => e = .returned (.int .i64 (orI x y)) ∧ w' = w := by
  go_enter Try.func32, Try.ntmps32
  go_wp2
  go_loop [8] (fun i => i = .int .i64 0 ∨ (i = .int .i64 1 ∧ Hid (x = 0)) ∨ (i = .int .i64 2 ∧ Hid (x = 0) ∧ Hid (y = 0))) (fun i => 2 - (intOf i).toNat)
  case atStart => exact .inl rfl
  case round =>
    rcases hrel with rfl | ⟨rfl, hx⟩ | ⟨rfl, hx, hy⟩
    · by_cases hx : x = 0
      · have hb : (x != 0) = false := by simp [hx]
        have HX : Hid (x = 0) := hx
        clear hx
        go_wp2
        go_round
        case rel => exact .inr (.inl ⟨rfl, HX⟩)
        case measure => simp [intOf]
      · have hb : (x != 0) = true := by simp [hx]
        have HX : Hid (¬ x = 0) := hx
        clear hx
        go_wp2
        go_ret
        exact ⟨ret_int (by unfold orI; rw [if_neg HX.out]), rfl⟩
    · by_cases hy : y = 0
      · have hb : (y != 0) = false := by simp [hy]
        have HY : Hid (y = 0) := hy
        clear hy
        go_wp2
        go_round
        case rel => exact .inr (.inr ⟨rfl, hx, HY⟩)
        case measure => simp [intOf]
      · have hb : (y != 0) = true := by simp [hy]
        clear hy
        go_wp2
        go_ret
        exact ⟨ret_int (by unfold orI; rw [if_pos hx.out]), rfl⟩
    · go_wp2
      go_ret
      exact ⟨ret_int (by unfold orI; rw [if_pos hx.out, hy.out]), rfl⟩

theorem or_new (x y : Int) (w : World) :
    Calls Try.prog 32 #[.slice (some ⟨w.heap.size, 0, none⟩) 2 2] (w.alloc (.cells #[.int .i64 x, .int .i64 y] 3)).drew fun e w' => e = .returned (.int .i64 (orI x y)) ∧ (w.alloc (.cells #[.int .i64 x, .int .i64 y] 3)).drew = w' := by
  refine (or_any w.heap.size x y _ ?_ ?_).mono ?_
  · show (w.alloc _).cell? _ = _
    rw [World.cell?_alloc_at _ _ _ _ rfl]; rfl
  · show (w.alloc _).cell? _ = _
    rw [World.cell?_alloc_at _ _ _ _ rfl]; rfl
  · rintro e w' ⟨rfl, rfl⟩
    exact ⟨rfl, rfl⟩

set_option maxHeartbeats 2000000 in
theorem spanOrder_any (b o b' o' : Nat) (t t' : Int) (s s' : ByteArray) (w : World)
   (c0 : w.cell? ⟨b, o + 6, none⟩ = some (.int .i64 t)) (c1 : w.cell? ⟨b, o + 1, none⟩ = some (.string s))
   (d0 : w.cell? ⟨b', o' + 6, none⟩ = some (.int .i64 t')) (d1 : w.cell? ⟨b', o' + 1, none⟩ = some (.string s')) :
    Calls Try.prog 29 #[.pointer (some ⟨b, o, none⟩), .pointer (some ⟨b', o', none⟩)] w fun e w' => e = .returned (.int .i64 (orI (sgn t t') (cb s s'))) ∧ Below w.heap.size w w' := by
  go_enter Try.func29, Try.ntmps29
  go_wp2
  go_region_held3 (fun w' => w'.cell? ⟨b, o + 6, none⟩ = some (.int .i64 t) ∧ w'.cell? ⟨b, o + 1, none⟩ = some (.string s) ∧ w'.cell? ⟨b', o' + 6, none⟩ = some (.int .i64 t') ∧ w'.cell? ⟨b', o' + 1, none⟩ = some (.string s')) (go_keep)
    (first | (go_at_call 27; refine (compare_any _ _ _).mono ?_; rintro e w' ⟨rfl, rfl⟩) | (go_at_call 33; refine (strings_any _ _ _).mono ?_; rintro e w' ⟨rfl, rfl⟩) | (go_at_call 32; refine (or_new _ _ _).mono ?_; rintro e w' ⟨rfl, rfl⟩))
  go_wp2
  go_ret
  exact ⟨rfl, ((Below.refl _ _).alloc (Nat.le_refl _) _).drew⟩

theorem zzOrder_any (b o b' o' : Nat) (t t' : Int) (s s' : ByteArray) (w : World)
   (c0 : w.cell? ⟨b, o + 6, none⟩ = some (.int .i64 t)) (c1 : w.cell? ⟨b, o + 1, none⟩ = some (.string s))
   (d0 : w.cell? ⟨b', o' + 6, none⟩ = some (.int .i64 t')) (d1 : w.cell? ⟨b', o' + 1, none⟩ = some (.string s')) :
    Calls Try.prog 21 #[.pointer (some ⟨b, o, none⟩), .pointer (some ⟨b', o', none⟩)] w fun e w' => e = .returned (.int .i64 (orI (sgn t t') (cb s s'))) ∧ Below w.heap.size w w' := by
  go_enter Try.func21, Try.ntmps21
  go_wp2_with (go_at_call 29; refine (spanOrder_any b o b' o' t t' s s' _ c0 c1 d0 d1).mono ?_; rintro e w' ⟨rfl, hb⟩)
  go_ret
  exact ⟨rfl, hb⟩

/-! ### byteCompare -/
theorem cbl_lt : ∀ (k : Nat) (xs ys : List UInt8), k < xs.length → k < ys.length → (∀ j, j < k → xs.getD j 0 = ys.getD j 0) → xs.getD k 0 < ys.getD k 0 → Lib.compareBytes xs ys = -1
  | 0, x :: xs, y :: ys, _, _, _, h => by simp at h; simp [Lib.compareBytes, h]
  | k + 1, x :: xs, y :: ys, h1, h2, he, h => by
    have e0 := he 0 (by omega)
    simp at e0 h1 h2
    subst e0
    have hlt : ¬ x < x := UInt8.lt_irrefl x
    simp only [Lib.compareBytes, hlt, if_false]
    exact cbl_lt k xs ys h1 h2 (fun j hj => by simpa using he (j + 1) (by omega)) (by simpa using h)
  | _, [], _, h, _, _, _ => by simp at h
  | _, _, [], _, h, _, _ => by simp at h
theorem cbl_anti : ∀ xs ys : List UInt8, Lib.compareBytes ys xs = - Lib.compareBytes xs ys
  | [], [] => by simp [Lib.compareBytes]
  | [], _ :: _ => by simp [Lib.compareBytes]
  | _ :: _, [] => by simp [Lib.compareBytes]
  | x :: xs, y :: ys => by
    have ih := cbl_anti xs ys
    unfold Lib.compareBytes
    by_cases h1 : x < y
    · have h2 : ¬ y < x := UInt8.not_lt.2 (UInt8.le_of_lt h1)
      simp [h1, h2]
    · by_cases h2 : y < x
      · simp [h1, h2]
      · simp [h1, h2, ih]
theorem cbl_gt (k : Nat) (xs ys : List UInt8) (h1 : k < xs.length) (h2 : k < ys.length) (he : ∀ j, j < k → xs.getD j 0 = ys.getD j 0) (h : ys.getD k 0 < xs.getD k 0) : Lib.compareBytes xs ys = 1 := by
  have := cbl_lt k ys xs h2 h1 (fun j hj => (he j hj).symm) h
  rw [cbl_anti, this]; rfl
theorem cbl_end : ∀ (xs ys : List UInt8), (∀ j, j < xs.length → j < ys.length → xs.getD j 0 = ys.getD j 0) → Lib.compareBytes xs ys = if xs.length < ys.length then -1 else if ys.length < xs.length then 1 else 0
  | [], [], _ => by simp [Lib.compareBytes]
  | [], _ :: _, _ => by simp [Lib.compareBytes]
  | _ :: _, [], _ => by simp [Lib.compareBytes]
  | x :: xs, y :: ys, he => by
    have e0 := he 0 (by simp) (by simp)
    simp at e0
    subst e0
    have ih := cbl_end xs ys (fun j h1 h2 => by simpa using he (j + 1) (by simpa using h1) (by simpa using h2))
    have hlt : ¬ x < x := UInt8.lt_irrefl x
    simp only [Lib.compareBytes, hlt, if_false, ih, List.length_cons, Nat.add_lt_add_iff_right]

theorem byte_at (x : ByteArray) (k : Nat) (h : k < x.size) : x.data.toList.getD k 0 = x[k] := by
  rw [List.getD_eq_getElem?_getD, List.getElem?_eq_getElem (by simpa using h)]
  rfl

set_option maxHeartbeats 400000 in
theorem byteCompare_any (x y : ByteArray) (w : World) (hx : x.size ≤ 9223372036854775807) (hy : y.size ≤ 9223372036854775807) :
    Calls Try.prog 14 #[.string x, .string y] w fun e w' => e = .returned (.int .i64 (cb x y)) ∧ ∃ n, w' = w.drewN n := by
  by_cases hlm : y.size < x.size
  all_goals
    go_enter Try.func14, Try.ntmps14
    go_wp2
    go_loopw [6] (fun i wr => ∃ k n : Nat, k ≤ x.size ∧ k ≤ y.size ∧ i = .int .i64 k ∧ wr = w.drewN n ∧ Hid (∀ j, j < k → x.data.toList.getD j 0 = y.data.toList.getD j 0)) (fun i _ => x.size - (intOf i).toNat)
    case atStart => exact ⟨0, 0, Nat.zero_le _, Nat.zero_le _, rfl, rfl, fun j hj => by omega⟩
    case round =>
      obtain ⟨k, n, hk1, hk2, rfl, rfl, HE⟩ := hrel
      by_cases hlt : k < x.size ∧ k < y.size
      · obtain ⟨h1, h2⟩ := hlt
        have i1 : (k : Int) < (x.size : Int) := by omega
        have i2 : (k : Int) < (y.size : Int) := by omega
        have ex := byte_at x k h1
        have ey := byte_at y k h2
        have e1 : Hid (x[k].toNat < y[k].toNat → cb x y = -1) := fun h => cbl_lt k _ _ (by simpa using h1) (by simpa using h2) HE.out (by rw [ex, ey, UInt8.lt_iff_toNat_lt]; exact h)
        have e2 : Hid (y[k].toNat < x[k].toNat → cb x y = 1) := fun h => cbl_gt k _ _ (by simpa using h1) (by simpa using h2) HE.out (by rw [ex, ey, UInt8.lt_iff_toNat_lt]; exact h)
        have HE' : Hid (x[k].toNat = y[k].toNat → ∀ j, j < k + 1 → x.data.toList.getD j 0 = y.data.toList.getD j 0) := fun h j hj => by
          by_cases hjk : j = k
          · subst hjk; rw [ex, ey]; exact UInt8.toNat_inj.1 h
          · exact HE.out j (by omega)
        clear ex ey
        go_wp2
        go_quiet (fail)
        go_wp2
        · have hq : x[k].toNat < y[k].toNat := by assumption
          go_ret
          exact ⟨ret_int (e1.out hq).symm, _, World.drewN_drewN _ _ _⟩
        · have hq : ¬ x[k].toNat < y[k].toNat := by assumption
          go_quiet (fail)
          go_wp2
          · have hq2 : y[k].toNat < x[k].toNat := by assumption
            go_ret
            exact ⟨ret_int (e2.out hq2).symm, _, by rw [World.drewN_drewN, World.drewN_drewN]⟩
          · have hq2 : ¬ y[k].toNat < x[k].toNat := by assumption
            have hE := HE'.out (by omega)
            go_roundw
            case rel => exact ⟨k + 1, _, by omega, by omega, by go_num, rfl, hE⟩
            case measure => simp [intOf]; omega
      · have HQ : Hid (cb x y = if x.size < y.size then -1 else if y.size < x.size then 1 else 0) := by
          have := cbl_end x.data.toList y.data.toList (fun j a b => HE.out j (by simp at a b; omega))
          show cb x y = _
          simpa [cb] using this
        go_wp2
        all_goals
          go_ret
          refine ⟨ret_int ?_, _, rfl⟩
          rw [HQ.out]
          first | (rw [if_pos (by omega)]) | (rw [if_neg (by omega), if_pos (by omega)]) | (rw [if_neg (by omega), if_neg (by omega)])

theorem want_any (b o b' o' : Nat) (t t' : Int) (s s' : ByteArray) (w : World) (hs : s.size ≤ 9223372036854775807) (hs' : s'.size ≤ 9223372036854775807)
   (c0 : w.cell? ⟨b, o + 6, none⟩ = some (.int .i64 t)) (c1 : w.cell? ⟨b, o + 1, none⟩ = some (.string s))
   (d0 : w.cell? ⟨b', o' + 6, none⟩ = some (.int .i64 t')) (d1 : w.cell? ⟨b', o' + 1, none⟩ = some (.string s')) :
    Calls Try.prog 20 #[.pointer (some ⟨b, o, none⟩), .pointer (some ⟨b', o', none⟩)] w fun e w' => e = .returned (.int .i64 (orI (sgn t t') (cb s s'))) ∧ ∃ n, w' = w.drewN n := by
  by_cases hz : sgn t t' = 0
  · have hb : (sgn t t' == 0) = true := by simp [hz]
    have HZ : Hid (orI (sgn t t') (cb s s') = cb s s') := by show _ = _; unfold orI; rw [if_pos hz]
    clear hz
    go_enter Try.func20, Try.ntmps20
    go_wp2
    go_quiet ((go_at_call 13; exact Calls.quiet_of_same (sign64_any _ _ _)))
    go_wp2
    go_quiet ((go_at_call 14; refine (byteCompare_any _ _ _ hs hs').mono ?_; rintro e w2 ⟨rfl, m, rfl⟩; exact ⟨rfl, _, by rw [World.drewN_drewN, Nat.add_assoc]⟩))
    go_wp2
    go_ret
    exact ⟨ret_int HZ.out.symm, _, World.drewN_drewN _ _ _⟩
  · have hb : (sgn t t' == 0) = false := by simp [hz]
    have HZ : Hid (orI (sgn t t') (cb s s') = sgn t t') := by show _ = _; unfold orI; rw [if_neg hz]
    clear hz
    go_enter Try.func20, Try.ntmps20
    go_wp2
    go_quiet ((go_at_call 13; exact Calls.quiet_of_same (sign64_any _ _ _)))
    go_wp2
    go_ret
    exact ⟨ret_int HZ.out.symm, _, rfl⟩

theorem addLen_any (n l : Int) (w : World) (h0 : 0 ≤ n) (h1 : n ≤ 1048577) (h2 : 0 ≤ l) (h3 : l ≤ 9223372036854775807) :
    Calls Try.prog 22 #[.int .i64 n, .int .i64 l] w fun e w' => ∃ r, (e = .returned (.int .i64 r) ∧ w' = w) ∧ 0 ≤ r ∧ r ≤ 1048577 := by
  by_cases hn : n ≤ 1048576
  · by_cases hl : l ≤ 1048576 - n
    · go_enter Try.func22, Try.ntmps22
      go_wp2
      go_ret
      exact ⟨n + l, ⟨rfl, rfl⟩, by omega, by omega⟩
    · go_enter Try.func22, Try.ntmps22
      go_wp2
      go_ret
      exact ⟨1048577, ⟨rfl, rfl⟩, by omega, by omega⟩
  · go_enter Try.func22, Try.ntmps22
    go_wp2
    go_ret
    exact ⟨1048577, ⟨rfl, rfl⟩, by omega, by omega⟩

/-- what a span that came in holds, as far as the laws read it: its start, its span ID, and the lengths of its strings and slices -/
structure SpanAt (w : World) (b o : Nat) (t : Int) (s : ByteArray) : Prop where
  ts : w.cell? ⟨b, o + 6, none⟩ = some (.int .i64 t)
  id : w.cell? ⟨b, o + 1, none⟩ = some (.string s)
  sz : s.size ≤ 9223372036854775807
  c0 : ∃ x : ByteArray, w.cell? ⟨b, o, none⟩ = some (.string x) ∧ x.size ≤ 9223372036854775807
  c2 : ∃ x : ByteArray, w.cell? ⟨b, o + 2, none⟩ = some (.string x) ∧ x.size ≤ 9223372036854775807
  c3 : ∃ x : ByteArray, w.cell? ⟨b, o + 3, none⟩ = some (.string x) ∧ x.size ≤ 9223372036854775807
  c4 : ∃ x : ByteArray, w.cell? ⟨b, o + 4, none⟩ = some (.string x) ∧ x.size ≤ 9223372036854775807
  c8 : ∃ a l c, w.cell? ⟨b, o + 8, none⟩ = some (.slice a l c) ∧ l ≤ 9223372036854775807
  c9 : ∃ a l c, w.cell? ⟨b, o + 9, none⟩ = some (.slice a l c) ∧ l ≤ 9223372036854775807
  c10 : ∃ x : ByteArray, w.cell? ⟨b, o + 10, none⟩ = some (.string x) ∧ x.size ≤ 9223372036854775807
  c11 : ∃ a l c, w.cell? ⟨b, o + 11, none⟩ = some (.slice a l c) ∧ l ≤ 9223372036854775807

set_option maxHeartbeats 1000000 in
theorem spanBytes_any (b o : Nat) (n t : Int) (s : ByteArray) (w : World) (H : SpanAt w b o t s) (h0 : 0 ≤ n) (h1 : n ≤ 1048577) :
    Calls Try.prog 19 #[.int .i64 n, .pointer (some ⟨b, o, none⟩)] w fun e w' => ∃ r, (e = .returned (.int .i64 r) ∧ w' = w) ∧ 0 ≤ r ∧ r ≤ 1048577 := by
  obtain ⟨ht, hid, hsz, ⟨x0, c0, z0⟩, ⟨x2, c2, z2⟩, ⟨x3, c3, z3⟩, ⟨x4, c4, z4⟩, ⟨a8, l8, k8, c8, z8⟩, ⟨a9, l9, k9, c9, z9⟩, ⟨x10, c10, z10⟩, ⟨a11, l11, k11, c11, z11⟩⟩ := H
  clear ht
  by_cases hbig : l11 ≤ 43690
  · go_enter Try.func19, Try.ntmps19
    go_wp2_with (go_at_call 22; refine (addLen_any _ _ _ (by omega) (by omega) (by omega) (by omega)).mono ?_; rintro e w' ⟨r, ⟨rfl, rfl⟩, b1, b2⟩)
    go_ret
    exact ⟨_, ⟨rfl, rfl⟩, by assumption, by assumption⟩
  · go_enter Try.func19, Try.ntmps19
    go_wp2_with (go_at_call 22; refine (addLen_any _ _ _ (by omega) (by omega) (by omega) (by omega)).mono ?_; rintro e w' ⟨r, ⟨rfl, rfl⟩, b1, b2⟩)
    go_ret
    exact ⟨_, ⟨rfl, rfl⟩, by omega, by omega⟩
end Go.Proofs.Qxb6616259a
