/- THE CONTRACTS OF zzProperPrefix, zzPad AND zzPaddedSign. -/
import Derived.Test.Qxb6616079aPadLaw
import Derived.Test.Qxb6616079aClone
namespace Go.Proofs.Qxb6616079a
open Go.ChangeShapes Go.WideShapes Go.ChangeAt Go.RowKit
set_option linter.unusedVariables false

theorem ret_bool {a b : Bool} (h : a = b) : Ending.returned (.bool a) = .returned (.bool b) := by rw [h]

/-! ### zzProperPrefix -/
set_option maxHeartbeats 400000 in
theorem prefix_rows (b off ca b' off' cb : Nat) (xs ys : List Int) (L M : Nat) (w : World) (hx : L ≤ 9223372036854775807) (hy : M ≤ 9223372036854775807) (hlm : L < M)
    (HL : Hid (xs.length = L)) (HM : Hid (ys.length = M))
    (hc : ∀ j, j < L → w.cell? ⟨b, off + j, none⟩ = some (.int .u8 (xs.getD j 0)))
    (hd : ∀ j, j < M → w.cell? ⟨b', off' + j, none⟩ = some (.int .u8 (ys.getD j 0))) :
    Calls Try.prog 9 #[.slice (some ⟨b, off, none⟩) L ca, .slice (some ⟨b', off', none⟩) M cb] w fun e w' => e = .returned (.bool (ppB xs ys)) ∧ ∃ n, w' = w.drewN n := by
  go_enter Try.func9, Try.ntmps9
  go_wp2
  go_loopw [5] (fun i wr => ∃ k n : Nat, k ≤ L ∧ i = .int .i64 k ∧ wr = w.drewN n ∧ Hid (∀ j, j < k → xs.getD j 0 = ys.getD j 0)) (fun i _ => L - (intOf i).toNat)
  case atStart => exact ⟨0, 0, Nat.zero_le _, rfl, rfl, fun j hj => by omega⟩
  case round =>
    obtain ⟨k, n, hk1, rfl, rfl, HE⟩ := hrel
    by_cases h1 : k < L
    · have h2 : k < M := by omega
      have g1 := hc k h1
      have g2 := hd k h2
      have i1 : (k : Int) < (L : Int) := by omega
      have i2 : (k : Int) < (M : Int) := by omega
      by_cases he : xs.getD k 0 = ys.getD k 0
      · have hb : (xs[k]?.getD 0 != ys[k]?.getD 0) = false := by simpa using he
        have HE' : Hid (∀ j, j < k + 1 → xs.getD j 0 = ys.getD j 0) := fun j hj => by
          by_cases hjk : j = k
          · subst hjk; exact he
          · exact HE.out j (by omega)
        clear he
        go_wp2
        go_quiet (fail)
        go_wp2
        go_roundw
        case rel => exact ⟨k + 1, _, by omega, by go_num, rfl, HE'.out⟩
        case measure => simp [intOf]; omega
      · have hb : (xs[k]?.getD 0 != ys[k]?.getD 0) = true := by simpa using he
        have HN : Hid (ppB xs ys = false) := ppB_no xs ys k (by rw [HL.out]; exact h1) he
        clear he
        go_wp2
        go_quiet (fail)
        go_wp2
        go_ret
        exact ⟨ret_bool HN.out.symm, _, World.drewN_drewN _ _ _⟩
    · have HY : Hid (ppB xs ys = true) := ppB_yes xs ys (by rw [HL.out, HM.out]; exact hlm) (fun j hj => HE.out j (by rw [HL.out] at hj; omega))
      go_wp2
      go_ret
      exact ⟨ret_bool HY.out.symm, _, rfl⟩

set_option maxHeartbeats 400000 in
theorem prefix_empty (a a' : Option Addr) (ca cb M : Nat) (w : World) (hy : M ≤ 9223372036854775807) (h : 0 < M) :
    Calls Try.prog 9 #[.slice a 0 ca, .slice a' M cb] w fun e w' => e = .returned (.bool true) ∧ w' = w := by
  go_enter Try.func9, Try.ntmps9
  go_wp2
  go_loopw [5] (fun i wr => i = .int .i64 0 ∧ wr = w) (fun _ _ => 0)
  case atStart => exact ⟨rfl, rfl⟩
  case round =>
    obtain ⟨rfl, rfl⟩ := hrel
    go_wp2
    go_ret
    exact ⟨rfl, rfl⟩

theorem prefix_long (a a' : Option Addr) (ca cb L M : Nat) (w : World) (hx : L ≤ 9223372036854775807) (hy : M ≤ 9223372036854775807) (h : ¬ L < M) :
    Calls Try.prog 9 #[.slice a L ca, .slice a' M cb] w fun e w' => e = .returned (.bool false) ∧ w' = w := by
  go_enter Try.func9, Try.ntmps9
  go_wp2
  go_ret
  exact ⟨rfl, rfl⟩

theorem prefix_len (a a' : Option Addr) (L M ca cb : Nat) (xs ys : List Int) (w : World) (hx : L ≤ 9223372036854775807) (hy : M ≤ 9223372036854775807) (ha : Rd w a xs) (ha' : Rd w a' ys) (e0 : xs.length = L) (e1 : ys.length = M) :
    Calls Try.prog 9 #[.slice a L ca, .slice a' M cb] w fun e w' => e = .returned (.bool (ppB xs ys)) ∧ ∃ n, w' = w.drewN n := by
  by_cases hlm : L < M
  · rcases ha.2 with he | ⟨b, off, rfl, hc⟩
    · subst he
      simp at e0
      subst e0
      refine (prefix_empty a a' ca cb M w hy hlm).mono ?_
      rintro e w' ⟨rfl, rfl⟩
      exact ⟨ret_bool (ppB_yes [] ys (by rw [e1]; exact hlm) (fun j hj => by simp at hj)).symm, 0, rfl⟩
    · rcases ha'.2 with he | ⟨b', off', rfl, hd⟩
      · subst he; simp at e1; omega
      · exact prefix_rows b off ca b' off' cb xs ys L M w hx hy hlm e0 e1 (fun j hj => hc j (by omega)) (fun j hj => hd j (by omega))
  · refine (prefix_long a a' ca cb L M w hx hy hlm).mono ?_
    rintro e w' ⟨rfl, rfl⟩
    exact ⟨ret_bool (ppB_no_len xs ys (by rw [e0, e1]; exact hlm)).symm, 0, rfl⟩

/-! ### zzPaddedSign -/
theorem Rd.at {w : World} {a : Option Addr} {xs : List Int} (h : Rd w a xs) {k : Nat} (hk : k < xs.length) :
    ∃ b off, a = some ⟨b, off, none⟩ ∧ w.cell? ⟨b, off + k, none⟩ = some (.int .u8 (xs.getD k 0)) := by
  rcases h.2 with he | ⟨b, off, e, hc⟩
  · subst he; simp at hk
  · exact ⟨b, off, e, hc k hk⟩

set_option maxHeartbeats 1000000 in
theorem padSign_len (a a' : Option Addr) (L M ca cb : Nat) (xs ys : List Int) (w : World) (hx : L ≤ 9223372036854775807) (hy : M ≤ 9223372036854775807) (ha : Rd w a xs) (ha' : Rd w a' ys) (e0 : xs.length = L) (e1 : ys.length = M) :
    Calls Try.prog 11 #[.slice a L ca, .slice a' M cb] w fun e w' => e = .returned (.int .i64 (psign xs ys)) ∧ w' = w := by
  have HL : Hid (xs.length = L) := e0
  have HM : Hid (ys.length = M) := e1
  have ha2 : Hid (Rd w a xs) := ha
  have ha3 : Hid (Rd w a' ys) := ha'
  clear e0 e1 ha ha'
  by_cases hlm : L < M
  all_goals
    go_enter Try.func11, Try.ntmps11
    go_wp2
    go_loopw [6] (fun i wr => ∃ k : Nat, (k ≤ L ∨ k ≤ M) ∧ i = .int .i64 k ∧ wr = w ∧ Hid (∀ j, j < k → xs.getD j 0 = ys.getD j 0)) (fun i _ => max L M - (intOf i).toNat)
    case atStart => exact ⟨0, .inl (Nat.zero_le _), rfl, rfl, fun j hj => by omega⟩
    case round =>
      obtain ⟨k, hk1, rfl, rfl, HE⟩ := hrel
      by_cases h0 : k < L ∨ k < M
      · have HE' : Hid (xs.getD k 0 = ys.getD k 0 → ∀ j, j < k + 1 → xs.getD j 0 = ys.getD j 0) := fun he j hj => by
          by_cases hjk : j = k
          · subst hjk; exact he
          · exact HE.out j (by omega)
        have HLT : Hid (xs.getD k 0 < ys.getD k 0 → psign xs ys = -1) := psign_lt k xs ys (by rw [HL.out, HM.out]; exact h0) HE.out
        have HGT : Hid (ys.getD k 0 < xs.getD k 0 → psign xs ys = 1) := psign_gt k xs ys (by rw [HL.out, HM.out]; exact h0) HE.out
        by_cases h1 : k < L
        · obtain ⟨b, off, rfl, hc⟩ := ha2.out.at (k := k) (by rw [HL.out]; exact h1)
          by_cases h2 : k < M
          · obtain ⟨b', off', rfl, hd⟩ := ha3.out.at (k := k) (by rw [HM.out]; exact h2)
            clear ha2 ha3
            go_wp2
            · have hq : xs[k]?.getD 0 < ys[k]?.getD 0 := by assumption
              go_ret
              exact ⟨ret_int (HLT.out (by simpa using hq)).symm, rfl⟩
            · have hq : ys[k]?.getD 0 < xs[k]?.getD 0 := by assumption
              go_ret
              exact ⟨ret_int (HGT.out (by simpa using hq)).symm, rfl⟩
            · have hq : xs[k]?.getD 0 ≤ ys[k]?.getD 0 := by assumption
              have hq2 : ys[k]?.getD 0 ≤ xs[k]?.getD 0 := by assumption
              have hE := HE'.out (by simp only [List.getD_eq_getElem?_getD]; omega)
              go_roundw
              case rel => exact ⟨k + 1, by omega, by go_num, by trivial, hE⟩
              case measure => simp [intOf]; omega
          · first
            | (exfalso; omega)
            | (have Z : Hid (ys.getD k 0 = 0) := by
                 show ys.getD k 0 = 0
                 rw [List.getD_eq_getElem?_getD, List.getElem?_eq_none (by rw [HM.out]; omega)]; rfl
               have bd := ha2.out.1 (xs.getD k 0) (by rw [List.getD_eq_getElem?_getD, List.getElem?_eq_getElem (by rw [HL.out]; exact h1)]; exact List.getElem_mem _)
               have bd0 : 0 ≤ xs[k]?.getD 0 := by simpa using bd.1
               clear bd ha2 ha3
               by_cases hq : 0 < xs[k]?.getD 0
               · go_wp2
                 go_ret
                 exact ⟨ret_int (HGT.out (by rw [Z.out]; simpa using hq)).symm, rfl⟩
               · have hE := HE'.out (by rw [Z.out]; simp only [List.getD_eq_getElem?_getD]; omega)
                 have HE2 : Hid (∀ j, j < k + 1 → xs.getD j 0 = ys.getD j 0) := hE
                 clear hE
                 go_wp2
                 go_roundw
                 case rel => exact ⟨k + 1, by omega, by go_num, by trivial, HE2.out⟩
                 case measure => simp [intOf]; omega)
        · first
          | (exfalso; omega)
          | (have h2 : k < M := by omega
             obtain ⟨b', off', rfl, hd⟩ := ha3.out.at (k := k) (by rw [HM.out]; exact h2)
             have Z : Hid (xs.getD k 0 = 0) := by
               show xs.getD k 0 = 0
               rw [List.getD_eq_getElem?_getD, List.getElem?_eq_none (by rw [HL.out]; omega)]; rfl
             have bd := ha3.out.1 (ys.getD k 0) (by rw [List.getD_eq_getElem?_getD, List.getElem?_eq_getElem (by rw [HM.out]; exact h2)]; exact List.getElem_mem _)
             have bd0 : 0 ≤ ys[k]?.getD 0 := by simpa using bd.1
             clear bd ha2 ha3
             by_cases hq : 0 < ys[k]?.getD 0
             · go_wp2
               go_ret
               exact ⟨ret_int (HLT.out (by rw [Z.out]; simpa using hq)).symm, rfl⟩
             · have hE := HE'.out (by rw [Z.out]; simp only [List.getD_eq_getElem?_getD]; omega)
               have HE2 : Hid (∀ j, j < k + 1 → xs.getD j 0 = ys.getD j 0) := hE
               clear hE
               go_wp2
               go_roundw
               case rel => exact ⟨k + 1, by omega, by go_num, by trivial, HE2.out⟩
               case measure => simp [intOf]; omega)
      · have HQ : Hid (psign xs ys = 0) := psign_end xs ys (fun j hj => HE.out j (by rw [HL.out, HM.out] at hj; omega))
        go_wp2
        go_ret
        exact ⟨ret_int HQ.out.symm, rfl⟩

/-! ### zzPad -/
theorem set_row {w : World} {g k : Nat} {L : List Value} {t : TypeId} {v : Value} (h : w.heap[g]? = some (.cells L.toArray t (0, 0))) :
    (w.setCell ⟨g, k, none⟩ v).heap[g]? = some (.cells (L.set k v).toArray t (0, 0)) := by
  rw [setCell_eq_setRow w g k L.toArray t (0, 0) v h, setRow_heap w g L.toArray _ t _ h]
  simp

set_option maxHeartbeats 400000 in
theorem pad_len (a : Option Addr) (L ca m : Nat) (xs : List Int) (w : World) (hm : m ≤ 65536) (hL : L ≤ m) (ha : Rd w a xs) (e0 : xs.length = L) :
    Calls Try.prog 10 #[.slice a L ca, .int .i64 m] w fun e w' => e = .returned (.slice (some ⟨w.heap.size, 0, none⟩) m m) ∧ Below w.heap.size w w' ∧ Rd w' (some ⟨w.heap.size, 0, none⟩) (pad xs m) := by
  have HL : Hid (xs.length = L) := e0
  have ha2 : Hid (Rd w a xs) := ha
  have hmk := run_make_row' (P := Try.prog) 22 5 (.int .u8 0) 1 Try.underlying22 info5 rfl .i64 .i64 m (by omega) (by omega)
  clear e0 ha
  go_enter Try.func10, Try.ntmps10
  go_wp2
  go_loopw [6] (fun i wr => ∃ k : Nat, k ≤ L ∧ i = .int .i64 k ∧ Hid (wr.heap[w.heap.size]? = some (.cells ((pad (xs.take k) m).map (Value.int .u8)).toArray 5 (0, 0))) ∧ Below w.heap.size w wr) (fun i _ => L - (intOf i).toNat)
  case atStart =>
    refine ⟨0, Nat.zero_le _, rfl, ?_, (Below.refl _ _).alloc (Nat.le_refl _) _⟩
    show _ = _
    rw [heap_alloc_new, pad_zero, List.map_replicate, ← toList_madeCells_one]
  case round =>
    obtain ⟨k, hk1, rfl, HR, hb⟩ := hrel
    by_cases h1 : k < L
    · have hk' : k < xs.length := by rw [HL.out]; exact h1
      obtain ⟨b, off, rfl, hc⟩ := ha2.out.at hk'
      have hbl := block_lt hc
      have hc' : wr.cell? ⟨b, off + k, none⟩ = some (.int .u8 (xs.getD k 0)) := by rw [hb.cell hbl]; exact hc
      have hd : ∃ v, wr.cell? ⟨w.heap.size, k, none⟩ = some v := by
        have hl : k < (pad (xs.take k) m).length := by rw [pad_length _ _ (by simp; omega)]; omega
        refine ⟨Value.int .u8 ((pad (xs.take k) m)[k]'hl), ?_⟩
        simp only [World.cell?, HR.out]
        simp [hl]
      obtain ⟨v0, hd⟩ := hd
      have hf : wr.frozen? ⟨w.heap.size, k, none⟩ = false := by simp [World.frozen?, HR.out]
      have HS : Hid (∀ v, v = Value.int .u8 (xs.getD k 0) → (wr.setCell ⟨w.heap.size, k, none⟩ v).heap[w.heap.size]? = some (.cells ((pad (xs.take (k + 1)) m).map (Value.int .u8)).toArray 5 (0, 0))) := by
        rintro v rfl
        rw [set_row HR.out, ← pad_step xs m k hk' (by rw [HL.out]; exact hL), List.map_set]
      clear hc
      go_wp2
      go_roundw
      case rel => exact ⟨k + 1, by omega, by go_num, HS.out _ (by simp [hk']), hb.setCell (Nat.le_refl _) _⟩
      case measure => simp [intOf]; omega
    · have hkL : k = L := by omega
      have HE : Hid (pad (xs.take k) m = pad xs m) := by
        show _ = _
        rw [hkL, ← HL.out, pad_all]
      have HB : Hid (∀ n ∈ pad xs m, 0 ≤ n ∧ n ≤ 255) := pad_bd xs m ha2.out.1
      clear hkL
      go_wp2
      go_ret
      exact ⟨rfl, hb, rd_row HB.out (by rw [HR.out, HE.out])⟩
end Go.Proofs.Qxb6616079a
