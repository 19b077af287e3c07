/- THE PLAIN ORDER OF BYTE STRINGS, WHAT IT IS THAT A SLICE READS, AND THE CONTRACTS OF zzLexSign AND compareSetOf. -/
import Derived.Test.Qxb6616079aRows
import Derived.WalkKit
import Derived.ProofKit
import Derived.OpenShut
import Derived.WalkLawsBesides
import Derived.Deep.QuietTactic
import Derived.BigQuiet
import Derived.Lib.BytesEntry
import Derived.Laws.Externs
namespace Go.Proofs.Qxb6616079a
open Go.ChangeShapes Go.WideShapes Go.ChangeAt Go.RowKit
set_option linter.unusedVariables false

def lex : List Int → List Int → Int
  | [], [] => 0
  | [], _ :: _ => -1
  | _ :: _, [] => 1
  | x :: xs, y :: ys => if x < y then -1 else if y < x then 1 else lex xs ys

theorem lex_lt : ∀ (k : Nat) (xs ys : List Int), k < xs.length → k < ys.length → (∀ j, j < k → xs.getD j 0 = ys.getD j 0) → xs.getD k 0 < ys.getD k 0 → lex xs ys = -1
  | 0, x :: xs, y :: ys, _, _, _, h => by simp at h; simp [lex, h]
  | k + 1, x :: xs, y :: ys, h1, h2, he, h => by
    have e0 := he 0 (by omega)
    simp at e0 h1 h2
    subst e0
    simp [lex]
    exact lex_lt k xs ys h1 h2 (fun j hj => by simpa using he (j + 1) (by omega)) (by simpa using h)
  | _, [], _, h, _, _, _ => by simp at h
  | _, _, [], _, h, _, _ => by simp at h
theorem lex_gt : ∀ (k : Nat) (xs ys : List Int), k < xs.length → k < ys.length → (∀ j, j < k → xs.getD j 0 = ys.getD j 0) → ys.getD k 0 < xs.getD k 0 → lex xs ys = 1
  | 0, x :: xs, y :: ys, _, _, _, h => by simp at h; have : ¬ x < y := by omega
                                          simp [lex, h, this]
  | k + 1, x :: xs, y :: ys, h1, h2, he, h => by
    have e0 := he 0 (by omega)
    simp at e0 h1 h2
    subst e0
    simp [lex]
    exact lex_gt k xs ys h1 h2 (fun j hj => by simpa using he (j + 1) (by omega)) (by simpa using h)
  | _, [], _, h, _, _, _ => by simp at h
  | _, _, [], _, h, _, _ => by simp at h
theorem lex_end : ∀ (xs ys : List Int), (∀ j, j < xs.length → j < ys.length → xs.getD j 0 = ys.getD j 0) → lex xs ys = if xs.length < ys.length then -1 else if ys.length < xs.length then 1 else 0
  | [], [], _ => by simp [lex]
  | [], _ :: _, _ => by simp [lex]
  | _ :: _, [], _ => by simp [lex]
  | x :: xs, y :: ys, he => by
    have e0 := he 0 (by simp) (by simp)
    simp at e0
    subst e0
    have ih := lex_end xs ys (fun j h1 h2 => by simpa using he (j + 1) (by simpa using h1) (by simpa using h2))
    simp [lex, ih]

theorem ret_int {k : IntKind} {a b : Int} (h : a = b) : Ending.returned (.int k a) = .returned (.int k b) := by rw [h]

/-- the slice at 'a' reads the bytes 'xs' -/
def Rd (w : World) (a : Option Addr) (xs : List Int) : Prop :=
  (∀ n ∈ xs, 0 ≤ n ∧ n ≤ 255) ∧ (xs = [] ∨ ∃ b off, a = some ⟨b, off, none⟩ ∧ ∀ j, j < xs.length → w.cell? ⟨b, off + j, none⟩ = some (.int .u8 (xs.getD j 0)))

theorem Rd.drewN {w : World} {a : Option Addr} {xs : List Int} (h : Rd w a xs) (n : Nat) : Rd (w.drewN n) a xs := h

set_option maxHeartbeats 400000 in
theorem lexSign_rows (b off ca b' off' cb : Nat) (xs ys : List Int) (w : World) (hx : xs.length ≤ 9223372036854775807) (hy : ys.length ≤ 9223372036854775807)
    (hc : ∀ j, j < xs.length → w.cell? ⟨b, off + j, none⟩ = some (.int .u8 (xs.getD j 0)))
    (hd : ∀ j, j < ys.length → w.cell? ⟨b', off' + j, none⟩ = some (.int .u8 (ys.getD j 0))) :
    Calls Try.prog 7 #[.slice (some ⟨b, off, none⟩) xs.length ca, .slice (some ⟨b', off', none⟩) ys.length cb] w fun e w' => e = .returned (.int .i64 (lex xs ys)) ∧ ∃ n, w' = w.drewN n := by
  generalize hL : xs.length = L at *
  generalize hM : ys.length = M at *
  have HL : Hid (xs.length = L) := hL
  have HM : Hid (ys.length = M) := hM
  clear hL hM
  by_cases hlm : M < L
  all_goals
    go_enter Try.func7, Try.ntmps7
    go_wp2
    go_loopw [6] (fun i wr => ∃ k n : Nat, k ≤ L ∧ k ≤ M ∧ i = .int .i64 k ∧ wr = w.drewN n ∧ Hid (∀ j, j < k → xs.getD j 0 = ys.getD j 0)) (fun i _ => L - (intOf i).toNat)
    case atStart => exact ⟨0, 0, Nat.zero_le _, Nat.zero_le _, rfl, rfl, fun j hj => by omega⟩
    case round =>
      obtain ⟨k, n, hk1, hk2, rfl, rfl, HE⟩ := hrel
      by_cases hlt : k < L ∧ k < M
      · obtain ⟨h1, h2⟩ := hlt
        have g1 := hc k h1
        have g2 := hd k h2
        have i1 : (k : Int) < (L : Int) := by omega
        have i2 : (k : Int) < (M : Int) := by omega
        have e1 : Hid (xs.getD k 0 < ys.getD k 0 → lex xs ys = -1) := lex_lt k xs ys (by rw [HL.out]; exact h1) (by rw [HM.out]; exact h2) HE.out
        have e2 : Hid (ys.getD k 0 < xs.getD k 0 → lex xs ys = 1) := lex_gt k xs ys (by rw [HL.out]; exact h1) (by rw [HM.out]; exact h2) HE.out
        go_wp2
        go_quiet (fail)
        go_wp2
        · have hq : xs[k]?.getD 0 < ys[k]?.getD 0 := by assumption
          go_ret
          exact ⟨ret_int (e1.out (by simpa using hq)).symm, _, World.drewN_drewN _ _ _⟩
        · have hq : ys[k]?.getD 0 ≤ xs[k]?.getD 0 := by assumption
          go_quiet (fail)
          go_wp2
          · have hq2 : ys[k]?.getD 0 < xs[k]?.getD 0 := by assumption
            go_ret
            exact ⟨ret_int (e2.out (by simpa using hq2)).symm, _, by rw [World.drewN_drewN, World.drewN_drewN]⟩
          · have hq2 : xs[k]?.getD 0 ≤ ys[k]?.getD 0 := by assumption
            have hE : ∀ j, j < k + 1 → xs.getD j 0 = ys.getD j 0 := fun j hj => by
              by_cases hjk : j = k
              · subst hjk; simp; omega
              · exact HE.out j (by omega)
            go_roundw
            case rel => exact ⟨k + 1, _, by omega, by omega, by go_num, rfl, hE⟩
            case measure => simp [intOf]; omega
      · have hE := lex_end xs ys (fun j h1 h2 => HE.out j (by rw [HL.out] at h1; rw [HM.out] at h2; omega))
        rw [HL.out, HM.out] at hE
        have HQ : Hid (lex xs ys = if L < M then -1 else if M < L then 1 else 0) := hE
        clear hE
        go_wp2
        all_goals
          go_ret
          refine ⟨ret_int ?_, _, rfl⟩
          rw [HQ.out]
          first | rfl | (rw [if_pos (by omega)]) | (rw [if_neg (by omega), if_pos (by omega)]) | (rw [if_neg (by omega), if_neg (by omega)])

set_option maxHeartbeats 400000 in
theorem lexSign_short (a a' : Option Addr) (ca cb L M : Nat) (w : World) (hx : L ≤ 9223372036854775807) (hy : M ≤ 9223372036854775807) (h0 : L = 0 ∨ M = 0) :
    Calls Try.prog 7 #[.slice a L ca, .slice a' M cb] w fun e w' => e = .returned (.int .i64 (if L < M then -1 else if M < L then 1 else 0)) ∧ w' = w := by
  by_cases hlm : M < L
  all_goals
    go_enter Try.func7, Try.ntmps7
    go_wp2
    go_loopw [6] (fun i wr => i = .int .i64 0 ∧ wr = w) (fun _ _ => 0)
    case atStart => exact ⟨rfl, rfl⟩
    case round =>
      obtain ⟨rfl, rfl⟩ := hrel
      go_wp2
      all_goals
        go_ret
        refine ⟨ret_int ?_, rfl⟩
        first | rfl | (rw [if_pos (by omega)]) | (rw [if_neg (by omega), if_pos (by omega)]) | (rw [if_neg (by omega), if_neg (by omega)])

theorem lex_nil (xs ys : List Int) (h : xs.length = 0 ∨ ys.length = 0) : lex xs ys = if xs.length < ys.length then -1 else if ys.length < xs.length then 1 else 0 :=
  lex_end xs ys fun j h1 h2 => by omega

theorem lexSign_any (a a' : Option Addr) (ca cb : Nat) (xs ys : List Int) (w : World) (hx : xs.length ≤ 9223372036854775807) (hy : ys.length ≤ 9223372036854775807)
    (ha : Rd w a xs) (ha' : Rd w a' ys) :
    Calls Try.prog 7 #[.slice a xs.length ca, .slice a' ys.length cb] w fun e w' => e = .returned (.int .i64 (lex xs ys)) ∧ ∃ n, w' = w.drewN n := by
  rcases ha.2 with he | ⟨b, off, rfl, hc⟩
  · refine (lexSign_short a a' ca cb _ _ w hx hy (by simp [he])).mono ?_
    rintro e w' ⟨rfl, rfl⟩
    exact ⟨ret_int (lex_nil xs ys (by simp [he])).symm, 0, rfl⟩
  · rcases ha'.2 with he | ⟨b', off', rfl, hd⟩
    · refine (lexSign_short _ a' ca cb _ _ w hx hy (by simp [he])).mono ?_
      rintro e w' ⟨rfl, rfl⟩
      exact ⟨ret_int (lex_nil xs ys (by simp [he])).symm, 0, rfl⟩
    · exact lexSign_rows b off ca b' off' cb xs ys w hx hy hc hd

/-! ### bytes.Compare -/
theorem byte_lt (x y : Int) (h0 : 0 ≤ x) (h1 : x ≤ 255) (h2 : 0 ≤ y) (h3 : y ≤ 255) : (UInt8.ofNat x.toNat < UInt8.ofNat y.toNat) ↔ x < y := by
  rw [UInt8.lt_iff_toNat_lt, UInt8.toNat_ofNat', UInt8.toNat_ofNat']
  omega
theorem compare_lex : ∀ (xs ys : List Int), (∀ n ∈ xs, 0 ≤ n ∧ n ≤ 255) → (∀ n ∈ ys, 0 ≤ n ∧ n ≤ 255) → Lib.compareBytes (Lib.bytesOf xs) (Lib.bytesOf ys) = lex xs ys
  | [], [], _, _ => rfl
  | [], _ :: _, _, _ => rfl
  | _ :: _, [], _, _ => rfl
  | x :: xs, y :: ys, hx, hy => by
    have ih := compare_lex xs ys (fun n hn => hx n (by simp [hn])) (fun n hn => hy n (by simp [hn]))
    have bx := hx x (by simp)
    have b_y := hy y (by simp)
    have e1 := byte_lt x y bx.1 bx.2 b_y.1 b_y.2
    have e2 := byte_lt y x b_y.1 b_y.2 bx.1 bx.2
    unfold Lib.bytesOf at ih ⊢
    simp only [List.map_cons, Lib.compareBytes, lex, e1, e2, ih]

theorem run_bytesOf {P : Program} (w : World) (a : Option Addr) (c : Nat) (xs : List Int) (h : Rd w a xs) :
    (Extern.Bytes.bytesOf (.slice a xs.length c)).run P w = .ok ⟨(Lib.bytesOf xs).toArray⟩ w := by
  rcases h.2 with rfl | ⟨b, off, rfl, hc⟩
  · cases a with
    | none => rfl
    | some a => rfl
  · have hl := Lib.run_loadBytesX (P := P) w xs ⟨b, off, none⟩ .empty (fun j x hj => by
      have hjl : j < xs.length := (List.getElem?_eq_some_iff.1 hj).1
      have e : (⟨b, off, none⟩ : Addr).add j = ⟨b, off + j, none⟩ := by unfold Addr.add; split <;> simp_all
      rw [e, hc j hjl, List.getD_eq_getElem?_getD, hj]
      rfl)
    have he : (⟨ByteArray.empty.data ++ (Lib.bytesOf xs).toArray⟩ : ByteArray) = ⟨(Lib.bytesOf xs).toArray⟩ := by
      apply ByteArray.ext
      show (#[] : Array UInt8) ++ (Lib.bytesOf xs).toArray = (Lib.bytesOf xs).toArray
      simp
    rw [he] at hl
    exact hl

theorem run_compareSlice {P : Program} (w : World) (a a' : Option Addr) (c c' : Nat) (xs ys : List Int) (h : Rd w a xs) (h' : Rd w a' ys) :
    (Extern.BytealgCompare.compare #[.slice a xs.length c, .slice a' ys.length c']).run P w = .ok (.int .i64 (lex xs ys)) w := by
  change Sem.run P (do pure (goInt (Extern.BytealgCompare.cmp (← Extern.Bytes.bytesOf (.slice a xs.length c)) (← Extern.Bytes.bytesOf (.slice a' ys.length c'))))) w = _
  simp only [Sem.run_bind, run_bytesOf w a c xs h, run_bytesOf w a' c' ys h', Sem.run_pure, Result.andThen]
  rw [Lib.cmp_eq]
  rw [show (ByteArray.mk (Lib.bytesOf xs).toArray).data.toList = Lib.bytesOf xs from rfl, show (ByteArray.mk (Lib.bytesOf ys).toArray).data.toList = Lib.bytesOf ys from rfl, compare_lex xs ys h.1 h'.1]
  rfl

set_option maxHeartbeats 400000 in
theorem compare_any (a a' : Option Addr) (ca cb : Nat) (xs ys : List Int) (w : World) (ha : Rd w a xs) (ha' : Rd w a' ys) :
    Calls Try.prog 6 #[.slice a xs.length ca, .slice a' ys.length cb] w fun e w' => e = .returned (.int .i64 (lex xs ys)) ∧ w' = w := by
  have hr := run_compareSlice (P := Try.prog) w a a' ca cb xs ys ha ha'
  clear ha ha'
  have hcall : (callFunc 14 #[.slice a xs.length ca, .slice a' ys.length cb]).run Try.prog w = .ok (.value (.int .i64 (lex xs ys))) w := by
    rw [run_callFunc_extern Try.func14 (by kernel_rfl) (by kernel_rfl) (by kernel_rfl) (e := Extern.BytealgCompare.compare) (by kernel_rfl), hr]
    rfl
  clear hr
  go_enter Try.func6, Try.ntmps6
  go_wp2
  go_ret
  exact ⟨rfl, rfl⟩
end Go.Proofs.Qxb6616079a
