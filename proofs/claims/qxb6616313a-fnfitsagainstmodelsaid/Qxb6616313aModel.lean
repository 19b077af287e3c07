/- zzGives, zzSameClock, zzAtOrBelow; THE PLAIN LAW OF FnFitsAgainstModel. -/
import Derived.Test.Qxb6616313aLawA
namespace Go.Proofs.Qxb6616313a
open Go.ChangeShapes Go.WideShapes Go.ChangeAt Go.RowKit
set_option linter.unusedVariables false

theorem drewN2 (w : World) (a b : Nat) : (w.drewN a).drewN b = w.drewN (a + b) := by simp [World.drewN, Nat.add_assoc]

/-- does the clock give host h the count c -/
def Gives (KH KC : List Int) (h c : Int) : Prop := ∃ i, i < KH.length ∧ KH.getD i 0 = h ∧ KC.getD i 0 = c
def RIff (w : World) (P : Prop) (e : Ending) (w' : World) : Prop := ∃ r n, e = .returned (.bool r) ∧ w' = w.drewN n ∧ (r = true ↔ P)
theorem RIff.yes {w : World} {P : Prop} (h : P) (n : Nat) : RIff w P (.returned (.bool true)) (w.drewN n) := ⟨true, n, rfl, rfl, fun _ => h, fun _ => rfl⟩
theorem RIff.no {w : World} {P : Prop} (h : ¬ P) (n : Nat) : RIff w P (.returned (.bool false)) (w.drewN n) := ⟨false, n, rfl, rfl, (fun h => by cases h), fun h2 => absurd h2 h⟩

set_option maxHeartbeats 1000000 in
theorem gives_any (a a' : Option Addr) (n c c' : Nat) (KH KC : List Int) (h k : Int) (w : World) (hn : n ≤ 9223372036854775807) (HN : Hid (KH.length = n)) (HM : Hid (KC.length = n)) (ha : Hid (RdI w a KH)) (ha' : Hid (RdU w a' KC)) :
    Calls Try.prog 31 #[.slice a n c, .slice a' n c', .int .i64 h, .int .u64 k] w (RIff w (Gives KH KC h k)) := by
  go_enter Try.func31, Try.ntmps31
  go_wp2
  go_loopw [9] (fun vi wz => ∃ i : Nat, i ≤ n ∧ vi = .int .i64 i ∧ wz = w ∧ Hid (∀ j, j < i → ¬ (KH.getD j 0 = h ∧ KC.getD j 0 = k))) (fun vi _ => n - (intOf vi).toNat)
  case atStart => exact ⟨0, Nat.zero_le _, rfl, rfl, fun j hj => by omega⟩
  case round =>
    obtain ⟨i, hi1, rfl, rfl, HI⟩ := hrel
    by_cases hi : i < n
    · obtain ⟨b, o, v, rfl, d1, V1⟩ := ha.out.atv HN.out hi
      obtain ⟨b', o', u, rfl, d2, V2⟩ := ha'.out.atv HM.out hi
      have i1 : (i : Int) < (n : Int) := by omega
      by_cases hv : v = h
      · have q1 : (v == h) = true := by simpa using hv
        by_cases hu : u = k
        · have q2 : (u == k) = true := by simpa using hu
          have HP : Hid (RIff wr (Gives KH KC h k) (.returned (.bool true)) (wr.drewN 0)) := RIff.yes ⟨i, by rw [HN.out]; exact hi, by rw [V1.out]; exact hv, by rw [V2.out]; exact hu⟩ 0
          clear hv hu
          go_wp2
          go_ret
          exact HP.out
        · have q2 : (u == k) = false := by simpa using hu
          have HI2 : Hid (∀ j, j < i + 1 → ¬ (KH.getD j 0 = h ∧ KC.getD j 0 = k)) := fun j hj => by
            by_cases e : j = i
            · subst e; rw [V1.out, V2.out]; exact fun hh => hu hh.2
            · exact HI.out j (by omega)
          clear hv hu
          go_wp2
          go_roundw
          case rel => exact ⟨i + 1, by omega, by go_num, by trivial, HI2.out⟩
          case measure => simp [intOf]; omega
      · have q1 : (v == h) = false := by simpa using hv
        have HI2 : Hid (∀ j, j < i + 1 → ¬ (KH.getD j 0 = h ∧ KC.getD j 0 = k)) := fun j hj => by
          by_cases e : j = i
          · subst e; rw [V1.out, V2.out]; exact fun hh => hv hh.1
          · exact HI.out j (by omega)
        clear hv
        go_wp2
        go_roundw
        case rel => exact ⟨i + 1, by omega, by go_num, by trivial, HI2.out⟩
        case measure => simp [intOf]; omega
    · have HP : Hid (RIff wr (Gives KH KC h k) (.returned (.bool false)) (wr.drewN 0)) := RIff.no (fun ⟨j, h1, h2⟩ => HI.out j (by rw [HN.out] at h1; omega) h2) 0
      go_wp2
      go_ret
      exact HP.out

/-- the two clocks are one -/
def SameCl (KH KC ch cc : List Int) : Prop := KH.length = ch.length ∧ ∀ i, i < KH.length → KH.getD i 0 = ch.getD i 0 ∧ KC.getD i 0 = cc.getD i 0
set_option maxHeartbeats 1000000 in
theorem same_any (a a' e e' : Option Addr) (n c c' m d d' : Nat) (KH KC ch cc : List Int) (w : World) (hn : n ≤ 9223372036854775807) (hm : m ≤ 9223372036854775807) (HN : Hid (KH.length = n)) (HM : Hid (KC.length = n)) (HN' : Hid (ch.length = m)) (HM' : Hid (cc.length = m)) (ha : Hid (RdI w a KH)) (ha' : Hid (RdU w a' KC)) (he : Hid (RdI w e ch)) (he' : Hid (RdU w e' cc)) :
    Calls Try.prog 29 #[.slice a n c, .slice a' n c', .slice e m d, .slice e' m d'] w (RIff w (SameCl KH KC ch cc)) := by
  by_cases hnm : n = m
  · subst hnm
    have q0 : ((n : Int) != (n : Int)) = false := by simp
    go_enter Try.func29, Try.ntmps29
    go_wp2
    go_loopw [9] (fun vi wz => ∃ i nz : Nat, i ≤ n ∧ vi = .int .i64 i ∧ wz = w.drewN nz ∧ Hid (∀ j, j < i → KH.getD j 0 = ch.getD j 0 ∧ KC.getD j 0 = cc.getD j 0)) (fun vi _ => n - (intOf vi).toNat)
    case atStart => exact ⟨0, 0, Nat.zero_le _, rfl, rfl, fun j hj => by omega⟩
    case round =>
      obtain ⟨i, nz, hi1, rfl, rfl, HI⟩ := hrel
      by_cases hi : i < n
      · obtain ⟨b, o, v, rfl, d1, V1⟩ := ha.out.atv HN.out hi
        obtain ⟨b', o', u, rfl, d2, V2⟩ := ha'.out.atv HM.out hi
        obtain ⟨b2, o2, x, rfl, d3, V3⟩ := he.out.atv HN'.out hi
        obtain ⟨b3, o3, y, rfl, d4, V4⟩ := he'.out.atv HM'.out hi
        have i1 : (i : Int) < (n : Int) := by omega
        by_cases hv : v = x
        · have q1 : (v != x) = false := by simpa using hv
          by_cases hu : u = y
          · have q2 : (u != y) = false := by simpa using hu
            have HI2 : Hid (∀ j, j < i + 1 → KH.getD j 0 = ch.getD j 0 ∧ KC.getD j 0 = cc.getD j 0) := fun j hj => by
              by_cases ee : j = i
              · subst ee; rw [V1.out, V2.out, V3.out, V4.out]; exact ⟨hv, hu⟩
              · exact HI.out j (by omega)
            clear hv hu
            go_wp2
            go_quiet (fail)
            go_wp2
            go_roundw
            case rel => exact ⟨i + 1, _, by omega, by go_num, rfl, HI2.out⟩
            case measure => simp [intOf]; omega
          · have q2 : (u != y) = true := by simpa using hu
            have HP : Hid (∀ n, RIff w (SameCl KH KC ch cc) (.returned (.bool false)) (w.drewN n)) := fun n => RIff.no (fun hs => hu (by have := (hs.2 i (by rw [HN.out]; exact hi)).2; rw [V2.out, V4.out] at this; exact this)) n
            clear hv hu
            go_wp2
            go_quiet (fail)
            go_wp2
            go_ret
            rw [drewN2]
            exact HP.out _
        · have q1 : (v != x) = true := by simpa using hv
          have HP : Hid (∀ n, RIff w (SameCl KH KC ch cc) (.returned (.bool false)) (w.drewN n)) := fun n => RIff.no (fun hs => hv (by have := (hs.2 i (by rw [HN.out]; exact hi)).1; rw [V1.out, V3.out] at this; exact this)) n
          clear hv
          go_wp2
          go_quiet (fail)
          go_wp2
          go_ret
          rw [drewN2]
          exact HP.out _
      · have HP : Hid (∀ n, RIff w (SameCl KH KC ch cc) (.returned (.bool true)) (w.drewN n)) := fun m => RIff.yes ⟨by rw [HN.out, HN'.out], fun j hj => HI.out j (by rw [HN.out] at hj; omega)⟩ m
        go_wp2
        go_ret
        exact HP.out _
  · have q0 : ((n : Int) != (m : Int)) = true := by simp; omega
    have HP : Hid (RIff w (SameCl KH KC ch cc) (.returned (.bool false)) (w.drewN 0)) := RIff.no (fun hs => hnm (by have := hs.1; rw [HN.out, HN'.out] at this; exact this)) 0
    go_enter Try.func29, Try.ntmps29
    go_wp2
    go_ret
    exact HP.out

set_option maxHeartbeats 2000000 in
theorem below_any (a a' e e' : Option Addr) (n c c' m d d' : Nat) (KH KC ch cc : List Int) (w : World) (hn : n ≤ 9223372036854775807) (hm : m ≤ 9223372036854775807) (HN : Hid (KH.length = n)) (HM : Hid (KC.length = n)) (HN' : Hid (ch.length = m)) (HM' : Hid (cc.length = m)) (hr : Hid (Rising ch)) (ha : Hid (RdI w a KH)) (ha' : Hid (RdU w a' KC)) (he : Hid (RdI w e ch)) (he' : Hid (RdU w e' cc)) :
    Calls Try.prog 28 #[.slice a n c, .slice a' n c', .slice e m d, .slice e' m d'] w (RIff w (AtBelow KH KC ch cc)) := by
  go_enter Try.func28, Try.ntmps28
  go_wp2
  go_loopw [9] (fun vi wz => ∃ i nz : Nat, i ≤ n ∧ vi = .int .i64 i ∧ wz = w.drewN nz ∧ Hid (∀ j, j < i → ∃ p, p < ch.length ∧ ch.getD p 0 = KH.getD j 0 ∧ KC.getD j 0 ≤ cc.getD p 0)) (fun vi _ => n - (intOf vi).toNat)
  case atStart => exact ⟨0, 0, Nat.zero_le _, rfl, rfl, fun j hj => by omega⟩
  case round =>
    obtain ⟨i, nz, hi1, rfl, rfl, HI⟩ := hrel
    by_cases hi : i < n
    · obtain ⟨b, o, v, rfl, d1, V1⟩ := ha.out.atv HN.out hi
      obtain ⟨b', o', u, rfl, d2, V2⟩ := ha'.out.atv HM.out hi
      have i1 : (i : Int) < (n : Int) := by omega
      go_wp2
      go_loopw [10, 11] (fun va vj wz => ∃ (j nz2 : Nat) (at_ : Int), j ≤ m ∧ -1 ≤ at_ ∧ at_ < (m : Int) ∧ va = .int .i64 at_ ∧ vj = .int .i64 j ∧ wz = w.drewN nz2 ∧ Hid ((at_ = -1 ∧ ∀ t, t < j → ¬ ch.getD t 0 = v) ∨ (∃ p : Nat, at_ = (p : Int) ∧ p < m ∧ ch.getD p 0 = v))) (fun _ vj _ => m - (intOf vj).toNat)
      case atStart => exact ⟨0, nz, -1, Nat.zero_le _, by omega, by omega, rfl, rfl, rfl, .inl ⟨rfl, fun t ht => by omega⟩⟩
      case round =>
        obtain ⟨j, nz2, at_, hj1, ha1, ha2, rfl, rfl, rfl, HJ⟩ := hrel
        by_cases hj : j < m
        · obtain ⟨b2, o2, x, rfl, d3, V3⟩ := he.out.atv HN'.out hj
          have i2 : (j : Int) < (m : Int) := by omega
          by_cases hx : x = v
          · have q1 : (x == v) = true := by simpa using hx
            have HJ2 : Hid (((j : Int) = -1 ∧ ∀ t, t < j + 1 → ¬ ch.getD t 0 = v) ∨ (∃ p : Nat, (j : Int) = (p : Int) ∧ p < m ∧ ch.getD p 0 = v)) := .inr ⟨j, rfl, hj, by rw [V3.out]; exact hx⟩
            clear hx
            go_wp2
            go_quiet (fail)
            go_wp2
            go_roundw
            case rel => exact ⟨j + 1, _, (j : Int), by omega, by omega, by omega, rfl, by go_num, rfl, HJ2.out⟩
            case measure => simp [intOf]; omega
          · have q1 : (x == v) = false := by simpa using hx
            have HJ2 : Hid ((at_ = -1 ∧ ∀ t, t < j + 1 → ¬ ch.getD t 0 = v) ∨ (∃ p : Nat, at_ = (p : Int) ∧ p < m ∧ ch.getD p 0 = v)) := by
              rcases HJ.out with ⟨h1, h2⟩ | h
              · refine .inl ⟨h1, fun t ht => ?_⟩
                by_cases ee : t = j
                · subst ee; rw [V3.out]; exact hx
                · exact h2 t (by omega)
              · exact .inr h
            clear hx
            go_wp2
            go_quiet (fail)
            go_wp2
            go_roundw
            case rel => exact ⟨j + 1, _, at_, by omega, by omega, by omega, rfl, by go_num, rfl, HJ2.out⟩
            case measure => simp [intOf]; omega
        · by_cases hat : at_ < 0
          · have q1 : decide (at_ < 0) = true := decide_eq_true hat
            have HP : Hid (∀ n, RIff w (AtBelow KH KC ch cc) (.returned (.bool false)) (w.drewN n)) := fun n => RIff.no (fun hb => by
              rcases HJ.out with ⟨h1, h2⟩ | ⟨p, h1, _⟩
              · obtain ⟨p, hp, hp2, _⟩ := hb i (by rw [HN.out]; exact hi)
                rw [HN'.out] at hp
                rw [V1.out] at hp2
                exact h2 p (by omega) hp2
              · omega) n
            go_wp2
            go_quiet (fail)
            go_wp2
            go_ret
            rw [drewN2]
            exact HP.out _
          · obtain ⟨p, rfl, hpm, hpv⟩ : ∃ p : Nat, at_ = (p : Int) ∧ p < m ∧ ch.getD p 0 = v := by
              rcases HJ.out with ⟨h1, _⟩ | h
              · omega
              · exact h
            have HPV : Hid (ch.getD p 0 = v) := hpv
            have q1 : decide ((p : Int) < 0) = false := decide_eq_false (by omega)
            obtain ⟨b4, o4, y, rfl, d4, V4⟩ := he'.out.atv HM'.out hpm
            have i3 : (p : Int) < (m : Int) := by omega
            clear hpv
            by_cases hgt : y < u
            · have q2 : decide (y < u) = true := decide_eq_true hgt
              have HP : Hid (∀ n, RIff w (AtBelow KH KC ch cc) (.returned (.bool false)) (w.drewN n)) := fun n => RIff.no (fun hb => by
                obtain ⟨p2, hp, hp2, hp3⟩ := hb i (by rw [HN.out]; exact hi)
                have : p2 = p := hr.out.inj hp (by rw [HN'.out]; exact hpm) (by rw [hp2, HPV.out, V1.out])
                subst this
                rw [V2.out, V4.out] at hp3
                omega) n
              clear hgt
              go_wp2
              go_quiet (fail)
              go_wp2
              go_ret
              rw [drewN2]
              exact HP.out _
            · have q2 : decide (y < u) = false := decide_eq_false hgt
              have HI2 : Hid (∀ j, j < i + 1 → ∃ p, p < ch.length ∧ ch.getD p 0 = KH.getD j 0 ∧ KC.getD j 0 ≤ cc.getD p 0) := fun t ht => by
                by_cases ee : t = i
                · subst ee; exact ⟨p, by rw [HN'.out]; exact hpm, by rw [HPV.out, V1.out], by rw [V2.out, V4.out]; omega⟩
                · exact HI.out t (by omega)
              clear hgt
              go_wp2
              go_quiet (fail)
              go_wp2
              go_roundw
              case rel => exact ⟨i + 1, _, by omega, by go_num, rfl, HI2.out⟩
              case measure => simp [intOf]; omega
    · have HP : Hid (∀ n, RIff w (AtBelow KH KC ch cc) (.returned (.bool true)) (w.drewN n)) := fun m => RIff.yes (fun j hj => HI.out j (by rw [HN.out] at hj; omega)) m
      go_wp2
      go_ret
      exact HP.out _

theorem rising_eq {KH ch : List Int} (h1 : Rising KH) (h2 : Rising ch) (a : ∀ i, i < KH.length → ∃ p, p < ch.length ∧ ch.getD p 0 = KH.getD i 0) (b : ∀ p, p < ch.length → ∃ i, i < KH.length ∧ KH.getD i 0 = ch.getD p 0) :
    KH.length = ch.length ∧ ∀ i, i < KH.length → KH.getD i 0 = ch.getD i 0 := by
  have key : ∀ n i, i ≤ n → i < KH.length → i < ch.length → KH.getD i 0 = ch.getD i 0 := by
    intro n
    induction n with
    | zero =>
      intro i hi l1 l2
      have : i = 0 := by omega
      subst this
      obtain ⟨p, hp, ep⟩ := a 0 l1
      obtain ⟨q, hq, eq⟩ := b 0 l2
      have x1 : ch.getD 0 0 ≤ ch.getD p 0 := by
        by_cases e : p = 0
        · rw [e]; exact Int.le_refl _
        · have := h2 0 p (by omega) hp; omega
      have x2 : KH.getD 0 0 ≤ KH.getD q 0 := by
        by_cases e : q = 0
        · rw [e]; exact Int.le_refl _
        · have := h1 0 q (by omega) hq; omega
      omega
    | succ n ih =>
      intro i hi l1 l2
      obtain ⟨p, hp, ep⟩ := a i l1
      obtain ⟨q, hq, eq⟩ := b i l2
      have x1 : ch.getD i 0 ≤ ch.getD p 0 := by
        by_cases e : p < i
        · have y := ih p (by omega) (by omega) hp
          have z := h1 p i e l1
          omega
        · by_cases e2 : p = i
          · rw [e2]; exact Int.le_refl _
          · have := h2 i p (by omega) hp; omega
      have x2 : KH.getD i 0 ≤ KH.getD q 0 := by
        by_cases e : q < i
        · have y := ih q (by omega) hq (by omega)
          have z := h2 q i e l2
          omega
        · by_cases e2 : q = i
          · rw [e2]; exact Int.le_refl _
          · have := h1 i q (by omega) hq; omega
      omega
  have hl : KH.length = ch.length := by
    by_cases c1 : KH.length < ch.length
    · obtain ⟨q, hq, eq⟩ := b KH.length c1
      have y := key q q (Nat.le_refl _) hq (by omega)
      have z := h2 q KH.length hq c1
      omega
    · by_cases c2 : ch.length < KH.length
      · obtain ⟨p, hp, ep⟩ := a ch.length c2
        have y := key p p (Nat.le_refl _) (by omega) hp
        have z := h1 p ch.length hp c2
        omega
      · omega
  exact ⟨hl, fun i hi => key i i (Nat.le_refl _) hi (by omega)⟩

theorem same_iff {KH KC ch cc : List Int} (h1 : Rising KH) (h2 : Rising ch) (hb : AtBelow KH KC ch cc) : (∀ p, p < ch.length → SameAt KH KC ch cc p) ↔ SameCl KH KC ch cc := by
  constructor
  · intro h
    obtain ⟨hl, he⟩ := rising_eq h1 h2 (fun i hi => by obtain ⟨p, a, b, _⟩ := hb i hi; exact ⟨p, a, b⟩) (fun p hp => by obtain ⟨i, a, b, _⟩ := h p hp; exact ⟨i, a, b⟩)
    refine ⟨hl, fun i hi => ⟨he i hi, ?_⟩⟩
    obtain ⟨j, hj, e1, e2⟩ := h i (by omega)
    have : j = i := h1.inj hj hi (by rw [e1, he i hi])
    subst this
    exact e2
  · rintro ⟨hl, he⟩ p hp
    exact ⟨p, by omega, (he p (by omega)).1, (he p (by omega)).2⟩

/-- what covered must be at place q -/
theorem law4_marks {KH KC ch cc us : List Int} {hd vb r : Bool} {cov cov' : List Bool} (F : Fits KH KC ch cc us hd vb cov r cov') {q : Nat} (hq : q < cov.length) {v v' : Bool} (hv : cov.getD q false = v) (hv' : cov'.getD q false = v') :
    v' = true ↔ v = true ∨ (r = true ∧ vb = true ∧ q < ch.length ∧ Gives KH KC (ch.getD q 0) (cc.getD q 0) ∧ ¬ ch.getD q 0 ∈ us) := by
  have := F.marks q hq
  rw [hv, hv'] at this
  exact this
theorem law4_yes {KH KC ch cc us : List Int} {hd vb r : Bool} {cov cov' : List Bool} (F : Fits KH KC ch cc us hd vb cov r cov') (h1 : Rising KH) (h2 : Rising ch) : r = true ↔ hd = false ∧ AtBelow KH KC ch cc ∧ ¬ SameCl KH KC ch cc := by
  cases hd with
  | true =>
    have := F.held rfl
    constructor
    · intro h; rw [this] at h; cases h
    · rintro ⟨h, _⟩; cases h
  | false =>
    rw [F.yes rfl]
    constructor
    · rintro ⟨a, b⟩; exact ⟨rfl, a, fun h => b ((same_iff h1 h2 a).2 h)⟩
    · rintro ⟨_, a, b⟩; exact ⟨a, fun h => b ((same_iff h1 h2 a).1 h)⟩
end Go.Proofs.Qxb6616313a
