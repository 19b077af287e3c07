/- THE FINDER. -/
import Derived.Test.Qxb6616313aClock
namespace Go.Proofs.Qxb6616313a
open Go.ChangeShapes Go.WideShapes Go.ChangeAt Go.RowKit
set_option linter.unusedVariables false

theorem cell_set_off (w : World) {p q : Addr} (v : Value) (h : p.off ≠ q.off) : (w.setCell q v).cell? p = w.cell? p :=
  World.cell?_setCell_other _ _ _ _ (fun e => h (by rw [e]))

/-- hosts in strictly rising order -/
def Rising (xs : List Int) : Prop := ∀ i j, i < j → j < xs.length → xs.getD i 0 < xs.getD j 0

def RFind (w : World) (f M lo : Nat) (ch : List Int) (host : Int) (e : Ending) (w' : World) : Prop :=
  ∃ p n : Nat, w' = (w.setCell ⟨f, 1, none⟩ (.int .i64 (p : Int))).drewN n ∧ lo ≤ p ∧ p ≤ M ∧ (∀ j, j < p → ch.getD j 0 < host) ∧ (∀ j, p ≤ j → j < M → host ≤ ch.getD j 0) ∧
    ((p < M ∧ ch.getD p 0 = host ∧ e = .returned (.int .i64 (p : Int))) ∨ ((M ≤ p ∨ ¬ ch.getD p 0 = host) ∧ e = .returned (.int .i64 (-1))))

set_option maxHeartbeats 2000000 in
theorem find_any (f : Nat) (a : Option Addr) (M cM lo : Nat) (ch cc : List Int) (host : Int) (w : World) (hM : M ≤ 1048576) (HM : Hid (ch.length = M)) (hlo : lo ≤ M)
    (c0 : w.cell? ⟨f, 0, none⟩ = some (.slice a M cM)) (c1 : w.cell? ⟨f, 1, none⟩ = some (.int .i64 (lo : Int))) (f1 : w.frozen? ⟨f, 1, none⟩ = false)
    (hr : Hid (RdE w a ch cc)) (hs : Hid (Rising ch)) (hb : Hid (∀ j, j < lo → ch.getD j 0 < host)) (hsep : Hid (∀ x, a = some x → x.block ≠ f)) :
    Calls Try.prog 47 #[.pointer (some ⟨f, 0, none⟩), .int .i64 host] w (RFind w f M lo ch host) := by
  go_enter Try.func47, Try.ntmps47
  go_wp2
  go_quiet (fail)
  go_wp2
  go_loopw [5, 6, 7] (fun l h s wr => ∃ L H S : Nat, lo ≤ L ∧ L ≤ M ∧ L ≤ H ∧ 1 ≤ S ∧ S ≤ H + 1 ∧ H ≤ 2097154 ∧ l = .int .i64 L ∧ h = .int .i64 H ∧ s = .int .i64 S ∧ wr = w.drewN nq ∧ Hid (∀ j, j < L → ch.getD j 0 < host)) (fun _ h _ _ => 4000000 - (intOf h).toNat)
  case atStart => exact ⟨lo, lo, 1, Nat.le_refl _, hlo, Nat.le_refl _, Nat.le_refl _, by omega, by omega, rfl, rfl, rfl, rfl, hb.out⟩
  case round =>
    obtain ⟨L, H, S, h1, h2, h3, h4, h5, h6, rfl, rfl, rfl, rfl, HB⟩ := hrel
    by_cases hHM : H < M
    · obtain ⟨b, off, v, u, rfl, d0, d1, HV, HU⟩ := hr.out.atv HM.out hHM
      have i1 : (H : Int) < (M : Int) := by omega
      by_cases hv : v < host
      · have HB2 : Hid (∀ j, j < H + 1 → ch.getD j 0 < host) := fun j hj => by
          by_cases hjH : j = H
          · subst hjH; rw [HV.out]; exact hv
          · have := hs.out j H (by omega) (by rw [HM.out]; exact hHM)
            rw [HV.out] at this; omega
        go_wp2
        go_roundw
        case rel => exact ⟨H + 1, H + S, 2 * S, by omega, by omega, by omega, by omega, by omega, by omega, by go_num, by go_num, by go_num, by trivial, HB2.out⟩
        case measure => simp [intOf]; omega
      · have HQ : Hid (∀ j, H ≤ j → j < M → host ≤ ch.getD j 0) := fun j h7 h8 => by
          by_cases hjH : j = H
          · subst hjH; rw [HV.out]; omega
          · have := hs.out H j (by omega) (by rw [HM.out]; exact h8)
            rw [HV.out] at this; omega
        go_wp2
        go_loopw [5, 6] (fun l h wr => ∃ L2 E2 : Nat, lo ≤ L2 ∧ L2 ≤ E2 ∧ E2 ≤ M ∧ l = .int .i64 L2 ∧ h = .int .i64 E2 ∧ wr = w.drewN nq ∧ Hid (∀ j, j < L2 → ch.getD j 0 < host) ∧ Hid (∀ j, E2 ≤ j → j < M → host ≤ ch.getD j 0)) (fun l h _ => (intOf h).toNat - (intOf l).toNat)
        case atStart => exact ⟨L, H, by omega, by omega, by omega, rfl, rfl, rfl, HB.out, HQ.out⟩
        case round =>
          obtain ⟨L2, E2, g1, g2, g3, rfl, rfl, rfl, HB2, HQ2⟩ := hrel
          by_cases hLE : L2 < E2
          · have hm1 : (L2 + E2) / 2 < M := by omega
            obtain ⟨b2, off2, x, y, ea, m0, m1, HX, HY⟩ := hr.out.atv (k := (L2 + E2) / 2) HM.out hm1
            obtain ⟨rfl, rfl⟩ : b = b2 ∧ off = off2 := by simpa using ea
            clear ea
            by_cases hx : x < host
            · have HB3 : Hid (∀ j, j < (L2 + E2) / 2 + 1 → ch.getD j 0 < host) := fun j hj => by
                by_cases hjm : j = (L2 + E2) / 2
                · rw [hjm, HX.out]; exact hx
                · have := hs.out j ((L2 + E2) / 2) (by omega) (by rw [HM.out]; exact hm1)
                  rw [HX.out] at this; omega
              go_wp2
              go_roundw
              case rel => exact ⟨(L2 + E2) / 2 + 1, E2, by omega, by omega, by omega, by go_num, rfl, by trivial, HB3.out, HQ2.out⟩
              case measure => simp [intOf]; omega
            · have HQ3 : Hid (∀ j, (L2 + E2) / 2 ≤ j → j < M → host ≤ ch.getD j 0) := fun j h7 h8 => by
                by_cases hjm : j = (L2 + E2) / 2
                · rw [hjm, HX.out]; omega
                · have := hs.out ((L2 + E2) / 2) j (by omega) (by rw [HM.out]; exact h8)
                  rw [HX.out] at this; omega
              go_wp2
              go_roundw
              case rel => exact ⟨L2, (L2 + E2) / 2, by omega, by omega, by omega, rfl, by go_num, by trivial, HB2.out, HQ3.out⟩
              case measure => simp [intOf]; omega
          · have hLL : L2 = E2 := by omega
            have HQ3 : Hid (∀ j, L2 ≤ j → j < M → host ≤ ch.getD j 0) := by
              rw [hLL]; exact HQ2
            clear hLL
            have k0 : ∀ v, ((w.drewN nq).setCell ⟨f, 1, none⟩ v).cell? ⟨f, 0, none⟩ = some (.slice (some ⟨b, off, none⟩) M cM) := fun v => by rw [cell_set_off _ _ (by simp)]; exact c0
            by_cases hLM : L2 < M
            · obtain ⟨b2, off2, x, y, ea, m0, m1, HX, HY⟩ := hr.out.atv (k := L2) HM.out hLM
              obtain ⟨rfl, rfl⟩ : b = b2 ∧ off = off2 := by simpa using ea
              clear ea
              have nb := hsep.out _ rfl
              have k1 : ∀ v, ((w.drewN nq).setCell ⟨f, 1, none⟩ v).cell? ⟨b, off + L2 * 2, none⟩ = some (.int .i64 x) := fun v => by rw [cell_set_ne _ _ nb]; exact m0
              have i2 : (L2 : Int) < (M : Int) := by omega
              clear nb
              by_cases hx : x = host
              · have hb3 : (x == host) = true := by simpa using hx
                have HP : Hid (RFind w f M lo ch host (.returned (.int .i64 (L2 : Int))) ((w.setCell ⟨f, 1, none⟩ (.int .i64 (L2 : Int))).drewN nq)) :=
                  ⟨L2, nq, rfl, g1, by omega, HB2.out, HQ3.out, .inl ⟨hLM, by rw [HX.out]; exact hx, rfl⟩⟩
                clear hx
                go_wp2
                go_ret
                exact HP.out
              · have hb3 : (x == host) = false := by simpa using hx
                have HP : Hid (RFind w f M lo ch host (.returned (.int .i64 (-1))) ((w.setCell ⟨f, 1, none⟩ (.int .i64 (L2 : Int))).drewN nq)) :=
                  ⟨L2, nq, rfl, g1, by omega, HB2.out, HQ3.out, .inr ⟨.inr (by rw [HX.out]; exact hx), rfl⟩⟩
                clear hx
                go_wp2
                go_ret
                exact HP.out
            · have HP : Hid (RFind w f M lo ch host (.returned (.int .i64 (-1))) ((w.setCell ⟨f, 1, none⟩ (.int .i64 (L2 : Int))).drewN nq)) :=
                ⟨L2, nq, rfl, g1, by omega, HB2.out, HQ3.out, .inr ⟨.inl (by omega), rfl⟩⟩
              have hg3 : decide ((L2 : Int) < (M : Int)) = false := decide_eq_false (by omega)
              have hg4 : decide (L2 < M) = false := decide_eq_false (by omega)
              go_wp2
              go_ret
              exact HP.out
    · have hg : decide ((H : Int) < (M : Int)) = false := decide_eq_false (by omega)
      have hg2 : decide (H < M) = false := decide_eq_false (by omega)
      by_cases hMH : M < H
      · have HQ : Hid (∀ j, M ≤ j → j < M → host ≤ ch.getD j 0) := fun j h7 h8 => by omega
        go_wp2
        go_loopw [5, 6] (fun l h wr => ∃ L2 E2 : Nat, lo ≤ L2 ∧ L2 ≤ E2 ∧ E2 ≤ M ∧ l = .int .i64 L2 ∧ h = .int .i64 E2 ∧ wr = w.drewN nq ∧ Hid (∀ j, j < L2 → ch.getD j 0 < host) ∧ Hid (∀ j, E2 ≤ j → j < M → host ≤ ch.getD j 0)) (fun l h _ => (intOf h).toNat - (intOf l).toNat)
        case atStart => exact ⟨L, M, by omega, by omega, by omega, rfl, rfl, rfl, HB.out, HQ.out⟩
        case round =>
          obtain ⟨L2, E2, g1, g2, g3, rfl, rfl, rfl, HB2, HQ2⟩ := hrel
          by_cases hLE : L2 < E2
          · have hm1 : (L2 + E2) / 2 < M := by omega
            obtain ⟨b2, off2, x, y, ea, m0, m1, HX, HY⟩ := hr.out.atv (k := (L2 + E2) / 2) HM.out hm1
            subst ea
            by_cases hx : x < host
            · have HB3 : Hid (∀ j, j < (L2 + E2) / 2 + 1 → ch.getD j 0 < host) := fun j hj => by
                by_cases hjm : j = (L2 + E2) / 2
                · rw [hjm, HX.out]; exact hx
                · have := hs.out j ((L2 + E2) / 2) (by omega) (by rw [HM.out]; exact hm1)
                  rw [HX.out] at this; omega
              go_wp2
              go_roundw
              case rel => exact ⟨(L2 + E2) / 2 + 1, E2, by omega, by omega, by omega, by go_num, rfl, by trivial, HB3.out, HQ2.out⟩
              case measure => simp [intOf]; omega
            · have HQ3 : Hid (∀ j, (L2 + E2) / 2 ≤ j → j < M → host ≤ ch.getD j 0) := fun j h7 h8 => by
                by_cases hjm : j = (L2 + E2) / 2
                · rw [hjm, HX.out]; omega
                · have := hs.out ((L2 + E2) / 2) j (by omega) (by rw [HM.out]; exact h8)
                  rw [HX.out] at this; omega
              go_wp2
              go_roundw
              case rel => exact ⟨L2, (L2 + E2) / 2, by omega, by omega, by omega, rfl, by go_num, by trivial, HB2.out, HQ3.out⟩
              case measure => simp [intOf]; omega
          · have hLL : L2 = E2 := by omega
            have HQ3 : Hid (∀ j, L2 ≤ j → j < M → host ≤ ch.getD j 0) := by
              rw [hLL]; exact HQ2
            clear hLL
            have k0 : ∀ v, ((w.drewN nq).setCell ⟨f, 1, none⟩ v).cell? ⟨f, 0, none⟩ = some (.slice a M cM) := fun v => by rw [cell_set_off _ _ (by simp)]; exact c0
            by_cases hLM : L2 < M
            · obtain ⟨b2, off2, x, y, ea, m0, m1, HX, HY⟩ := hr.out.atv (k := L2) HM.out hLM
              subst ea
              have nb := hsep.out _ rfl
              have k1 : ∀ v, ((w.drewN nq).setCell ⟨f, 1, none⟩ v).cell? ⟨b2, off2 + L2 * 2, none⟩ = some (.int .i64 x) := fun v => by rw [cell_set_ne _ _ nb]; exact m0
              have i2 : (L2 : Int) < (M : Int) := by omega
              clear nb
              by_cases hx : x = host
              · have hb3 : (x == host) = true := by simpa using hx
                have HP : Hid (RFind w f M lo ch host (.returned (.int .i64 (L2 : Int))) ((w.setCell ⟨f, 1, none⟩ (.int .i64 (L2 : Int))).drewN nq)) :=
                  ⟨L2, nq, rfl, g1, by omega, HB2.out, HQ3.out, .inl ⟨hLM, by rw [HX.out]; exact hx, rfl⟩⟩
                clear hx
                go_wp2
                go_ret
                exact HP.out
              · have hb3 : (x == host) = false := by simpa using hx
                have HP : Hid (RFind w f M lo ch host (.returned (.int .i64 (-1))) ((w.setCell ⟨f, 1, none⟩ (.int .i64 (L2 : Int))).drewN nq)) :=
                  ⟨L2, nq, rfl, g1, by omega, HB2.out, HQ3.out, .inr ⟨.inr (by rw [HX.out]; exact hx), rfl⟩⟩
                clear hx
                go_wp2
                go_ret
                exact HP.out
            · have HP : Hid (RFind w f M lo ch host (.returned (.int .i64 (-1))) ((w.setCell ⟨f, 1, none⟩ (.int .i64 (L2 : Int))).drewN nq)) :=
                ⟨L2, nq, rfl, g1, by omega, HB2.out, HQ3.out, .inr ⟨.inl (by omega), rfl⟩⟩
              have hg3 : decide ((L2 : Int) < (M : Int)) = false := decide_eq_false (by omega)
              have hg4 : decide (L2 < M) = false := decide_eq_false (by omega)
              go_wp2
              go_ret
              exact HP.out
      · have HQ : Hid (∀ j, H ≤ j → j < M → host ≤ ch.getD j 0) := fun j h7 h8 => by omega
        go_wp2
        go_loopw [5, 6] (fun l h wr => ∃ L2 E2 : Nat, lo ≤ L2 ∧ L2 ≤ E2 ∧ E2 ≤ M ∧ l = .int .i64 L2 ∧ h = .int .i64 E2 ∧ wr = w.drewN nq ∧ Hid (∀ j, j < L2 → ch.getD j 0 < host) ∧ Hid (∀ j, E2 ≤ j → j < M → host ≤ ch.getD j 0)) (fun l h _ => (intOf h).toNat - (intOf l).toNat)
        case atStart => exact ⟨L, H, by omega, by omega, by omega, rfl, rfl, rfl, HB.out, HQ.out⟩
        case round =>
          obtain ⟨L2, E2, g1, g2, g3, rfl, rfl, rfl, HB2, HQ2⟩ := hrel
          by_cases hLE : L2 < E2
          · have hm1 : (L2 + E2) / 2 < M := by omega
            obtain ⟨b2, off2, x, y, ea, m0, m1, HX, HY⟩ := hr.out.atv (k := (L2 + E2) / 2) HM.out hm1
            subst ea
            by_cases hx : x < host
            · have HB3 : Hid (∀ j, j < (L2 + E2) / 2 + 1 → ch.getD j 0 < host) := fun j hj => by
                by_cases hjm : j = (L2 + E2) / 2
                · rw [hjm, HX.out]; exact hx
                · have := hs.out j ((L2 + E2) / 2) (by omega) (by rw [HM.out]; exact hm1)
                  rw [HX.out] at this; omega
              go_wp2
              go_roundw
              case rel => exact ⟨(L2 + E2) / 2 + 1, E2, by omega, by omega, by omega, by go_num, rfl, by trivial, HB3.out, HQ2.out⟩
              case measure => simp [intOf]; omega
            · have HQ3 : Hid (∀ j, (L2 + E2) / 2 ≤ j → j < M → host ≤ ch.getD j 0) := fun j h7 h8 => by
                by_cases hjm : j = (L2 + E2) / 2
                · rw [hjm, HX.out]; omega
                · have := hs.out ((L2 + E2) / 2) j (by omega) (by rw [HM.out]; exact h8)
                  rw [HX.out] at this; omega
              go_wp2
              go_roundw
              case rel => exact ⟨L2, (L2 + E2) / 2, by omega, by omega, by omega, rfl, by go_num, by trivial, HB2.out, HQ3.out⟩
              case measure => simp [intOf]; omega
          · have hLL : L2 = E2 := by omega
            have HQ3 : Hid (∀ j, L2 ≤ j → j < M → host ≤ ch.getD j 0) := by
              rw [hLL]; exact HQ2
            clear hLL
            have k0 : ∀ v, ((w.drewN nq).setCell ⟨f, 1, none⟩ v).cell? ⟨f, 0, none⟩ = some (.slice a M cM) := fun v => by rw [cell_set_off _ _ (by simp)]; exact c0
            by_cases hLM : L2 < M
            · obtain ⟨b2, off2, x, y, ea, m0, m1, HX, HY⟩ := hr.out.atv (k := L2) HM.out hLM
              subst ea
              have nb := hsep.out _ rfl
              have k1 : ∀ v, ((w.drewN nq).setCell ⟨f, 1, none⟩ v).cell? ⟨b2, off2 + L2 * 2, none⟩ = some (.int .i64 x) := fun v => by rw [cell_set_ne _ _ nb]; exact m0
              have i2 : (L2 : Int) < (M : Int) := by omega
              clear nb
              by_cases hx : x = host
              · have hb3 : (x == host) = true := by simpa using hx
                have HP : Hid (RFind w f M lo ch host (.returned (.int .i64 (L2 : Int))) ((w.setCell ⟨f, 1, none⟩ (.int .i64 (L2 : Int))).drewN nq)) :=
                  ⟨L2, nq, rfl, g1, by omega, HB2.out, HQ3.out, .inl ⟨hLM, by rw [HX.out]; exact hx, rfl⟩⟩
                clear hx
                go_wp2
                go_ret
                exact HP.out
              · have hb3 : (x == host) = false := by simpa using hx
                have HP : Hid (RFind w f M lo ch host (.returned (.int .i64 (-1))) ((w.setCell ⟨f, 1, none⟩ (.int .i64 (L2 : Int))).drewN nq)) :=
                  ⟨L2, nq, rfl, g1, by omega, HB2.out, HQ3.out, .inr ⟨.inr (by rw [HX.out]; exact hx), rfl⟩⟩
                clear hx
                go_wp2
                go_ret
                exact HP.out
            · have HP : Hid (RFind w f M lo ch host (.returned (.int .i64 (-1))) ((w.setCell ⟨f, 1, none⟩ (.int .i64 (L2 : Int))).drewN nq)) :=
                ⟨L2, nq, rfl, g1, by omega, HB2.out, HQ3.out, .inr ⟨.inl (by omega), rfl⟩⟩
              have hg3 : decide ((L2 : Int) < (M : Int)) = false := decide_eq_false (by omega)
              have hg4 : decide (L2 < M) = false := decide_eq_false (by omega)
              go_wp2
              go_ret
              exact HP.out
end Go.Proofs.Qxb6616313a
