/- THE READING AS 'fits' MEETS IT; clock, vouched; WHAT 'fits' LEAVES OF THE WORLD. -/
import Derived.Test.Qxb6616313aFind
import Derived.Test.Qxb6616313aNew
import Derived.Maps.AppendAt
namespace Go.Proofs.Qxb6616313a
open Go.ChangeShapes Go.WideShapes Go.ChangeAt Go.RowKit
set_option linter.unusedVariables false

/-- the reading as 'fits' meets it -/
structure Ready (w : World) (l R E F U V n0 n1 n3 : Nat) (ends hs cs fs uh rs : List Int) (vs : List (Option Addr × Nat × Nat)) (base : Nat) : Prop where
  c4 : w.cell? ⟨l, 4, none⟩ = some (.slice (some ⟨R, 0, none⟩) n0 n0)
  c6 : w.cell? ⟨l, 6, none⟩ = some (.slice (some ⟨E, 0, none⟩) n1 n1)
  c8 : w.cell? ⟨l, 8, none⟩ = some (.slice (some ⟨F, 0, none⟩) n3 n3)
  c10 : w.cell? ⟨l, 10, none⟩ = some (.map (some U))
  c12 : w.cell? ⟨l, 12, none⟩ = some (.map (some V))
  f20 : w.frozen? ⟨l, 20, none⟩ = false
  rR : ∀ j, j < n0 → w.cell? ⟨R, j * 4 + 3, none⟩ = some (.int .i64 (ends.getD j 0))
  rE : RdE w (some ⟨E, 0, none⟩) hs cs
  rF : Rd8 w (some ⟨F, 0, none⟩) fs
  mU : ∃ nU fU, MapV w U nU fU ∧ ∀ x, fU x = if x ∈ uh then some uval else none
  mV : ∃ nV fV, MapV w V nV fV ∧ ∀ x, fV x = (lastTo rs x rs.length).map fun j => slv (vs.getD j (none, 0, 0))
  low : l < base ∧ R < base ∧ E < base ∧ F < base ∧ U < base ∧ V < base
  apart : l ≠ R ∧ l ≠ E ∧ l ≠ F ∧ l ≠ U ∧ l ≠ V

theorem RdE.cut {w : World} {a : Option Addr} {hs cs : List Int} (h : RdE w a hs cs) {c lo hi : Nat} (h1 : lo ≤ hi) (h2 : hi ≤ hs.length) (h3 : hs.length ≤ c) :
    RdE w (cutAt a c lo 2) (cutL hs lo hi) (cutL cs lo hi) := by
  have hl := h.1
  refine ⟨by rw [cutL_length _ _ _ h2, cutL_length _ _ _ (by omega)], ?_⟩
  by_cases he : lo = hi
  · subst he
    exact .inl (by simp [cutL])
  · rcases h.2 with h | ⟨b, off, rfl, hc⟩
    · subst h; simp at h2; omega
    · refine .inr ⟨b, off + lo * 2, ?_, fun j hj => ?_⟩
      · unfold cutAt
        rw [if_neg (by omega)]
        simp [Addr.add]
      · rw [cutL_length _ _ _ h2] at hj
        rw [cutL_getD _ _ _ _ _ hj, cutL_getD _ _ _ _ _ hj]
        have := hc (lo + j) (by omega)
        rw [show off + lo * 2 + j * 2 = off + (lo + j) * 2 by omega]
        exact this

theorem size64 : (Try.prog.info? 64).map (·.size) = some 2 := by kernel_rfl
def startOf (ends : List Int) (k : Nat) : Int := if k = 0 then 0 else ends.getD (k - 1) 0

set_option maxHeartbeats 1000000 in
theorem clockOf_any (w : World) (l R E F U V n0 n1 n3 : Nat) (ends hs cs fs uh rs : List Int) (vs : List (Option Addr × Nat × Nat)) (base : Nat) (H : Hid (Ready w l R E F U V n0 n1 n3 ends hs cs fs uh rs vs base)) (k S T : Nat) (hk : k < n0) (h0 : n0 ≤ 1048576) (h1 : n1 ≤ 1048576)
    (hS : Hid (startOf ends k = (S : Int))) (hT : Hid (ends.getD k 0 = (T : Int))) (hST : S ≤ T) (hTn : T ≤ n1) :
    Calls Try.prog 46 #[.pointer (some ⟨l, 0, none⟩), .int .i64 (k : Int)] w fun e w' => e = .returned (.slice (cutAt (some ⟨E, 0, none⟩) n1 S 2) (T - S) (n1 - S)) ∧ ∃ n, w' = w.drewN n := by
  have c4 := H.out.c4
  have c6 := H.out.c6
  have cT : w.cell? ⟨R, k * 4 + 3, none⟩ = some (.int .i64 (T : Int)) := by rw [H.out.rR k hk, hT.out]
  have i1 : (k : Int) < (n0 : Int) := by omega
  have hcut := run_cut (P := Try.prog) 51 64 2 Try.underlying51 size64 (some ⟨E, 0, none⟩) n1 n1 S T hST hTn
  cases k with
  | zero =>
    have hS0 : S = 0 := by have := hS.out; unfold startOf at this; simp at this; omega
    subst hS0
    have cT0 : w.cell? ⟨R, 3, none⟩ = some (.int .i64 (T : Int)) := by simpa using cT
    have hcut0 : ∀ w, (Instr.slice 51 (.slice (some ⟨E, 0, none⟩) n1 n1) (some (.int .i64 0)) (some (.int .i64 (T : Int))) none).run Try.prog w = .ok (.slice (cutAt (some ⟨E, 0, none⟩) n1 0 2) T n1) w := hcut
    clear hcut cT
    go_enter Try.func46, Try.ntmps46
    go_wp2
    go_quiet (fail)
    go_wp2
    go_ret
    exact ⟨rfl, _, rfl⟩
  | succ j =>
    have cS : w.cell? ⟨R, j * 4 + 3, none⟩ = some (.int .i64 (S : Int)) := by
      rw [H.out.rR j (by omega)]
      have := hS.out
      unfold startOf at this
      rw [if_neg (by omega)] at this
      simp only [Nat.add_sub_cancel] at this
      rw [this]
    go_enter Try.func46, Try.ntmps46
    go_wp2
    go_quiet (fail)
    go_wp2
    go_ret
    exact ⟨rfl, _, rfl⟩

theorem zero36 (w : World) : (zeroValue 36).run Try.prog w = .ok (.slice none 0 0) w := by kernel_rfl
theorem zero103 (w : World) : (zeroValue 103).run Try.prog w = .ok (.agg #[.string { data := #[] }, .int .u64 0]) w := by kernel_rfl

set_option maxHeartbeats 1000000 in
theorem vouchedOf_any (w : World) (l R E F U V n0 n1 n3 : Nat) (ends hs cs fs uh rs : List Int) (vs : List (Option Addr × Nat × Nat)) (base : Nat) (H : Hid (Ready w l R E F U V n0 n1 n3 ends hs cs fs uh rs vs base)) (k : Nat) (hk : k < n3) (h3 : n3 ≤ 1048576) (HF : Hid (fs.length = n3))
    (vb : Bool) (p : Option Addr) (q r : Nat) (hx : Hid (vouch fs rs vs k = (vb, (p, q, r)))) :
    Calls Try.prog 48 #[.pointer (some ⟨l, 0, none⟩), .int .i64 (k : Int)] w fun e w' => e = .returned (.tuple #[.slice p q r, .bool vb]) ∧ w' = w := by
  have c8 := H.out.c8
  have c12 := H.out.c12
  obtain ⟨b, off, u, eb, hc, HU⟩ := H.out.rF.atv HF.out hk
  obtain ⟨rfl, rfl⟩ : F = b ∧ 0 = off := by simpa using eb
  rw [Nat.zero_add] at hc
  have i1 : (k : Int) < (n3 : Int) := by omega
  have hx' := hx.out
  unfold vouch at hx'
  rw [HU.out] at hx'
  by_cases hu : u = 1
  · rw [if_pos hu] at hx'
    simp only [Prod.mk.injEq] at hx'
    obtain ⟨rfl, rfl, rfl, rfl⟩ := hx'
    have hb : (u == 1) = true := by simpa using hu
    clear hu eb
    go_enter Try.func48, Try.ntmps48
    go_wp2
    go_ret2
    exact ⟨rfl, rfl⟩
  · rw [if_neg hu] at hx'
    have hb : (u == 1) = false := by simpa using hu
    obtain ⟨nV, fV, hM, hfV⟩ := H.out.mV
    have hl := hM.look Try.underlying86 (zero36 w) (k := (k : Int)) (WalkArith.wf_i64 (by omega))
    rw [hfV] at hl
    unfold vouchTo at hx'
    cases hj : lastTo rs (k : Int) rs.length with
    | none =>
      rw [hj] at hx' hl
      simp only [Prod.mk.injEq] at hx'
      obtain ⟨rfl, rfl, rfl, rfl⟩ := hx'
      simp only [Option.map_none, Option.getD_none, Option.isSome_none] at hl
      clear hu eb hj hM hfV
      go_enter Try.func48, Try.ntmps48
      go_wp2
      go_ret2
      exact ⟨rfl, rfl⟩
    | some j =>
      rw [hj] at hx' hl
      simp only [Prod.mk.injEq] at hx'
      obtain ⟨rfl, hvj⟩ := hx'
      simp only [Option.map_some, Option.getD_some, Option.isSome_some] at hl
      rw [show slv (vs.getD j (none, 0, 0)) = .slice p q r from by rw [hvj]; rfl] at hl
      clear hu eb hj hM hfV hvj
      go_enter Try.func48, Try.ntmps48
      go_wp2
      go_ret2
      exact ⟨rfl, rfl⟩

/-! ### what 'fits' leaves of the world -/
structure Kp (base l cv : Nat) (w w' : World) : Prop where
  os : w'.os = w.os
  tape : w'.tape = w.tape
  output : w'.output = w.output
  size : w.heap.size ≤ w'.heap.size
  block : ∀ g, g < base → g ≠ l → g ≠ cv → w'.heap[g]? = w.heap[g]?
  cell : ∀ i, i ≠ 20 → w'.cell? ⟨l, i, none⟩ = w.cell? ⟨l, i, none⟩
  thaw : w.frozen? ⟨l, 20, none⟩ = false → w'.frozen? ⟨l, 20, none⟩ = false
theorem Kp.refl (base l cv : Nat) (w : World) : Kp base l cv w w := ⟨rfl, rfl, rfl, Nat.le_refl _, fun _ _ _ _ => rfl, fun _ _ => rfl, id⟩
theorem Kp.trans {base l cv : Nat} {a b c : World} (h : Kp base l cv a b) (k : Kp base l cv b c) : Kp base l cv a c :=
  ⟨k.os.trans h.os, k.tape.trans h.tape, k.output.trans h.output, Nat.le_trans h.size k.size, fun g h1 h2 h3 => (k.block g h1 h2 h3).trans (h.block g h1 h2 h3), fun i hi => (k.cell i hi).trans (h.cell i hi), fun hf => k.thaw (h.thaw hf)⟩
theorem Kp.drewN {base l cv : Nat} {a w : World} (h : Kp base l cv a w) (n : Nat) : Kp base l cv a (w.drewN n) := ⟨h.os, h.tape, h.output, h.size, h.block, h.cell, h.thaw⟩
theorem Kp.drew {base l cv : Nat} {a w : World} (h : Kp base l cv a w) : Kp base l cv a w.drew := ⟨h.os, h.tape, h.output, h.size, h.block, h.cell, h.thaw⟩
theorem Kp.grown {base l cv : Nat} {a w w' : World} (h : Kp base l cv a w) {row : Option Nat} (hg : w.grownBy w' row) (hb : base ≤ a.heap.size) (hl : l < base) (hr : ∀ g, row = some g → base ≤ g) : Kp base l cv a w' := by
  have hs := h.size
  have e : ∀ g, g < base → w'.heap[g]? = w.heap[g]? := fun g hg2 => hg.block g (by omega) (fun e => by have := hr g e.symm; omega)
  exact ⟨hg.os.trans h.os, hg.tape.trans h.tape, hg.output.trans h.output, Nat.le_trans h.size hg.size, fun g h1 h2 h3 => (e g h1).trans (h.block g h1 h2 h3), fun i hi => (World.cell?_of_block (w := w) (e l hl)).trans (h.cell i hi), fun hf => (World.frozen?_of_block (w := w) (e l hl)).trans (h.thaw hf)⟩
theorem Kp.alloc {base l cv : Nat} {a w : World} (h : Kp base l cv a w) (hb : base ≤ a.heap.size) (hl : l < base) (o : Obj) : Kp base l cv a (w.alloc o) :=
  h.grown (World.grownBy_alloc w o none) hb hl (fun g e => by cases e)
theorem grownBy_setCell (w : World) (p : Addr) (v : Value) : w.grownBy (w.setCell p v) (some p.block) :=
  ⟨rfl, rfl, rfl, by simp [World.setCell], fun k _ hne => Below.heap_setCell w p v k (fun e => hne (by rw [e]))⟩
theorem Kp.setNew {base l cv : Nat} {a w : World} (h : Kp base l cv a w) (hb : base ≤ a.heap.size) (hl : l < base) {p : Addr} (hp : base ≤ p.block) (v : Value) : Kp base l cv a (w.setCell p v) :=
  h.grown (grownBy_setCell w p v) hb hl (fun g e => by cases e; exact hp)
theorem Kp.setSame {base l cv : Nat} {a w : World} (h : Kp base l cv a w) (v : Value) : Kp base l cv a (w.setCell ⟨l, 20, none⟩ v) :=
  ⟨h.os, h.tape, h.output, by have := h.size; simpa [World.setCell] using this, fun g h1 h2 h3 => (Below.heap_setCell w _ v g h2).trans (h.block g h1 h2 h3), fun i hi => (cell_set_off w v (by simpa using hi)).trans (h.cell i hi), fun hf => (World.frozen?_setCell _ _ _ _).trans (h.thaw hf)⟩
theorem Kp.setCov {base l cv : Nat} {a w : World} (h : Kp base l cv a w) (hne : cv ≠ l) (i : Nat) (v : Value) : Kp base l cv a (w.setCell ⟨cv, i, none⟩ v) :=
  ⟨h.os, h.tape, h.output, by have := h.size; simpa [World.setCell] using this, fun g h1 h2 h3 => (Below.heap_setCell w _ v g h3).trans (h.block g h1 h2 h3), fun j hj => (cell_set_ne w v (Ne.symm hne)).trans (h.cell j hj), fun hf => (World.frozen?_setCell _ _ _ _).trans (h.thaw hf)⟩

theorem Ready.kept {w w' : World} {l R E F U V n0 n1 n3 : Nat} {ends hs cs fs uh rs : List Int} {vs : List (Option Addr × Nat × Nat)} {base cv : Nat} (h : Ready w l R E F U V n0 n1 n3 ends hs cs fs uh rs vs base) (k : Kp base l cv w w') (hc : R ≠ cv ∧ E ≠ cv ∧ F ≠ cv ∧ U ≠ cv ∧ V ≠ cv) :
    Ready w' l R E F U V n0 n1 n3 ends hs cs fs uh rs vs base := by
  obtain ⟨q1, q2, q3, q4, q5, q6⟩ := h.low
  obtain ⟨p1, p2, p3, p4, p5⟩ := h.apart
  have eb : ∀ g i, g < base → g ≠ l → g ≠ cv → w'.cell? ⟨g, i, none⟩ = w.cell? ⟨g, i, none⟩ := fun g i h1 h2 h3 => World.cell?_of_block (w := w) (k.block g h1 h2 h3)
  refine ⟨(k.cell 4 (by omega)).trans h.c4, (k.cell 6 (by omega)).trans h.c6, (k.cell 8 (by omega)).trans h.c8, (k.cell 10 (by omega)).trans h.c10, (k.cell 12 (by omega)).trans h.c12, k.thaw h.f20,
    fun j hj => (eb R _ q2 (Ne.symm p1) hc.1).trans (h.rR j hj), ⟨h.rE.1, ?_⟩, ?_, ?_, ?_, h.low, h.apart⟩
  · rcases h.rE.2 with e | ⟨b, off, e, hcl⟩
    · exact .inl e
    · obtain ⟨rfl, rfl⟩ : E = b ∧ 0 = off := by simpa using e
      exact .inr ⟨E, 0, rfl, fun j hj => ⟨(eb E _ q3 (Ne.symm p2) hc.2.1).trans (hcl j hj).1, (eb E _ q3 (Ne.symm p2) hc.2.1).trans (hcl j hj).2⟩⟩
  · rcases h.rF with e | ⟨b, off, e, hcl⟩
    · exact .inl e
    · obtain ⟨rfl, rfl⟩ : F = b ∧ 0 = off := by simpa using e
      exact .inr ⟨F, 0, rfl, fun j hj => (eb F _ q4 (Ne.symm p3) hc.2.2.1).trans (hcl j hj)⟩
  · obtain ⟨nU, fU, hM, hf⟩ := h.mU
    exact ⟨nU, fU, hM.kept (k.block U q5 (Ne.symm p4) hc.2.2.2.1), hf⟩
  · obtain ⟨nV, fV, hM, hf⟩ := h.mV
    exact ⟨nV, fV, hM.kept (k.block V q6 (Ne.symm p5) hc.2.2.2.2), hf⟩

/-- an address out of the way of what 'fits' writes -/
def Far (base l cv : Nat) (a : Option Addr) : Prop := ∀ x, a = some x → x.block < base ∧ x.block ≠ l ∧ x.block ≠ cv
theorem RdE.far {w w' : World} {base l cv : Nat} {a : Option Addr} {hs cs : List Int} (h : RdE w a hs cs) (k : Kp base l cv w w') (hf : Far base l cv a) : RdE w' a hs cs := by
  refine ⟨h.1, ?_⟩
  rcases h.2 with e | ⟨b, off, e, hc⟩
  · exact .inl e
  · obtain ⟨h1, h2, h3⟩ := hf _ e
    have eb : ∀ i, w'.cell? ⟨b, i, none⟩ = w.cell? ⟨b, i, none⟩ := fun i => World.cell?_of_block (w := w) (k.block b h1 h2 h3)
    exact .inr ⟨b, off, e, fun j hj => ⟨(eb _).trans (hc j hj).1, (eb _).trans (hc j hj).2⟩⟩
theorem RdG.far {α : Type} {f : α → Value} {d : α} {w w' : World} {base l cv : Nat} {a : Option Addr} {xs : List α} (h : RdG f d w a xs) (k : Kp base l cv w w') (hf : Far base l cv a) : RdG f d w' a xs := by
  rcases h with e | ⟨b, off, e, hc⟩
  · exact .inl e
  · obtain ⟨h1, h2, h3⟩ := hf _ e
    exact .inr ⟨b, off, e, fun j hj => (World.cell?_of_block (w := w) (k.block b h1 h2 h3)).trans (hc j hj)⟩
end Go.Proofs.Qxb6616313a
