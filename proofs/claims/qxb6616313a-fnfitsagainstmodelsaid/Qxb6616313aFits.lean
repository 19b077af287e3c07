/- THE WALK OF 'fits'. -/
import Derived.Test.Qxb6616313aReady
import Derived.Test.Qxb6616313aMark
import Derived.Test.Qxb6616313aLists
import Derived.Outline
namespace Go.Proofs.Qxb6616313a
open Go.ChangeShapes Go.WideShapes Go.ChangeAt Go.RowKit
set_option linter.unusedVariables false

/-- the row of covered -/
def CovRow (w : World) (ac : Option Addr) (cv : Nat) (cov : List Bool) : Prop :=
  cov = [] ∨ (ac = some ⟨cv, 0, none⟩ ∧ w.heap[cv]? = some (.cells (cov.map Value.bool).toArray 4 (0, 0)))
theorem CovRow.kept {w w' : World} {ac : Option Addr} {cv : Nat} {cov : List Bool} (h : CovRow w ac cv cov) (e : w'.heap[cv]? = w.heap[cv]?) : CovRow w' ac cv cov := by
  rcases h with h | ⟨h1, h2⟩
  · exact .inl h
  · exact .inr ⟨h1, e.trans h2⟩

/-- where 'same' lies: a row of the call's own -/
def SameRow (w : World) (base l : Nat) (sn : Nat) (sx : List Value) (sa : Option Addr) (cS : Nat) : Prop := w.cell? ⟨l, 20, none⟩ = some (.slice sa sn cS) ∧ w.ownsRow base 3 1 (.slice sa sn cS) sn sx
def HasSame (w : World) (base l : Nat) : Prop := ∃ sn sx sa cS, SameRow w base l sn sx sa cS

def RFits (w : World) (base l cv : Nat) (ac : Option Addr) (KH KC ch cc us : List Int) (held vb : Bool) (cov : List Bool) (e : Ending) (w' : World) : Prop :=
  ∃ r cov', e = .returned (.bool r) ∧ Fits KH KC ch cc us held vb cov r cov' ∧ Kp base l cv w w' ∧ CovRow w' ac cv cov' ∧ HasSame w' base l
theorem RFits.mk {w : World} {base l cv : Nat} {ac : Option Addr} {KH KC ch cc us : List Int} {held vb : Bool} {cov cov' : List Bool} {r : Bool} {w' : World}
    (h : Fits KH KC ch cc us held vb cov r cov') (hK : Kp base l cv w w') (hc : CovRow w' ac cv cov') (hs : HasSame w' base l) : RFits w base l cv ac KH KC ch cc us held vb cov (.returned (.bool r)) w' := ⟨r, cov', rfl, h, hK, hc, hs⟩

theorem Kp.weaken {base l cv : Nat} {w w' : World} (h : Kp base l l w w') : Kp base l cv w w' := ⟨h.os, h.tape, h.output, h.size, fun g a b _ => h.block g a b b, h.cell, h.thaw⟩

theorem run_cut0 {P : Program} (t e : TypeId) (size : Nat) (ht : P.underlying t = some (.slice e)) (hs : (P.info? e).map (·.size) = some size) (a : Option Addr) (n c : Nat) (w : World) :
    (Instr.slice t (.slice a n c) none (some (.int .i64 0)) none).run P w = .ok (.slice a 0 c) w := by
  obtain ⟨i, hi', hz⟩ := Option.map_eq_some_iff.1 hs
  simp [Instr.slice, run_underlying ht, Instr.sliceBounds, sizeOf, typeInfo, hi', run_sliceBound]
  cases a <;> simp [Addr.add]
theorem run_cut1 {P : Program} (t e : TypeId) (size : Nat) (ht : P.underlying t = some (.slice e)) (hs : (P.info? e).map (·.size) = some size) (a : Option Addr) (n c : Nat) (h1 : 1 ≤ n) (h2 : n ≤ c) (w : World) :
    (Instr.slice t (.slice a n c) (some (.int .i64 1)) none none).run P w = .ok (.slice (cutAt a c 1 size) (n - 1) (c - 1)) w := by
  obtain ⟨i, hi', hz⟩ := Option.map_eq_some_iff.1 hs
  have hb : ∀ w, (Instr.sliceBound (.int .i64 1) n .sliceB).run P w = .ok 1 w := fun w => by
    have := run_sliceBound (P := P) w .i64 1 n .sliceB (by omega) (by omega)
    simpa using this
  unfold cutAt
  simp [Instr.slice, run_underlying ht, Instr.sliceBounds, sizeOf, typeInfo, hi', hz, hb]

theorem SameRow.zero {w : World} {base l sn cS : Nat} {sx : List Value} {sa : Option Addr} (h : SameRow w base l sn sx sa cS) : w.ownsRow base 3 1 (.slice sa 0 cS) 0 [] := by
  obtain ⟨_, h1, h2⟩ := h
  refine ⟨rfl, ?_⟩
  rcases h2 with ⟨e, rfl⟩ | ⟨g, cap, cur, e, hb, hg, hn, hc, hs, ht⟩
  · exact .inl ⟨by cases e; rfl, rfl⟩
  · cases e
    exact .inr ⟨g, _, cur, rfl, hb, hg, Nat.zero_le _, hc, hs, by simp⟩
theorem ownsRow_lt {w : World} {base n c g : Nat} {sx : List Value} {sa : Option Addr} (h : w.ownsRow base 3 1 (.slice sa n c) n sx) (e : (Value.slice sa n c).ownBlock = some g) : base ≤ g ∧ g < w.heap.size := by
  rcases h.2 with ⟨e', _⟩ | ⟨g', cap, cur, e', hb, hg, _⟩
  · cases e'; cases e
  · cases e'
    have : g' = g := by simpa [Value.ownBlock] using e
    subst this
    exact ⟨hb, heap_lt hg⟩
theorem ownsRow_kept {w w' : World} {base n c : Nat} {sx : List Value} {sa : Option Addr} (h : w.ownsRow base 3 1 (.slice sa n c) n sx) (he : ∀ g, (Value.slice sa n c).ownBlock = some g → w'.heap[g]? = w.heap[g]?) : w'.ownsRow base 3 1 (.slice sa n c) n sx := by
  refine ⟨h.1, ?_⟩
  rcases h.2 with h2 | ⟨g', cap, cur, e', hb, hg, r⟩
  · exact .inl h2
  · refine .inr ⟨g', cap, cur, e', hb, ?_, r⟩
    rw [he g' (by cases e'; rfl)]; exact hg

set_option maxRecDepth 100000 in
set_option maxHeartbeats 4000000 in
theorem fits_held (w : World) (l R E F U V n0 n1 n3 : Nat) (ends hs cs fs uh rs : List Int) (vs : List (Option Addr × Nat × Nat)) (base : Nat) (H : Hid (Ready w l R E F U V n0 n1 n3 ends hs cs fs uh rs vs base)) (hbase : base ≤ w.heap.size)
    (k : Nat) (hk0 : k ≤ 1048576) (a ac : Option Addr) (M cM NC cC cv : Nat) (KH KC ch cc us : List Int) (vb : Bool) (cov : List Bool) (hcov : Hid (CovRow w ac cv cov)) (hsame : Hid (HasSame w base l))
    (hu : Hid ((k : Int) ∈ uh)) (hcl : Hid (cv < base ∧ cv ≠ l)) :
    Calls Try.prog 43 #[.pointer (some ⟨l, 0, none⟩), .int .i64 (k : Int), .slice a M cM, .slice ac NC cC] w (RFits w base l cv ac KH KC ch cc us true vb cov) := by
  obtain ⟨nU, fU, hM, hfU⟩ := H.out.mU
  have hl := hM.look Try.underlying84 (zero103 w) (k := (k : Int)) (WalkArith.wf_i64 (by omega))
  rw [hfU, if_pos hu.out] at hl
  simp only [Option.getD_some, Option.isSome_some] at hl
  unfold uval at hl
  have c10 := H.out.c10
  have hlow := H.out.low.1
  clear hM hfU
  go_enter Try.func43, Try.ntmps43
  go_wp2
  go_ret
  refine RFits.mk (Fits.no_held _ _ _ _ _ _ _) ((Kp.refl _ _ _ _).alloc hbase hlow _) (hcov.out.kept (heap_alloc_old _ _ (by have := hcl.out.1; omega))) ?_
  obtain ⟨sn, sx, sa, cS, c20, hown⟩ := hsame.out
  exact ⟨sn, sx, sa, cS, by rw [World.cell?_alloc_lt _ _ _ (by exact block_lt c20)]; exact c20, hown.alloc _⟩

theorem cell_new (w : World) (A : Array Value) (t : TypeId) (i : Nat) : (w.alloc (.cells A t)).cell? ⟨w.heap.size, i, none⟩ = A[i]? := by simp only [World.cell?]; rw [heap_alloc_new]; simp
theorem thaw_new (w : World) (A : Array Value) (t : TypeId) (i : Nat) : (w.alloc (.cells A t)).frozen? ⟨w.heap.size, i, none⟩ = false := by simp only [World.frozen?]; rw [heap_alloc_new]; simp
theorem cell_old {w : World} {p : Addr} {v : Value} (h : w.cell? p = some v) (o : Obj) : (w.alloc o).cell? p = some v := by rw [World.cell?_alloc_lt _ _ _ (block_lt h)]; exact h
theorem thaw_old {w : World} {p : Addr} (h : w.frozen? p = false) (hp : p.block < w.heap.size) (o : Obj) : (w.alloc o).frozen? p = false := (World.frozen?_of_block (w := w) (heap_alloc_old w o hp)).trans h
theorem ownsRow_slice {w : World} {base n : Nat} {v : Value} {sx : List Value} (h : w.ownsRow base 3 1 v n sx) : ∃ sa c, v = .slice sa n c := by
  rcases h.2 with ⟨e, rfl⟩ | ⟨g', cap, cur, e', _⟩
  · exact ⟨none, 0, e⟩
  · exact ⟨_, _, e'⟩
theorem app_after {w w1 w2 : World} {base l m c : Nat} {sa : Option Addr} {xs : List Value} {o : Obj} (hg : (w1.alloc o).grownBy w2 (Value.slice sa m c).ownBlock) (hown : w1.ownsRow base 3 1 (.slice sa m c) m xs) (hl : l < base) (hb : base ≤ w.heap.size) (K : Kp base l l w w1) :
    Kp base l l w w2 ∧ ∀ g, g < w1.heap.size → ¬ (Value.slice sa m c).ownBlock = some g → w2.heap[g]? = w1.heap[g]? :=
  ⟨(K.alloc hb hl o).grown hg hb hl (fun g e => (ownsRow_lt hown e).1), fun g h1 h2 => by
    rw [hg.block g (by simp; omega) (fun e => h2 e.symm), heap_alloc_old _ _ h1]⟩
theorem RdG.ofBlock {α : Type} {f : α → Value} {d : α} {w w' : World} {a : Option Addr} {xs : List α} (h : RdG f d w a xs) (hb : ∀ x, a = some x → w'.heap[x.block]? = w.heap[x.block]?) : RdG f d w' a xs := by
  rcases h with e | ⟨b, off, e, hc⟩
  · exact .inl e
  · exact .inr ⟨b, off, e, fun j hj => (World.cell?_of_block (w := w) (show w'.heap[b]? = w.heap[b]? from hb _ e)).trans (hc j hj)⟩
theorem RdE.ofBlock {w w' : World} {a : Option Addr} {hs cs : List Int} (h : RdE w a hs cs) (hb : ∀ x, a = some x → w'.heap[x.block]? = w.heap[x.block]?) : RdE w' a hs cs := by
  refine ⟨h.1, ?_⟩
  rcases h.2 with e | ⟨b, off, e, hc⟩
  · exact .inl e
  · exact .inr ⟨b, off, e, fun j hj => ⟨(World.cell?_of_block (w := w) (show w'.heap[b]? = w.heap[b]? from hb _ e)).trans (hc j hj).1, (World.cell?_of_block (w := w) (show w'.heap[b]? = w.heap[b]? from hb _ e)).trans (hc j hj).2⟩⟩
theorem ownsRow_rd {w : World} {base m c : Nat} {sa : Option Addr} {sm : List Nat} (h : w.ownsRow base 3 1 (.slice sa m c) m (sm.map fun p : Nat => Value.int .i64 (p : Int))) (hm : sm.length = m) :
    RdG (fun p : Nat => Value.int .i64 (p : Int)) 0 w sa sm ∧ ∀ x, sa = some x → base ≤ x.block := by
  rcases h.2 with ⟨e, h0⟩ | ⟨g, cap, cur, e, hb, hg, _⟩
  · cases e
    refine ⟨.inl (List.eq_nil_of_length_eq_zero (hm.trans h0)), fun x hx => by cases hx⟩
  · cases e
    refine ⟨.inr ⟨g, 0, rfl, fun j hj => ?_⟩, fun x hx => by cases hx; exact hb⟩
    have := h.cells (g := g) rfl j (Value.int .i64 ((sm.getD j 0 : Nat) : Int)) (by simp [List.getD_eq_getElem?_getD, hj])
    rw [show (⟨g, 0, none⟩ : Addr).add j = ⟨g, j, none⟩ by cases j <;> simp [Addr.add]] at this
    rw [Nat.zero_add]
    exact this
theorem RdG.head {f : Int → Value} {w : World} {a : Option Addr} {us : List Int} {d n : Nat} (h : RdG f 0 w a (us.drop d)) (hl : n + d = us.length) (hn : 0 < n) : ∃ b off x, a = some ⟨b, off, none⟩ ∧ w.cell? ⟨b, off, none⟩ = some (f x) ∧ Hid (us.getD d 0 = x) := by
  rcases h with e | ⟨b, off, e, hc⟩
  · have : (us.drop d).length = 0 := by rw [e]; rfl
    simp at this; omega
  · have := hc 0 (by simp; omega)
    refine ⟨b, off, us.getD d 0, e, ?_, rfl⟩
    have e2 : (us.drop d).getD 0 0 = us.getD d 0 := by simp [List.getD_eq_getElem?_getD, List.getElem?_drop]
    rw [e2] at this
    simpa using this
theorem RdG.tail {f : Int → Value} {w : World} {a : Option Addr} {us : List Int} {d n c : Nat} (h : RdG f 0 w a (us.drop d)) (hl : n + d = us.length) (hn : 0 < n) (hc : n ≤ c) : RdG f 0 w (cutAt a c 1 1) (us.drop (d + 1)) := by
  have := h.cut (c := c) (lo := 1) (hi := n) (by omega) (by simp; omega) (by simp; omega)
  have e : cutL (us.drop d) 1 n = us.drop (d + 1) := by
    unfold cutL
    rw [List.drop_drop, List.take_of_length_le (by simp; omega)]
  rw [e] at this
  exact this
theorem Far.cut {base l cv : Nat} {a : Option Addr} (h : Far base l cv a) (c lo size : Nat) : Far base l cv (cutAt a c lo size) := by
  intro x hx
  unfold cutAt at hx
  by_cases e : c = lo
  · rw [if_pos e] at hx; exact h x hx
  · rw [if_neg e] at hx
    cases a with
    | none => cases hx
    | some y =>
      have := h y rfl
      simp at hx
      subst hx
      unfold Addr.add
      split
      · exact this
      · exact this
def lenV : Value → Nat
  | .slice _ n _ => n
  | _ => 0

set_option maxRecDepth 100000 in
set_option maxHeartbeats 4000000 in
theorem fits_go (w : World) (l R E F U V n0 n1 n3 : Nat) (ends hs cs fs uh rs : List Int) (vs : List (Option Addr × Nat × Nat)) (base : Nat) (H : Hid (Ready w l R E F U V n0 n1 n3 ends hs cs fs uh rs vs base)) (hbase : base ≤ w.heap.size)
    (k S T : Nat) (hk0 : k < n0) (hk3 : k < n3) (h0 : n0 ≤ 1048576) (h1 : n1 ≤ 1048576) (h3 : n3 ≤ 1048576) (HF : Hid (fs.length = n3)) (HH : Hid (hs.length = n1))
    (hS : Hid (startOf ends k = (S : Int))) (hT : Hid (ends.getD k 0 = (T : Int))) (hST : S ≤ T) (hTn : T ≤ n1)
    (a ac : Option Addr) (M cM NC cC cv : Nat) (ch cc us : List Int) (vb : Bool) (cov : List Bool) (hM : M ≤ 1048576) (hNC : NC ≤ 1048576) (hMN : M ≤ NC) (EM : Hid (ch.length = M)) (ENC : Hid (cov.length = NC))
    (hcov : Hid (CovRow w ac cv cov)) (hsame : Hid (HasSame w base l))
    (hu : Hid (¬ (k : Int) ∈ uh)) (hcl : Hid (cv < base ∧ cv ≠ l ∧ R ≠ cv ∧ E ≠ cv ∧ F ≠ cv ∧ U ≠ cv ∧ V ≠ cv))
    (hra : Hid (RdE w a ch cc)) (hfa : Hid (Far base l cv a)) (hrc : Hid (Rising ch)) (KH KC : List Int) (EKH : Hid (cutL hs S T = KH)) (EKC : Hid (cutL cs S T = KC)) (hrk : Hid (Rising KH))
    (p0 : Option Addr) (q0 rr0 : Nat) (hx : Hid (vouch fs rs vs k = (vb, (p0, q0, rr0)))) (EU : Hid (us.length = q0)) (hq0 : q0 ≤ 1048576) (hqr : q0 ≤ rr0) (hru : Hid (RdI w p0 us)) (hfu : Hid (Far base l cv p0)) (hnd : Hid (vb = true → ndB us = true)) :
    Calls Try.prog 43 #[.pointer (some ⟨l, 0, none⟩), .int .i64 (k : Int), .slice a M cM, .slice ac NC cC] w (RFits w base l cv ac KH KC ch cc us false vb cov) := by
  obtain ⟨nU, fU, hMU, hfU⟩ := H.out.mU
  have hl := hMU.look Try.underlying84 (zero103 w) (k := (k : Int)) (WalkArith.wf_i64 (by omega))
  rw [hfU, if_neg hu.out] at hl
  simp only [Option.getD_none, Option.isSome_none] at hl
  obtain ⟨sn, sx, sa, cS, hsr⟩ := hsame.out
  have hz := hsr.zero
  have c20 := hsr.1
  have c10 := H.out.c10
  have hlow := H.out.low.1
  have f20 := H.out.f20
  have hcut0 := run_cut0 (P := Try.prog) 36 3 1 Try.underlying36 size3 sa sn cS
  have hlw : l < w.heap.size := by omega
  obtain ⟨i0, hi0, hz00, hz01, hz02⟩ := info_parts info3
  clear hMU hfU
  go_enter Try.func43, Try.ntmps43
  go_wp2_with fail
  -- the world at the call of clock
  obtain ⟨W1, hW1⟩ : ∃ W1, W1 = ((w.setCell ⟨l, 20, none⟩ (.slice sa 0 cS)).alloc (.cells #[.string { data := #[] }, .int .u64 0] 103)).alloc (.cells #[.slice a M cM, .int .i64 0] 117) := ⟨_, rfl⟩
  obtain ⟨f, hf⟩ : ∃ f, f = w.heap.size + 1 := ⟨_, rfl⟩
  have KW : Hid (Kp base l l w W1) := by
    rw [hW1]; exact (((Kp.refl _ _ _ _).setSame _).alloc hbase hlow _).alloc hbase hlow _
  have hfz : f = ((w.setCell ⟨l, 20, none⟩ (.slice sa 0 cS)).alloc (.cells #[.string { data := #[] }, .int .u64 0] 103)).heap.size := by rw [hf]; simp [World.setCell]
  have g0 : W1.cell? ⟨f, 0, none⟩ = some (.slice a M cM) := by rw [hW1, hfz, cell_new]; rfl
  have g1 : W1.cell? ⟨f, 1, none⟩ = some (.int .i64 0) := by rw [hW1, hfz, cell_new]; rfl
  have gf : W1.frozen? ⟨f, 1, none⟩ = false := by rw [hW1, hfz, thaw_new]
  have g20 : W1.cell? ⟨l, 20, none⟩ = some (.slice sa 0 cS) := by
    rw [hW1]
    exact cell_old (cell_old (World.cell?_setCell_same _ _ _ c20) _) _
  have hz1 : Hid (W1.ownsRow base 3 1 (.slice sa 0 cS) 0 []) := by
    refine ownsRow_kept hz (fun g hg => ?_)
    obtain ⟨q1, q2⟩ := ownsRow_lt hz hg
    rw [hW1, heap_alloc_old _ _ (by simp [World.setCell]; omega), heap_alloc_old _ _ (by simp [World.setCell]; omega)]
    exact Below.heap_setCell w _ _ g (by show g ≠ l; omega)
  have hnf : Hid (¬ (Value.slice sa 0 cS).ownBlock = some f) := fun e => by have := (ownsRow_lt hz e).2; omega
  have hfb : base ≤ f := by omega
  rw [← hW1, ← hf]
  have HW : Hid (Ready W1 l R E F U V n0 n1 n3 ends hs cs fs uh rs vs base) := H.out.kept KW.out (by have := H.out.apart; omega)
  have hEnt0 : Hid (∀ wr, Kp base l l w wr → RdE wr (cutAt (some ⟨E, 0, none⟩) n1 S 2) (cutL hs S T) (cutL cs S T)) := fun wr hk => (H.out.kept hk (by have := H.out.apart; omega)).rE.cut hST (by rw [HH.out]; exact hTn) (by rw [HH.out]; omega)
  have EN0 : Hid ((cutL hs S T).length = T - S) := cutL_length _ _ _ (by rw [HH.out]; exact hTn)
  have hsz : W1.heap.size = w.heap.size + 2 := by rw [hW1]; simp [World.setCell]
  clear hW1 hfz c20 c10 f20 hz hcut0 hl
  refine (clockOf_any W1 l R E F U V n0 n1 n3 ends hs cs fs uh rs vs base HW k S T hk0 h0 h1 hS hT hST hTn).mono ?_
  rintro e w1 ⟨rfl, nd, rfl⟩
  generalize cutAt (some ⟨E, 0, none⟩) n1 S 2 = A at hEnt0 ⊢
  rw [EKH.out] at EN0
  rw [EKH.out, EKC.out] at hEnt0
  obtain ⟨n, hn⟩ : ∃ n, n = T - S := ⟨_, rfl⟩
  have hn1 : n ≤ 1048576 := by omega
  rw [← hn]
  rw [← hn] at EN0
  clear HW hf hn hsz hsr
  go_wp2
  go_loopw [43] (fun v wr => ∃ (i lo m : Nat) (sm : List Nat) (sa : Option Addr) (cS : Nat), i ≤ n ∧ lo ≤ M ∧ m ≤ M ∧ v = .int .i64 i ∧ Hid (Kp base l l w wr) ∧ wr.cell? ⟨f, 0, none⟩ = some (.slice a M cM) ∧ wr.cell? ⟨f, 1, none⟩ = some (.int .i64 (lo : Int)) ∧ wr.frozen? ⟨f, 1, none⟩ = false ∧
    wr.cell? ⟨l, 20, none⟩ = some (.slice sa m cS) ∧ Hid (wr.ownsRow base 3 1 (.slice sa m cS) m (sm.map fun p : Nat => Value.int .i64 (p : Int))) ∧ Hid (¬ (Value.slice sa m cS).ownBlock = some f) ∧ Hid (sm.length = m) ∧ Hid (L1 KH KC ch cc M n i lo sm)) (fun v _ => n - (intOf v).toNat)
  case atStart => exact ⟨0, 0, 0, [], sa, cS, Nat.zero_le _, Nat.zero_le _, Nat.zero_le _, rfl, KW.out.drewN nd, g0, g1, gf, g20, hz1.out, hnf.out, rfl, L1.start _ _ _ _ _ _⟩
  case round =>
    obtain ⟨i, lo, m, sm, sa2, cS2, hi1, hlo, hmM, rfl, KR, r0, r1, rf, r20, RO, RN, RL, HI⟩ := hrel
    clear g0 g1 gf g20 hz1 hnf KW
    by_cases hi : i < n
    · obtain ⟨b, off, v, u, rfl, d0, d1, HV, HU⟩ := (hEnt0.out _ KR.out).atv EN0.out hi
      have i1 : (i : Int) < (n : Int) := by omega
      have hfr : f < wr.heap.size := block_lt r0
      go_wp2_with fail
      refine (find_any f a M cM lo ch cc v _ hM EM hlo (cell_old r0 _) (cell_old r1 _) (thaw_old rf hfr _) (hra.out.far ((KR.out.alloc hbase hlow _).weaken) hfa.out) hrc.out (fun j hj => by have := HI.out.lo2 j hj i (Nat.le_refl _) hi; rw [HV.out] at this; exact this) (fun x hx => by have := (hfa.out x hx).1; omega)).mono ?_
      rintro e w1 ⟨p, nd2, hw1, hlp, hpM, HB, HQ, hcase⟩
      obtain ⟨ge, hge⟩ : ∃ ge, ge = wr.heap.size := ⟨_, rfl⟩
      have KQ : Hid (Kp base l l w w1) := by rw [hw1]; exact ((KR.out.alloc hbase hlow _).setNew hbase hlow (by exact hfb) _).drewN _
      have s0 : w1.cell? ⟨f, 0, none⟩ = some (.slice a M cM) := by rw [hw1]; show World.cell? (World.setCell _ _ _) _ = _; rw [cell_set_off _ _ (by simp)]; exact cell_old r0 _
      have s1 : w1.cell? ⟨f, 1, none⟩ = some (.int .i64 (p : Int)) := by rw [hw1]; exact World.cell?_setCell_same _ _ _ (cell_old r1 _)
      have sf : w1.frozen? ⟨f, 1, none⟩ = false := by rw [hw1]; exact (World.frozen?_setCell _ _ _ _).trans (thaw_old rf hfr _)
      have s20 : w1.cell? ⟨l, 20, none⟩ = some (.slice sa2 m cS2) := by rw [hw1]; show World.cell? (World.setCell _ _ _) _ = _; rw [cell_set_ne _ _ (by show l ≠ f; omega)]; exact cell_old r20 _
      have e0 : w1.cell? ⟨ge, 0, none⟩ = some (.int .i64 v) := by rw [hw1, hge]; show World.cell? (World.setCell _ _ _) _ = _; rw [cell_set_ne _ _ (by show wr.heap.size ≠ f; omega), cell_new]; rfl
      have e1 : w1.cell? ⟨ge, 1, none⟩ = some (.int .u64 u) := by rw [hw1, hge]; show World.cell? (World.setCell _ _ _) _ = _; rw [cell_set_ne _ _ (by show wr.heap.size ≠ f; omega), cell_new]; rfl
      have SO : Hid (w1.ownsRow base 3 1 (.slice sa2 m cS2) m (sm.map fun p : Nat => Value.int .i64 (p : Int))) := by
        refine ownsRow_kept RO.out (fun g hg => ?_)
        have q2 := (ownsRow_lt RO.out hg).2
        have q3 : g ≠ f := fun e => RN.out (by rw [hg, e])
        rw [hw1]
        show (World.setCell _ _ _).heap[g]? = _
        rw [Below.heap_setCell _ _ _ g (by exact q3), heap_alloc_old _ _ q2]
      have f20 : w1.frozen? ⟨l, 20, none⟩ = false := KQ.out.thaw H.out.f20
      have hz1 : base ≤ w1.heap.size := Nat.le_trans hbase KQ.out.size
      have hfq : f < w1.heap.size := block_lt s0
      have hlq : l < w1.heap.size := by omega
      have cvK : Hid (CovRow w1 ac cv cov) := hcov.out.kept (KQ.out.block cv hcl.out.1 hcl.out.2.1 hcl.out.2.1)
      have NO : Hid (¬ AtBelow KH KC ch cc → ∀ n, RFits w base l cv ac KH KC ch cc us false vb cov (.returned (.bool false)) (w1.drewN n)) := fun hb n => RFits.mk (Fits.no_below _ _ _ hb) (KQ.out.weaken.drewN n) cvK.out ⟨m, _, sa2, cS2, s20, SO.out⟩
      rw [← hge]
      clear hw1 hge r0 r1 rf r20 RO hfr KR
      rcases hcase with ⟨hp, hpv, rfl⟩ | ⟨hno, rfl⟩
      · obtain ⟨b2, off2, x, y, rfl, m0, m1, HX, HY⟩ := (hra.out.far KQ.out.weaken hfa.out).atv EM.out hp
        have i2 : (p : Int) < (M : Int) := by omega
        have hneg : decide ((p : Int) < 0) = false := decide_eq_false (by omega)
        by_cases hgt : y < u
        · have hd : decide (y < u) = true := decide_eq_true hgt
          have HP := NO.out (L1.over EM.out EN0.out hrc.out hi hp (by rw [HV.out]; exact hpv) (by rw [HY.out, HU.out]; exact hgt))
          clear hgt
          go_wp2
          go_quiet (fail)
          go_wp2
          go_ret
          exact HP _
        · have hd : decide (y < u) = false := decide_eq_false hgt
          go_wp2
          go_quiet (fail)
          go_wp2
          by_cases heq : u = y
          · have hb : (u == y) = true := by simpa using heq
            have HI2 : Hid (L1 KH KC ch cc M n (i + 1) p (sm ++ [p])) := HI.out.hit EM.out EN0.out hrc.out hrk.out hi hp (by rw [HV.out]; exact HB) (by rw [HV.out]; exact hpv) (by rw [HU.out, HY.out]; exact heq)
            have hmlen : Hid ((sm ++ [p]).length = m + 1) := by show _ = _; simp [RL.out]
            have hm2 : m + 1 ≤ M := by have := HI2.out.len_le; rw [hmlen.out] at this; exact this
            clear heq hgt
            go_quiet (fail)
            go_wp2_with (first
              | (at_builtin
                 refine wpList_append_own_at _ rfl _ _ 36 rfl base 3 i0 (.int .i64 0) 1 8 Try.underlying36 hi0 hz00 hz01 hz02 rfl (by decide) _ _ _ rfl (SO.out.alloc _) ⟨w1.heap.size, 0, none⟩ 1 1 [.int .i64 (p : Int)] rfl rfl (cell_one_new _ _ _) (ints_oneCell .i64 [(p : Int)]) (by unfold maxLen; omega) (by omega) (by simp; omega) ?_
                 intro v' w2 hown' hgrow hnil hloc
                 obtain ⟨sa3, cS3, rfl⟩ := ownsRow_slice hown'
                 have HAF := app_after hgrow SO.out hlow hbase (KQ.out.drewN _)
                 have KG : Hid (Kp base l l w w2) := HAF.1
                 have nl : ¬ (Value.slice sa2 m cS2).ownBlock = some l := (fun e => by have := (ownsRow_lt SO.out e).1; omega)
                 have t20 : w2.cell? ⟨l, 20, none⟩ = some (.slice sa2 m cS2) := (World.cell?_of_block (w := w1) (HAF.2 l hlq nl)).trans s20
                 have tf20 : w2.frozen? ⟨l, 20, none⟩ = false := (World.frozen?_of_block (w := w1) (HAF.2 l hlq nl)).trans f20
                 have t0 : w2.cell? ⟨f, 0, none⟩ = some (.slice (some ⟨b2, off2, none⟩) M cM) := (World.cell?_of_block (w := w1) (HAF.2 f hfq RN.out)).trans s0
                 have t1 : w2.cell? ⟨f, 1, none⟩ = some (.int .i64 (p : Int)) := (World.cell?_of_block (w := w1) (HAF.2 f hfq RN.out)).trans s1
                 have tf : w2.frozen? ⟨f, 1, none⟩ = false := (World.frozen?_of_block (w := w1) (HAF.2 f hfq RN.out)).trans sf
                 have HOW : Hid (w2.ownsRow base 3 1 (.slice sa3 (m + 1) cS3) (m + 1) ((sm ++ [p]).map fun p : Nat => Value.int .i64 (p : Int))) := (by rw [List.map_append]; exact hown')
                 have HNF : Hid (¬ (Value.slice sa3 (m + 1) cS3).ownBlock = some f) := (fun e => by
                   rcases hloc with h | h
                   · exact RN.out (h.symm.trans e)
                   · have := h.symm.trans e; simp at this; omega)
                 clear HAF hown' hgrow hnil hloc))
            go_roundw
            case rel =>
              have hfl : f ≠ l := by omega
              refine ⟨i + 1, p, m + 1, sm ++ [p], sa3, cS3, by omega, by omega, hm2, by go_num, KG.out.setSame _, ?_, ?_, ?_, ?_, ?_, HNF.out, hmlen.out, HI2.out⟩
              · rw [cell_set_ne _ _ hfl]; exact t0
              · rw [cell_set_ne _ _ hfl]; exact t1
              · exact (World.frozen?_setCell _ _ _ _).trans tf
              · exact World.cell?_setCell_same _ _ _ t20
              · exact ownsRow_kept HOW.out (fun g hg => Below.heap_setCell _ _ _ g (by have := (ownsRow_lt HOW.out hg).1; show g ≠ l; omega))
            case measure => simp [intOf]; omega
          · have hb : (u == y) = false := by simpa using heq
            have HI2 : Hid (L1 KH KC ch cc M n (i + 1) p sm) := HI.out.pass EM.out EN0.out hrc.out hrk.out hi hp (by rw [HV.out]; exact HB) (by rw [HV.out]; exact hpv) (by rw [HU.out, HY.out]; omega)
            clear heq hgt
            go_quiet (fail)
            go_wp2
            go_roundw
            case rel => exact ⟨i + 1, p, m, sm, sa2, cS2, by omega, by omega, hmM, by go_num, KQ.out.drewN _, s0, s1, sf, s20, SO.out, RN.out, RL.out, HI2.out⟩
            case measure => simp [intOf]; omega
      · have HP := NO.out (L1.lost EM.out EN0.out hrc.out hi (p := p) (by rw [HV.out]; exact HB) (by rw [HV.out]; exact HQ) (by rw [HV.out]; exact hno))
        clear hno HB HQ
        go_wp2
        go_quiet (fail)
        go_wp2
        go_ret
        exact HP _
    · have hin : i = n := by omega
      have HIn : Hid (L1 KH KC ch cc M n n lo sm) := by
        have := HI.out
        rw [hin] at this
        exact this
      have KC2 : Hid (CovRow wr ac cv cov) := hcov.out.kept (KR.out.block cv hcl.out.1 hcl.out.2.1 hcl.out.2.1)
      have HSm : Hid (HasSame wr base l) := ⟨m, _, sa2, cS2, r20, RO.out⟩
      clear hin HI
      by_cases hfull : m = M
      · have hb : (m == M) = true := by simpa using hfull
        have hb2 : ((m : Int) == (M : Int)) = true := by simp [hfull]
        have HP : Hid (RFits w base l cv ac KH KC ch cc us false vb cov (.returned (.bool false)) wr) := RFits.mk (Fits.no_full _ _ _ ((HIn.out.full_iff EM.out EN0.out).1 (by rw [RL.out]; exact hfull))) KR.out.weaken KC2.out HSm.out
        go_wp2
        go_ret
        exact HP.out
      · have hb : (m == M) = false := by simpa using hfull
        have hb2 : ((m : Int) == (M : Int)) = false := by simp; omega
        have HR2 : Hid (Ready wr l R E F U V n0 n1 n3 ends hs cs fs uh rs vs base) := H.out.kept KR.out (by have := H.out.apart; omega)
        have hnf : Hid (¬ sm.length = M) := by rw [RL.out]; exact hfull
        go_wp2_with fail
        refine (vouchedOf_any wr l R E F U V n0 n1 n3 ends hs cs fs uh rs vs base HR2 k hk3 h3 HF vb p0 q0 rr0 hx).mono ?_
        rintro e w1 ⟨rfl, hw1⟩
        rw [hw1]
        clear hw1 w1
        cases vb with
        | false =>
          have HP : Hid (RFits w base l cv ac KH KC ch cc us false false cov (.returned (.bool true)) wr) := RFits.mk (Fits.yes_plain _ _ (HIn.out.atBelow EM.out EN0.out) (fun hall => hnf.out ((HIn.out.full_iff EM.out EN0.out).2 hall))) KR.out.weaken KC2.out HSm.out
          go_wp2
          go_ret
          exact HP.out
        | true =>
          have hmono : Hid (∀ i j, i ≤ j → j < us.length → us.getD i 0 ≤ us.getD j 0) := ndB_mono (hnd.out rfl)
          obtain ⟨RSM0, RSB0⟩ := ownsRow_rd RO.out RL.out
          have RSM : Hid (RdG (fun p : Nat => Value.int .i64 (p : Int)) 0 wr sa2 sm) := RSM0
          have RSB : Hid (∀ x, sa2 = some x → base ≤ x.block) := RSB0
          have RU : Hid (RdI wr p0 us) := hru.out.far KR.out.weaken hfu.out
          have RC : Hid (RdE wr a ch cc) := hra.out.far KR.out.weaken hfa.out
          have hsmb : Hid (∀ p ∈ sm, p < ch.length) := fun p hp => by have := ((HIn.out.mem p).1 hp).1; rw [EM.out]; exact this
          clear RSM0 RSB0 hx HR2
          obtain ⟨wp, rfl⟩ : ∃ wp : World, wp = wr := ⟨_, rfl⟩
          go_wp2
          go_loopw [101, 15] (fun vj vu wq => ∃ (j d : Nat) (pu : Option Addr) (nu cu : Nat) (cov' : List Bool), j ≤ m ∧ vj = .int .i64 j ∧ vu = .slice pu nu cu ∧ nu ≤ cu ∧ nu ≤ 1048576 ∧ Hid (nu + d = us.length) ∧ Hid (RdI wp pu (us.drop d)) ∧ Hid (Far base l cv pu) ∧ Hid (Kp base l cv w wq) ∧ Hid (∀ g, g ≠ cv → wq.heap[g]? = wp.heap[g]?) ∧ Hid (CovRow wq ac cv cov') ∧ Hid (L2 ch us sm cov cov' j d)) (fun vj _ _ => m - (intOf vj).toNat)
          case atStart => exact ⟨0, 0, p0, q0, rr0, cov, Nat.zero_le _, rfl, rfl, hqr, hq0, (by show _ = _; rw [EU.out]; rfl), RU.out, hfu.out, KR.out.weaken, (fun _ _ => rfl), KC2.out, L2.start _ _ _ _⟩
          case round =>
            obtain ⟨j, d, pu, nu, cu, cov', hj1, rfl, rfl, hnu, hnu2, HNU, RPU, FPU, KQ, SQ, CQ, HL2⟩ := hrel
            obtain ⟨wq, rfl⟩ : ∃ wq : World, wq = wr := ⟨_, rfl⟩
            by_cases hj : j < m
            · have RSQ := RSM.out.ofBlock (w' := wq) (fun x hx => SQ.out _ (by have := RSB.out x hx; have := hcl.out.1; omega))
              obtain ⟨b, off, at_, rfl, hc0, HAT⟩ := RSQ.atv RL.out hj
              have hc : wq.cell? ⟨b, off + j, none⟩ = some (.int .i64 (at_ : Int)) := hc0
              have hatM : at_ < M := by
                have h5 := hsmb.out _ (getD_mem (d := 0) (show j < sm.length by rw [RL.out]; exact hj))
                rw [HAT.out, EM.out] at h5; exact h5
              obtain ⟨b2, off2, x, y, rfl, m0, m1, HX, HY⟩ := (RC.out.ofBlock (w' := wq) (fun x hx => SQ.out _ (hfa.out x hx).2.2)).atv EM.out hatM
              have i1 : (j : Int) < (m : Int) := by omega
              have i2 : (at_ : Int) < (M : Int) := by omega
              have i3 : (at_ : Int) < (NC : Int) := by omega
              clear hc0 RSQ
              have hatN : at_ < NC := by omega
              have hatC : Hid (at_ < cov.length) := by show at_ < _; rw [ENC.out]; exact hatN
              have hjs : Hid (j < sm.length) := by show j < _; rw [RL.out]; exact hj
              -- the row of covered at this place
              obtain ⟨eac, hrow⟩ : ac = some ⟨cv, 0, none⟩ ∧ wq.heap[cv]? = some (.cells (cov'.map Value.bool).toArray 4 (0, 0)) := by
                rcases CQ.out with h | h
                · have h6 := HL2.out.len
                  rw [h] at h6
                  have := hatC.out
                  simp at h6; omega
                · exact h
              subst eac
              have hcl2 : Hid (at_ < (cov'.map Value.bool).length) := by show at_ < _; rw [List.length_map, HL2.out.len]; exact hatC.out
              obtain ⟨v0, k0⟩ : ∃ v0, wq.cell? ⟨cv, at_, none⟩ = some v0 := ⟨_, row_cell hrow hcl2.out⟩
              have kf0 := row_thawed (k := at_) hrow
              have HS : Hid (CovRow (wq.setCell ⟨cv, at_, none⟩ (.bool true)) (some ⟨cv, 0, none⟩) cv (cov'.set at_ true)) := .inr ⟨rfl, by rw [set_row hrow, List.map_set]⟩
              have KS : Hid (Kp base l cv w (wq.setCell ⟨cv, at_, none⟩ (.bool true))) := KQ.out.setCov hcl.out.2.1 _ _
              have SS : Hid (∀ g, g ≠ cv → (wq.setCell ⟨cv, at_, none⟩ (.bool true)).heap[g]? = wp.heap[g]?) := fun g hg => (Below.heap_setCell wq _ _ g hg).trans (SQ.out g hg)
              have HP0 : Hid (∀ t, t < d → us.getD t 0 < ch.getD at_ 0) := fun t ht => by
                have := HL2.out.past t ht j (Nat.le_refl _) hjs.out
                rw [HAT.out] at this; exact this
              clear hrow hcl2
              go_wp2
              go_loopw [15] (fun vu wz => ∃ (d2 : Nat) (pu2 : Option Addr) (nu2 cu2 nz : Nat), vu = .slice pu2 nu2 cu2 ∧ nu2 ≤ cu2 ∧ nu2 ≤ 1048576 ∧ wz = wq.drewN nz ∧ Hid (nu2 + d2 = us.length) ∧ Hid (RdI wp pu2 (us.drop d2)) ∧ Hid (Far base l cv pu2) ∧ Hid (∀ t, t < d2 → us.getD t 0 < ch.getD at_ 0)) (fun vu _ => lenV vu)
              case atStart => exact ⟨d, pu, nu, cu, 0, rfl, hnu, hnu2, rfl, HNU.out, RPU.out, FPU.out, HP0.out⟩
              case round =>
                obtain ⟨d2, pu2, nu2, cu2, nz, rfl, g1, g2, rfl, HN2, RP2, FP2, HP2⟩ := hrel
                by_cases hn : 0 < nu2
                · obtain ⟨b3, off3, z, rfl, z0, HZ⟩ := (RP2.out.ofBlock (w' := wq) (fun x hx => SQ.out _ (FP2.out x hx).2.2)).head HN2.out hn
                  have i4 : (0 : Int) < (nu2 : Int) := by omega
                  have q1 : decide ((0 : Int) < (nu2 : Int)) = true := decide_eq_true i4
                  have q2 : decide (0 < nu2) = true := decide_eq_true hn
                  have q3 : ((nu2 : Int) == 0) = false := by simp; omega
                  have q4 : (nu2 == 0) = false := by simp; omega
                  have hd2 : Hid (d2 < us.length) := by have := HN2.out; show d2 < _; omega
                  by_cases hzx : z < x
                  · have q5 : decide (z < x) = true := decide_eq_true hzx
                    have hcut1 := run_cut1 (P := Try.prog) 36 3 1 Try.underlying36 size3 (some ⟨b3, off3, none⟩) nu2 cu2 hn g1
                    have RT := RP2.out.tail HN2.out hn g1
                    have HP3 : Hid (∀ t, t < d2 + 1 → us.getD t 0 < ch.getD at_ 0) := fun t ht => by
                      by_cases e : t = d2
                      · rw [e, HZ.out, HX.out]; exact hzx
                      · exact HP2.out t (by omega)
                    have FT := FP2.out.cut cu2 1 1
                    have hlen3 : Hid (nu2 - 1 + (d2 + 1) = us.length) := by have := HN2.out; show _ = _; omega
                    clear hzx
                    have RT' : Hid (RdI wp (cutAt (some ⟨b3, off3, none⟩) cu2 1 1) (us.drop (d2 + 1))) := RT
                    have FT' : Hid (Far base l cv (cutAt (some ⟨b3, off3, none⟩) cu2 1 1)) := FT
                    clear RT FT
                    go_wp2
                    go_quiet (fail)
                    go_wp2
                    go_roundw
                    case rel => exact ⟨d2 + 1, _, nu2 - 1, cu2 - 1, _, rfl, by omega, by omega, rfl, hlen3.out, RT'.out, FT'.out, HP3.out⟩
                    case measure => simp [lenV]; omega
                  · have q5 : decide (z < x) = false := decide_eq_false hzx
                    by_cases hze : z = x
                    · have q6 : (z == x) = true := by simpa using hze
                      have q7 : (z != x) = false := by simpa using hze
                      have HL3 : Hid (L2 ch us sm cov cov' (j + 1) d2) := HL2.out.skip HIn.out.inc hsmb.out hrc.out hjs.out HAT.out HP2.out hd2.out (by rw [HZ.out, HX.out]; exact hze)
                      clear hze hzx
                      go_wp2
                      go_quiet (fail)
                      go_wp2
                      go_quiet (fail)
                      go_wp2
                      go_roundw
                      case rel => exact ⟨j + 1, d2, some ⟨b3, off3, none⟩, nu2, cu2, cov', by omega, by go_num, rfl, g1, g2, HN2.out, RP2.out, FP2.out, KQ.out.drewN _, SQ.out, CQ.out, HL3.out⟩
                      case measure => simp [intOf]; omega
                    · have q6 : (z == x) = false := by simpa using hze
                      have q7 : (z != x) = true := by simpa using hze
                      have HL3 : Hid (L2 ch us sm cov (cov'.set at_ true) (j + 1) d2) := HL2.out.mark HIn.out.inc hsmb.out hrc.out hjs.out HAT.out hatC.out HP2.out hmono.out (.inr (by rw [HZ.out, HX.out]; omega))
                      clear hze hzx
                      go_wp2
                      go_quiet (fail)
                      go_wp2
                      go_quiet (fail)
                      go_wp2
                      go_roundw
                      case rel => exact ⟨j + 1, d2, some ⟨b3, off3, none⟩, nu2, cu2, cov'.set at_ true, by omega, by go_num, rfl, g1, g2, HN2.out, RP2.out, FP2.out, KS.out.drewN _, SS.out, HS.out, HL3.out⟩
                      case measure => simp [intOf]; omega
                · obtain rfl : nu2 = 0 := by omega
                  have HL3 : Hid (L2 ch us sm cov (cov'.set at_ true) (j + 1) d2) := HL2.out.mark HIn.out.inc hsmb.out hrc.out hjs.out HAT.out hatC.out HP2.out hmono.out (.inl (by have := HN2.out; omega))
                  go_wp2
                  go_quiet (fail)
                  go_wp2
                  go_quiet (fail)
                  go_wp2
                  go_roundw
                  case rel => exact ⟨j + 1, d2, pu2, 0, cu2, cov'.set at_ true, by omega, by go_num, rfl, g1, g2, HN2.out, RP2.out, FP2.out, KS.out.drewN _, SS.out, HS.out, HL3.out⟩
                  case measure => simp [intOf]; omega
            · have hjm : sm.length = j := by rw [RL.out]; omega
              have HP : Hid (RFits w base l cv ac KH KC ch cc us false true cov (.returned (.bool true)) wq) := by
                refine RFits.mk (HL2.out.done hjm HIn.out EM.out EN0.out hnf.out) KQ.out CQ.out ?_
                have nlc : l ≠ cv := Ne.symm hcl.out.2.1
                refine ⟨m, _, sa2, cS2, (World.cell?_of_block (w := wp) (SQ.out l nlc)).trans r20, ownsRow_kept RO.out (fun g hg => SQ.out g ?_)⟩
                have := (ownsRow_lt RO.out hg).1
                have := hcl.out.1
                omega
              clear hjm
              go_wp2
              go_ret
              exact HP.out

theorem fits_any (w : World) (l R E F U V n0 n1 n3 : Nat) (ends hs cs fs uh rs : List Int) (vs : List (Option Addr × Nat × Nat)) (base : Nat) (H : Hid (Ready w l R E F U V n0 n1 n3 ends hs cs fs uh rs vs base)) (hbase : base ≤ w.heap.size)
    (k S T : Nat) (hk0 : k < n0) (hk3 : k < n3) (h0 : n0 ≤ 1048576) (h1 : n1 ≤ 1048576) (h3 : n3 ≤ 1048576) (HF : Hid (fs.length = n3)) (HH : Hid (hs.length = n1))
    (hS : Hid (startOf ends k = (S : Int))) (hT : Hid (ends.getD k 0 = (T : Int))) (hST : S ≤ T) (hTn : T ≤ n1)
    (a ac : Option Addr) (M cM NC cC cv : Nat) (ch cc us : List Int) (vb : Bool) (cov : List Bool) (hM : M ≤ 1048576) (hNC : NC ≤ 1048576) (hMN : M ≤ NC) (EM : Hid (ch.length = M)) (ENC : Hid (cov.length = NC))
    (hcov : Hid (CovRow w ac cv cov)) (hsame : Hid (HasSame w base l))
    (hcl : Hid (cv < base ∧ cv ≠ l ∧ R ≠ cv ∧ E ≠ cv ∧ F ≠ cv ∧ U ≠ cv ∧ V ≠ cv))
    (hra : Hid (RdE w a ch cc)) (hfa : Hid (Far base l cv a)) (hrc : Hid (Rising ch)) (KH KC : List Int) (EKH : Hid (cutL hs S T = KH)) (EKC : Hid (cutL cs S T = KC)) (hrk : Hid (Rising KH))
    (p0 : Option Addr) (q0 rr0 : Nat) (hx : Hid (vouch fs rs vs k = (vb, (p0, q0, rr0)))) (EU : Hid (us.length = q0)) (hq0 : q0 ≤ 1048576) (hqr : q0 ≤ rr0) (hru : Hid (RdI w p0 us)) (hfu : Hid (Far base l cv p0)) (hnd : Hid (vb = true → ndB us = true)) :
    Calls Try.prog 43 #[.pointer (some ⟨l, 0, none⟩), .int .i64 (k : Int), .slice a M cM, .slice ac NC cC] w (RFits w base l cv ac KH KC ch cc us (hasB uh (k : Int)) vb cov) := by
  by_cases hu : (k : Int) ∈ uh
  · have e : hasB uh (k : Int) = true := decide_eq_true hu
    rw [e]
    exact fits_held w l R E F U V n0 n1 n3 ends hs cs fs uh rs vs base H hbase k (by omega) a ac M cM NC cC cv KH KC ch cc us vb cov hcov hsame hu ⟨hcl.out.1, hcl.out.2.1⟩
  · have e : hasB uh (k : Int) = false := decide_eq_false hu
    rw [e]
    exact fits_go w l R E F U V n0 n1 n3 ends hs cs fs uh rs vs base H hbase k S T hk0 hk3 h0 h1 h3 HF HH hS hT hST hTn a ac M cM NC cC cv ch cc us vb cov hM hNC hMN EM ENC hcov hsame hu hcl hra hfa hrc KH KC EKH EKC hrk p0 q0 rr0 hx EU hq0 hqr hru hfu hnd

theorem fits26 (w : World) (l R E F U V n0 n1 n3 : Nat) (ends hs cs fs uh rs : List Int) (vs : List (Option Addr × Nat × Nat)) (base : Nat) (H : Hid (Ready w l R E F U V n0 n1 n3 ends hs cs fs uh rs vs base)) (hbase : base ≤ w.heap.size)
    (k S T : Nat) (hk0 : k < n0) (hk3 : k < n3) (h0 : n0 ≤ 1048576) (h1 : n1 ≤ 1048576) (h3 : n3 ≤ 1048576) (HF : Hid (fs.length = n3)) (HH : Hid (hs.length = n1))
    (hS : Hid (startOf ends k = (S : Int))) (hT : Hid (ends.getD k 0 = (T : Int))) (hST : S ≤ T) (hTn : T ≤ n1)
    (a ac : Option Addr) (M cM NC cC cv : Nat) (ch cc us : List Int) (vb : Bool) (cov : List Bool) (hM : M ≤ 1048576) (hNC : NC ≤ 1048576) (hMN : M ≤ NC) (EM : Hid (ch.length = M)) (ENC : Hid (cov.length = NC))
    (hcov : Hid (CovRow w ac cv cov)) (hsame : Hid (HasSame w base l))
    (hcl : Hid (cv < base ∧ cv ≠ l ∧ R ≠ cv ∧ E ≠ cv ∧ F ≠ cv ∧ U ≠ cv ∧ V ≠ cv))
    (hra : Hid (RdE w a ch cc)) (hfa : Hid (Far base l cv a)) (hrc : Hid (Rising ch)) (KH KC : List Int) (EKH : Hid (cutL hs S T = KH)) (EKC : Hid (cutL cs S T = KC)) (hrk : Hid (Rising KH))
    (p0 : Option Addr) (q0 rr0 : Nat) (hx : Hid (vouch fs rs vs k = (vb, (p0, q0, rr0)))) (EU : Hid (us.length = q0)) (hq0 : q0 ≤ 1048576) (hqr : q0 ≤ rr0) (hru : Hid (RdI w p0 us)) (hfu : Hid (Far base l cv p0)) (hnd : Hid (vb = true → ndB us = true)) :
    Calls Try.prog 26 #[.pointer (some ⟨l, 0, none⟩), .int .i64 (k : Int), .slice a M cM, .slice ac NC cC] w (RFits w base l cv ac KH KC ch cc us (hasB uh (k : Int)) vb cov) := by
  have HC := fits_any w l R E F U V n0 n1 n3 ends hs cs fs uh rs vs base H hbase k S T hk0 hk3 h0 h1 h3 HF HH hS hT hST hTn a ac M cM NC cC cv ch cc us vb cov hM hNC hMN EM ENC hcov hsame  hcl hra hfa hrc KH KC EKH EKC hrk p0 q0 rr0 hx EU hq0 hqr hru hfu hnd
  go_enter Try.func26, Try.ntmps26
  go_wp2_with fail
  refine HC.mono ?_
  rintro e w1 ⟨r, cov', rfl, h⟩
  go_wp2
  go_ret
  exact ⟨r, cov', rfl, h⟩
end Go.Proofs.Qxb6616313a
