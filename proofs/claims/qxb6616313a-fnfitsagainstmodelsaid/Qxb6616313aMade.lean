/- THE READING, MADE OF CLONES, AS THE LAWS MEET IT. -/
import Derived.Test.Qxb6616313aFits
namespace Go.Proofs.Qxb6616313a
open Go.ChangeShapes Go.WideShapes Go.ChangeAt Go.RowKit
set_option linter.unusedVariables false

theorem Kp.below {B base l cv : Nat} {a w w' : World} (h : Below B a w) (k : Kp base l cv w w') (h1 : B ≤ base) (h2 : B ≤ l) (h3 : B ≤ cv) : Below B a w' :=
  ⟨k.os.trans h.os, k.tape.trans h.tape, k.output.trans h.output, Nat.le_trans h.size k.size, fun g hg => (k.block g (by omega) (by omega) (by omega)).trans (h.block g hg)⟩

theorem Ready.of_St {w0 w w' : World} {n0 n1 n3 l R E F U V : Nat} {ends hs cs fs uh rs : List Int} {vs : List (Option Addr × Nat × Nat)} {nU nV : Nat} {fU fV : Int → Option Value} {base : Nat}
    (h : St w0 n0 n1 n3 l R E F U V ends hs cs fs n0 n1 n3 nU nV fU fV w) (hfU : ∀ x, fU x = if x ∈ uh then some uval else none) (hfV : ∀ x, fV x = (lastTo rs x rs.length).map fun j => slv (vs.getD j (none, 0, 0)))
    (E1 : hs.length = n1) (E2 : cs.length = n1) (E3 : fs.length = n3) (hb : Below w.heap.size w w') (hbase : w.heap.size ≤ base) : Ready w' l R E F U V n0 n1 n3 ends hs cs fs uh rs vs base := by
  have hl := heap_lt h.hl
  obtain ⟨C, hC, hCz, hCj⟩ := h.hR
  have hRl := heap_lt hC
  have hEl : E < w.heap.size := by obtain ⟨D, hD, _⟩ := h.hE; exact heap_lt hD
  have hFl := heap_lt h.hF
  have hUl := h.hU.lt
  have hVl := h.hV.lt
  have ap := h.apart
  have cl : ∀ i, w'.cell? ⟨l, i, none⟩ = (CLx n0 n1 n3 R E F U V)[i]? := fun i => (hb.cell (p := ⟨l, i, none⟩) hl).trans (h.lcell i)
  refine ⟨?_, ?_, ?_, ?_, ?_, ?_, fun j hj => ?_, (h.hE.rd E1 E2).below hb, ?_, ⟨nU, fU, h.hU.kept (hb.block U hUl), hfU⟩, ⟨nV, fV, h.hV.kept (hb.block V hVl), hfV⟩, by omega, by omega⟩
  · rw [cl]; rfl
  · rw [cl]; rfl
  · rw [cl]; rfl
  · rw [cl]; rfl
  · rw [cl]; rfl
  · exact (hb.frozen (p := ⟨l, 20, none⟩) hl).trans (h.lthaw 20)
  · rw [hb.cell (p := ⟨R, j * 4 + 3, none⟩) hRl]
    have := hCj j hj
    simpa [World.cell?, hC] using this
  · have hr := h.hF
    rw [fill_all _ _ _ _ E3] at hr
    exact (show RdG (Value.int .u8) 0 w (some ⟨F, 0, none⟩) fs from .inr ⟨F, 0, rfl, fun j hj => by simp [World.cell?, hr, hj]⟩).below hb
theorem HasSame.of_St {w0 w w' : World} {n0 n1 n3 l R E F U V : Nat} {ends hs cs fs : List Int} {a b c nU nV : Nat} {fU fV : Int → Option Value} {base : Nat}
    (h : St w0 n0 n1 n3 l R E F U V ends hs cs fs a b c nU nV fU fV w) (hb : Below w.heap.size w w') : HasSame w' base l :=
  ⟨0, [], none, 0, (hb.cell (p := ⟨l, 20, none⟩) (heap_lt h.hl)).trans (by rw [h.lcell]; rfl), World.ownsRow_nil _ _ _ _⟩

/-- what stands behind the making of the reading -/
structure Made (w : World) (n0 n1 n3 : Nat) (ends hs cs fs uh rs : List Int) (xss : List (List Int)) (l R E F U V ce : Nat) (vs : List (Option Addr × Nat × Nat)) (w8 : World) : Prop where
  bel : Below w.heap.size w w8
  ready : ∀ base w', w8.heap.size ≤ base → Below w8.heap.size w8 w' → Ready w' l R E F U V n0 n1 n3 ends hs cs fs uh rs vs base
  same : ∀ base w', Below w8.heap.size w8 w' → HasSame w' base l
  inner : Inner w8 vs xss
  vlen : vs.length = rs.length
  caps : ∀ p ∈ vs, p.2.1 ≤ p.2.2 ∧ ∀ x, p.1 = some x → x.block < w8.heap.size ∧ x.block ≠ l ∧ x.block ≠ ce
  news : w.heap.size ≤ l ∧ l < w8.heap.size ∧ R < w8.heap.size ∧ E < w8.heap.size ∧ F < w8.heap.size ∧ U < w8.heap.size ∧ V < w8.heap.size
  spare : w.heap.size ≤ ce ∧ ce < w8.heap.size ∧ ce ≠ l ∧ R ≠ ce ∧ E ≠ ce ∧ F ≠ ce ∧ U ≠ ce ∧ V ≠ ce

theorem made_of {w w1 w6 w7 w8 : World} {n0 n1 n3 n5 l : Nat} {ends hs cs fs uh rs : List Int} {xss : List (List Int)} {vs : List (Option Addr × Nat × Nat)} {a' : Option Addr}
    (b1 : Below w.heap.size w w1) (h1 : Own (Value.int .i64) 3 w.heap.size w1 a' ends) (hne : ¬ ends = []) (b6 : Below w1.heap.size w1 w6) (b7 : Below w6.heap.size w6 w7) (vl : vs.length = n5) (rl : rs.length = n5) (hi : Inner w7 vs xss)
    (hc : ∀ p ∈ vs, p.2.1 ≤ p.2.2 ∧ ∀ x, p.1 = some x → w6.heap.size ≤ x.block ∧ x.block < w7.heap.size)
    (hR : IsReading w7 n0 n1 n3 ends hs cs fs uh rs vs l w8) (E1 : hs.length = n1) (E2 : cs.length = n1) (E3 : fs.length = n3) :
    ∃ R E F U V ce, Made w n0 n1 n3 ends hs cs fs uh rs xss l R E F U V ce vs w8 := by
  obtain ⟨R, E, F, U, V, nU, nV, fU, fV, hS, hfU, hfV⟩ := hR
  rcases h1 with h1 | ⟨ce, e1, hce, hrow⟩
  · exact absurd h1 hne
  have hcl := heap_lt hrow
  have s1 := b1.size
  have s6 := b6.size
  have s7 := b7.size
  have s8 := hS.bel.size
  obtain ⟨q1, q2, q3, q4, q5, q6⟩ := hS.news
  have hl := heap_lt hS.hl
  have hRl : R < w8.heap.size := by obtain ⟨C, hC, _⟩ := hS.hR; exact heap_lt hC
  have hEl : E < w8.heap.size := by obtain ⟨D, hD, _⟩ := hS.hE; exact heap_lt hD
  have hFl := heap_lt hS.hF
  have hUl := hS.hU.lt
  have hVl := hS.hV.lt
  refine ⟨R, E, F, U, V, ce, ?_, fun base w' hb hbel => Ready.of_St hS hfU hfV E1 E2 E3 hbel hb, fun base w' hbel => HasSame.of_St hS hbel, hi.below hS.bel, by omega, fun p hp => ⟨(hc p hp).1, fun x hx => ?_⟩, by omega, by omega⟩
  · exact ((b1.trans (b6.mono (by omega))).trans (b7.mono (by omega))).trans (hS.bel.mono (by omega))
  · have := (hc p hp).2 x hx
    omega

/-- the vouched list, read through the clones -/
theorem vouch_fst (fs rs : List Int) (vs vs' : List (Option Addr × Nat × Nat)) (k : Nat) : (vouch fs rs vs k).1 = (vouch fs rs vs' k).1 := by
  unfold vouch vouchTo
  by_cases hf : fs.getD k 0 = 1
  · rw [if_pos hf, if_pos hf]
  · rw [if_neg hf, if_neg hf]
    cases lastTo rs (k : Int) rs.length <;> rfl
theorem vouch_mem {fs rs : List Int} {vs : List (Option Addr × Nat × Nat)} (k : Nat) (hl : vs.length = rs.length) : (vouch fs rs vs k).2 = (none, 0, 0) ∨ (vouch fs rs vs k).2 ∈ vs := by
  unfold vouch vouchTo
  by_cases hf : fs.getD k 0 = 1
  · rw [if_pos hf]; exact .inl rfl
  · rw [if_neg hf]
    cases hj : lastTo rs (k : Int) rs.length with
    | none => exact .inl rfl
    | some j =>
      have := (lastTo_lt hj).1
      exact .inr (getD_mem (by omega))
end Go.Proofs.Qxb6616313a
