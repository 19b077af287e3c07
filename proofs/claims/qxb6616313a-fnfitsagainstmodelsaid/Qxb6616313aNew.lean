/- ZZnewFitsReading. -/
import Derived.Test.Qxb6616313aMakers
import Derived.Test.Qxb6616313aClock
import Derived.Test.Qxb6616313aMaps
namespace Go.Proofs.Qxb6616313a
open Go.ChangeShapes Go.WideShapes Go.ChangeAt Go.RowKit
set_option linter.unusedVariables false
theorem infoR : (Try.prog.info? 100).map (fun i => (i.zero, i.size, i.bytes)) = some (some (.agg #[.int .i64 0, .int .u64 0, .int .i64 0, .int .i64 0]), 4, 32) := by kernel_rfl
theorem info101 : (Try.prog.info? 101).map (fun i => (i.zero, i.size, i.bytes)) = some (some (.int .u8 0), 1, 1) := by kernel_rfl

def val5 (n0 n1 n3 : Nat) : Nat → Nat → Value
  | 2, b => .slice (some ⟨b, 0, none⟩) n0 n0
  | 5, b => .slice (some ⟨b, 0, none⟩) n1 n1
  | 8, b => .slice (some ⟨b, 0, none⟩) n3 n3
  | _, b => .map (some b)
def obj5 (n0 n1 n3 : Nat) : Nat → Obj
  | 2 => .cells (madeCells #[.int .i64 0, .int .u64 0, .int .i64 0, .int .i64 0] (n0 * 4)) 100
  | 5 => .cells (madeCells #[.int .i64 0, .int .u64 0] (n1 * 2)) 64
  | 8 => .cells (madeCells #[.int .u8 0] (n3 * 1)) 101
  | _ => .map #[] 0

/-- what stands behind the literal '&reading{..}' -/
structure NewSt (w0 : World) (n0 n1 n3 l R E F U V : Nat) (w : World) : Prop where
  hl : w.heap[l]? = some (.cells (CL (.slice (some ⟨R, 0, none⟩) n0 n0) (.slice (some ⟨E, 0, none⟩) n1 n1) (.slice (some ⟨F, 0, none⟩) n3 n3) (.map (some U)) (.map (some V))) 96 (0, 0))
  hR : w.heap[R]? = some (obj5 n0 n1 n3 2)
  hE : w.heap[E]? = some (obj5 n0 n1 n3 5)
  hF : w.heap[F]? = some (obj5 n0 n1 n3 8)
  hU : w.heap[U]? = some (obj5 n0 n1 n3 9)
  hV : w.heap[V]? = some (obj5 n0 n1 n3 10)
  apart : l ≠ R ∧ l ≠ E ∧ l ≠ F ∧ l ≠ U ∧ l ≠ V ∧ R ≠ E ∧ R ≠ F ∧ R ≠ U ∧ R ≠ V ∧ E ≠ F ∧ E ≠ U ∧ E ≠ V ∧ F ≠ U ∧ F ≠ V ∧ U ≠ V
  news : w0.heap.size ≤ l ∧ w0.heap.size ≤ R ∧ w0.heap.size ≤ E ∧ w0.heap.size ≤ F ∧ w0.heap.size ≤ U ∧ w0.heap.size ≤ V
  bel : Below w0.heap.size w0 w

theorem newSt_of {w : World} {n0 n1 n3 : Nat} {a0 a : Act} {w1 : World} {m : Nat → Option Nat} (h : Inv5 (val5 n0 n1 n3) (obj5 n0 n1 n3) a0 w.drew m a w1) {R E F U V : Nat} (m2 : m 2 = some R) (m5 : m 5 = some E) (m8 : m 8 = some F) (m9 : m 9 = some U) (m10 : m 10 = some V) :
    NewSt w n0 n1 n3 w1.heap.size R E F U V (w1.alloc (.cells (CL (.slice (some ⟨R, 0, none⟩) n0 n0) (.slice (some ⟨E, 0, none⟩) n1 n1) (.slice (some ⟨F, 0, none⟩) n3 n3) (.map (some U)) (.map (some V))) 96)) := by
  obtain ⟨_, r1, r2⟩ := h.made 2 (by decide) R m2
  obtain ⟨_, e1, e2⟩ := h.made 5 (by decide) E m5
  obtain ⟨_, f1, f2⟩ := h.made 8 (by decide) F m8
  obtain ⟨_, u1, u2⟩ := h.made 9 (by decide) U m9
  obtain ⟨_, v1, v2⟩ := h.made 10 (by decide) V m10
  have lr := heap_lt r1; have le := heap_lt e1; have lf := heap_lt f1; have lu := heap_lt u1; have lv := heap_lt v1
  have ap : ∀ i ∈ five, ∀ j ∈ five, i ≠ j → ∀ b b', m i = some b → m j = some b' → b ≠ b' := fun i hi j hj hne b b' hb hb' e => hne (h.apart i hi j hj b hb (e ▸ hb'))
  have bel : Below w.heap.size w w1 := (Below.refl w.heap.size w).drew.trans h.bel
  refine ⟨heap_alloc_new _ _, ?_, ?_, ?_, ?_, ?_, ⟨by omega, by omega, by omega, by omega, by omega, ?_, ?_, ?_, ?_, ?_, ?_, ?_, ?_, ?_, ?_⟩, ⟨bel.size, r2, e2, f2, u2, v2⟩, bel.alloc bel.size _⟩
  · rw [heap_alloc_old _ _ lr]; exact r1
  · rw [heap_alloc_old _ _ le]; exact e1
  · rw [heap_alloc_old _ _ lf]; exact f1
  · rw [heap_alloc_old _ _ lu]; exact u1
  · rw [heap_alloc_old _ _ lv]; exact v1
  · exact ap 2 (by decide) 5 (by decide) (by decide) _ _ m2 m5
  · exact ap 2 (by decide) 8 (by decide) (by decide) _ _ m2 m8
  · exact ap 2 (by decide) 9 (by decide) (by decide) _ _ m2 m9
  · exact ap 2 (by decide) 10 (by decide) (by decide) _ _ m2 m10
  · exact ap 5 (by decide) 8 (by decide) (by decide) _ _ m5 m8
  · exact ap 5 (by decide) 9 (by decide) (by decide) _ _ m5 m9
  · exact ap 5 (by decide) 10 (by decide) (by decide) _ _ m5 m10
  · exact ap 8 (by decide) 9 (by decide) (by decide) _ _ m8 m9
  · exact ap 8 (by decide) 10 (by decide) (by decide) _ _ m8 m10
  · exact ap 9 (by decide) 10 (by decide) (by decide) _ _ m9 m10

abbrev CLx (n0 n1 n3 R E F U V : Nat) : Array Value := CL (.slice (some ⟨R, 0, none⟩) n0 n0) (.slice (some ⟨E, 0, none⟩) n1 n1) (.slice (some ⟨F, 0, none⟩) n3 n3) (.map (some U)) (.map (some V))
/-- the reading while it is filled -/
structure St (w0 : World) (n0 n1 n3 l R E F U V : Nat) (ends hs cs fs : List Int) (kR kE kF nU nV : Nat) (fU fV : Int → Option Value) (w : World) : Prop where
  hl : w.heap[l]? = some (.cells (CLx n0 n1 n3 R E F U V) 96 (0, 0))
  hR : ∃ C : Array Value, w.heap[R]? = some (.cells C 100 (0, 0)) ∧ C.size = n0 * 4 ∧ ∀ j, j < kR → C[j * 4 + 3]? = some (.int .i64 (ends.getD j 0))
  hE : RowE w E 64 n1 hs cs kE
  hF : w.heap[F]? = some (.cells (fill (Value.int .u8) (.int .u8 0) fs n3 kF).toArray 101 (0, 0))
  hU : MapV w U nU fU
  hV : MapV w V nV fV
  apart : l ≠ R ∧ l ≠ E ∧ l ≠ F ∧ l ≠ U ∧ l ≠ V ∧ R ≠ E ∧ R ≠ F ∧ R ≠ U ∧ R ≠ V ∧ E ≠ F ∧ E ≠ U ∧ E ≠ V ∧ F ≠ U ∧ F ≠ V ∧ U ≠ V
  news : w0.heap.size ≤ l ∧ w0.heap.size ≤ R ∧ w0.heap.size ≤ E ∧ w0.heap.size ≤ F ∧ w0.heap.size ≤ U ∧ w0.heap.size ≤ V
  bel : Below w0.heap.size w0 w

theorem RowE.kept {w w' : World} {g : Nat} {T : TypeId} {n : Nat} {hs cs : List Int} {k : Nat} (h : RowE w g T n hs cs k) (e : w'.heap[g]? = w.heap[g]?) : RowE w' g T n hs cs k := by
  obtain ⟨C, hC, r⟩ := h
  exact ⟨C, by rw [e]; exact hC, r⟩

section
variable {w0 w w' : World} {n0 n1 n3 l R E F U V : Nat} {ends hs cs fs : List Int} {kR kE kF nU nV : Nat} {fU fV : Int → Option Value}
theorem St.start (h : NewSt w0 n0 n1 n3 l R E F U V w) : St w0 n0 n1 n3 l R E F U V ends hs cs fs 0 0 0 0 0 (fun _ => none) (fun _ => none) w := by
  have mk : ∀ b, w.heap[b]? = some (.map #[] 0) → MapV w b 0 (fun _ => none) := fun b hb =>
    ⟨.map [], ⟨#[], 0, hb, by have := World.ownsMap_made (H := Value) w Try.prog 3 holdR; obtain ⟨es, c, e1, e2, e3, e4⟩ := this; rw [heap_alloc_new] at e1; cases e1; exact e2, Nat.le_refl _, rfl⟩, fun k _ => ⟨rfl, fun v z h => by cases h⟩⟩
  refine ⟨h.hl, ⟨_, h.hR, size_madeCells _ _, fun j hj => by omega⟩, ⟨_, h.hE, size_madeCells _ _, fun j hj => by omega⟩, ?_, mk _ h.hU, mk _ h.hV, h.apart, h.news, h.bel⟩
  rw [h.hF, fill_zero, ← toList_madeCells_one]
  simp [obj5]
theorem St.setR (h : St w0 n0 n1 n3 l R E F U V ends hs cs fs kR kE kF nU nV fU fV w) (hk : kR < n0) {v : Int} (hv : ends.getD kR 0 = v) :
    St w0 n0 n1 n3 l R E F U V ends hs cs fs (kR + 1) kE kF nU nV fU fV ((w.setCell ⟨R, kR * 4 + 3, none⟩ (.int .i64 v)).drew) := by
  obtain ⟨a1, a2, a3, a4, a5, a6, a7, a8, a9, a10, a11, a12, a13, a14, a15⟩ := h.apart
  have ot : ∀ g, g ≠ R → (w.setCell ⟨R, kR * 4 + 3, none⟩ (.int .i64 v)).drew.heap[g]? = w.heap[g]? := fun g hg => Below.heap_setCell w _ _ g hg
  refine ⟨by rw [ot l a1]; exact h.hl, ?_, h.hE.kept (ot E (Ne.symm a6)), by rw [ot F (Ne.symm a7)]; exact h.hF, h.hU.kept (ot U (Ne.symm a8)), h.hV.kept (ot V (Ne.symm a9)), h.apart, h.news, (h.bel.setCell h.news.2.1 _).drew⟩
  obtain ⟨C, hC, hz, hj⟩ := h.hR
  refine ⟨C.setIfInBounds (kR * 4 + 3) (.int .i64 v), ?_, by simp [hz], fun j hjk => ?_⟩
  · show (w.setCell _ _).heap[R]? = _
    rw [setCell_eq_setRow w R _ C 100 (0, 0) _ hC, setRow_heap w R C _ 100 _ hC]
  · by_cases e : j = kR
    · subst e
      rw [Array.getElem?_setIfInBounds_self_of_lt (by omega), hv]
    · rw [Array.getElem?_setIfInBounds_ne (by omega)]
      exact hj j (by omega)
theorem St.setE (h : St w0 n0 n1 n3 l R E F U V ends hs cs fs kR kE kF nU nV fU fV w) (hk : kE < n1) {v u : Int} (hv : hs.getD kE 0 = v) (hu : cs.getD kE 0 = u) :
    St w0 n0 n1 n3 l R E F U V ends hs cs fs kR (kE + 1) kF nU nV fU fV (((w.setCell ⟨E, kE * 2, none⟩ (.int .i64 v)).setCell ⟨E, kE * 2 + 1, none⟩ (.int .u64 u)).drew) := by
  obtain ⟨a1, a2, a3, a4, a5, a6, a7, a8, a9, a10, a11, a12, a13, a14, a15⟩ := h.apart
  have ot : ∀ g, g ≠ E → ((w.setCell ⟨E, kE * 2, none⟩ (.int .i64 v)).setCell ⟨E, kE * 2 + 1, none⟩ (.int .u64 u)).drew.heap[g]? = w.heap[g]? := fun g hg =>
    (Below.heap_setCell _ _ _ g hg).trans (Below.heap_setCell w _ _ g hg)
  obtain ⟨C, hC, hz, hj⟩ := h.hR
  refine ⟨by rw [ot l a2]; exact h.hl, ⟨C, by rw [ot R a6]; exact hC, hz, hj⟩, (h.hE.step hk hv hu).drew, by rw [ot F (Ne.symm a10)]; exact h.hF, h.hU.kept (ot U (Ne.symm a11)), h.hV.kept (ot V (Ne.symm a12)), h.apart, h.news, ((h.bel.setCell h.news.2.2.1 _).setCell h.news.2.2.1 _).drew⟩
theorem St.setF (h : St w0 n0 n1 n3 l R E F U V ends hs cs fs kR kE kF nU nV fU fV w) (hn : fs.length = n3) (hk : kF < n3) {v : Int} (hv : fs.getD kF 0 = v) :
    St w0 n0 n1 n3 l R E F U V ends hs cs fs kR kE (kF + 1) nU nV fU fV ((w.setCell ⟨F, kF, none⟩ (.int .u8 v)).drew) := by
  obtain ⟨a1, a2, a3, a4, a5, a6, a7, a8, a9, a10, a11, a12, a13, a14, a15⟩ := h.apart
  have ot : ∀ g, g ≠ F → ((w.setCell ⟨F, kF, none⟩ (.int .u8 v)).drew).heap[g]? = w.heap[g]? := fun g hg => Below.heap_setCell w _ _ g hg
  obtain ⟨C, hC, hz, hj⟩ := h.hR
  refine ⟨by rw [ot l a3]; exact h.hl, ⟨C, by rw [ot R a7]; exact hC, hz, hj⟩, h.hE.kept (ot E a10), ?_, h.hU.kept (ot U (Ne.symm a13)), h.hV.kept (ot V (Ne.symm a14)), h.apart, h.news, (h.bel.setCell h.news.2.2.2.1 _).drew⟩
  show (w.setCell _ _).heap[F]? = _
  rw [set_row h.hF, ← hv, fill_step _ _ _ _ _ _ hn hk]
theorem St.putU (h : St w0 n0 n1 n3 l R E F U V ends hs cs fs kR kE kF nU nV fU fV w) {f : Int → Option Value} {m : Nat} (hM : MapV w' U m f) (hg : w.grownBy w' (some U)) :
    St w0 n0 n1 n3 l R E F U V ends hs cs fs kR kE kF m nV f fV w' := by
  obtain ⟨a1, a2, a3, a4, a5, a6, a7, a8, a9, a10, a11, a12, a13, a14, a15⟩ := h.apart
  obtain ⟨C, hC, hz, hj⟩ := h.hR
  have ot : ∀ g, g < w.heap.size → g ≠ U → w'.heap[g]? = w.heap[g]? := fun g hl hne => hg.block g hl (by simpa using hne)
  refine ⟨by rw [ot l (heap_lt h.hl) a4]; exact h.hl, ⟨C, by rw [ot R (heap_lt hC) a8]; exact hC, hz, hj⟩, h.hE.kept (ot E (by obtain ⟨C, hC, _⟩ := h.hE; exact heap_lt hC) a11), by rw [ot F (heap_lt h.hF) a13]; exact h.hF, hM, h.hV.kept (ot V h.hV.lt (Ne.symm a15)), h.apart, h.news, h.bel.grown hg h.bel.size (fun k hk => by cases hk; exact h.news.2.2.2.2.1)⟩
theorem St.putV (h : St w0 n0 n1 n3 l R E F U V ends hs cs fs kR kE kF nU nV fU fV w) {f : Int → Option Value} {m : Nat} (hM : MapV w' V m f) (hg : w.grownBy w' (some V)) :
    St w0 n0 n1 n3 l R E F U V ends hs cs fs kR kE kF nU m fU f w' := by
  obtain ⟨a1, a2, a3, a4, a5, a6, a7, a8, a9, a10, a11, a12, a13, a14, a15⟩ := h.apart
  obtain ⟨C, hC, hz, hj⟩ := h.hR
  have ot : ∀ g, g < w.heap.size → g ≠ V → w'.heap[g]? = w.heap[g]? := fun g hl hne => hg.block g hl (by simpa using hne)
  refine ⟨by rw [ot l (heap_lt h.hl) a5]; exact h.hl, ⟨C, by rw [ot R (heap_lt hC) a9]; exact hC, hz, hj⟩, h.hE.kept (ot E (by obtain ⟨C, hC, _⟩ := h.hE; exact heap_lt hC) a12), by rw [ot F (heap_lt h.hF) a14]; exact h.hF, h.hU.kept (ot U h.hU.lt a15), hM, h.apart, h.news, h.bel.grown hg h.bel.size (fun k hk => by cases hk; exact h.news.2.2.2.2.2)⟩
theorem St.drew (h : St w0 n0 n1 n3 l R E F U V ends hs cs fs kR kE kF nU nV fU fV w) : St w0 n0 n1 n3 l R E F U V ends hs cs fs kR kE kF nU nV fU fV w.drew :=
  ⟨h.hl, h.hR, h.hE, h.hF, h.hU.kept rfl, h.hV.kept rfl, h.apart, h.news, h.bel.drew⟩
theorem St.lcell (h : St w0 n0 n1 n3 l R E F U V ends hs cs fs kR kE kF nU nV fU fV w) (i : Nat) : w.cell? ⟨l, i, none⟩ = (CLx n0 n1 n3 R E F U V)[i]? := by
  simp [World.cell?, h.hl]
theorem St.lthaw (h : St w0 n0 n1 n3 l R E F U V ends hs cs fs kR kE kF nU nV fU fV w) (i : Nat) : w.frozen? ⟨l, i, none⟩ = false := by
  simp [World.frozen?, h.hl]
end

/-- THE READING that ZZnewFitsReading has made -/
def uval : Value := .agg #[.string { data := #[] }, .int .u64 1]
def IsReading (w0 : World) (n0 n1 n3 : Nat) (ends hs cs fs uh rs : List Int) (vs : List (Option Addr × Nat × Nat)) (l : Nat) (w : World) : Prop :=
  ∃ R E F U V nU nV fU fV, St w0 n0 n1 n3 l R E F U V ends hs cs fs n0 n1 n3 nU nV fU fV w ∧ (∀ x, fU x = if x ∈ uh then some uval else none) ∧ (∀ x, fV x = (lastTo rs x rs.length).map fun j => slv (vs.getD j (none, 0, 0)))
def RNew (w : World) (n0 n1 n3 : Nat) (ends hs cs fs uh rs : List Int) (vs : List (Option Addr × Nat × Nat)) (e : Ending) (w' : World) : Prop :=
  ∃ l, e = .returned (.pointer (some ⟨l, 0, none⟩)) ∧ IsReading w n0 n1 n3 ends hs cs fs uh rs vs l w'

theorem take_mem {xs : List Int} {k : Nat} (hk : k < xs.length) {x : Int} : x ∈ xs.take (k + 1) ↔ x = xs.getD k 0 ∨ x ∈ xs.take k := by
  rw [List.take_succ_eq_append_getElem hk, List.mem_append]
  simp only [List.mem_singleton, List.getD_eq_getElem?_getD, List.getElem?_eq_getElem hk, Option.getD_some]
  exact or_comm

set_option maxRecDepth 100000 in
set_option maxHeartbeats 8000000 in
theorem new_any (a0 a1 a2 a3 a4 a5 a6 : Option Addr) (n0 n1 n3 n4 n5 c0 c1 c2 c3 c4 c5 c6 : Nat) (ends hs cs fs uh rs : List Int) (vs : List (Option Addr × Nat × Nat)) (w : World)
    (h0 : n0 ≤ 1048576) (h1 : n1 ≤ 1048576) (h3 : n3 ≤ 1048576) (h4 : n4 ≤ 1048576) (h5 : n5 ≤ 1048576)
    (E0 : Hid (ends.length = n0)) (E1 : Hid (hs.length = n1)) (E2 : Hid (cs.length = n1)) (E3 : Hid (fs.length = n3)) (E4 : Hid (uh.length = n4)) (E5 : Hid (rs.length = n5)) (E6 : Hid (vs.length = n5))
    (r0 : Hid (RdI w a0 ends)) (r1 : Hid (RdI w a1 hs)) (r2 : Hid (RdU w a2 cs)) (r3 : Hid (Rd8 w a3 fs)) (r4 : Hid (RdI w a4 uh)) (r5 : Hid (RdI w a5 rs)) (r6 : Hid (RdS w a6 vs))
    (wu : Hid (∀ x ∈ uh, (Lit.int .i64 x).wf = true)) (wr5 : Hid (∀ x ∈ rs, (Lit.int .i64 x).wf = true)) :
    Calls Try.prog 19 #[.slice a0 n0 c0, .slice a1 n1 c1, .slice a2 n1 c2, .slice a3 n3 c3, .slice a4 n4 c4, .slice a5 n5 c5, .slice a6 n5 c6] w (RNew w n0 n1 n3 ends hs cs fs uh rs vs) := by
  have hm0 := make_gen (P := Try.prog) 81 100 _ 4 32 Try.underlying81 infoR n0 (by omega) (by omega)
  have hm1 := make_gen (P := Try.prog) 51 64 _ 2 16 Try.underlying51 infoE n1 (by omega) (by omega)
  have hm3 := make_gen (P := Try.prog) 83 101 _ 1 1 Try.underlying83 info101 n3 (by omega) (by omega)
  go_enter Try.func19, Try.ntmps19
  go_wp2
  refine wp_region_any (by kernel_rfl) ?_
  refine wpAny_take (i := 0) (fuel := 13) rfl (by kernel_rfl) (by kernel_rfl) (by kernel_rfl) (fun _ _ _ h => h) (yields_move rfl rfl) ?_
  refine wpAny_take (i := 1) (fuel := 12) rfl (by kernel_rfl) (by kernel_rfl) (by kernel_rfl) (fun _ _ _ h => h) (yields_len (x := a0) (n := n0) (c := c0) rfl rfl Try.underlying36 rfl) ?_
  refine wpAny_take (i := 3) (fuel := 11) rfl (by kernel_rfl) (by kernel_rfl) (by kernel_rfl) (fun _ _ _ h => h) (yields_move rfl rfl) ?_
  refine wpAny_take (i := 4) (fuel := 10) rfl (by kernel_rfl) (by kernel_rfl) (by kernel_rfl) (fun _ _ _ h => h) (yields_len (x := a1) (n := n1) (c := c1) rfl rfl Try.underlying36 rfl) ?_
  refine wpAny_take (i := 6) (fuel := 9) rfl (by kernel_rfl) (by kernel_rfl) (by kernel_rfl) (fun _ _ _ h => h) (yields_move rfl rfl) ?_
  refine wpAny_take (i := 7) (fuel := 8) rfl (by kernel_rfl) (by kernel_rfl) (by kernel_rfl) (fun _ _ _ h => h) (yields_len (x := a3) (n := n3) (c := c3) rfl rfl Try.underlying38 rfl) ?_
  refine makers5_go (val5 n0 n1 n3) (obj5 n0 n1 n3) _ w.drew _ ?hl ?hs ?rdy ?step ?fin
  case hl => kernel_rfl
  case rdy => kernel_rfl
  case hs => exact of_decide_eq_true (by kernel_rfl)
  case step =>
    intro i hi K a w1 ho hK
    simp only [five, List.mem_cons, List.not_mem_nil, or_false] at hi
    rcases hi with rfl | rfl | rfl | rfl | rfl
    · exact wpOp_run rfl rfl (run_makeOp rfl (ho 23 (by decide) (by decide) (by decide) (by decide) (by decide)) (hm0 w1)) hK
    · exact wpOp_run rfl rfl (run_makeOp rfl (ho 26 (by decide) (by decide) (by decide) (by decide) (by decide)) (hm1 w1)) hK
    · exact wpOp_run rfl rfl (run_makeOp rfl (ho 29 (by decide) (by decide) (by decide) (by decide) (by decide)) (hm3 w1)) hK
    · exact wpOp_run rfl rfl (run_makeMapOp rfl) hK
    · exact wpOp_run rfl rfl (run_makeMapOp rfl) hK
  case fin =>
    intro m a w1 hI hall
    obtain ⟨R, m2⟩ := Option.isSome_iff_exists.1 (hall 2 (by decide))
    obtain ⟨E, m5⟩ := Option.isSome_iff_exists.1 (hall 5 (by decide))
    obtain ⟨F, m8⟩ := Option.isSome_iff_exists.1 (hall 8 (by decide))
    obtain ⟨U, m9⟩ := Option.isSome_iff_exists.1 (hall 9 (by decide))
    obtain ⟨V, m10⟩ := Option.isSome_iff_exists.1 (hall 10 (by decide))
    have HS : Hid (NewSt w n0 n1 n3 w1.heap.size R E F U V (w1.alloc (.cells (CL (.slice (some ⟨R, 0, none⟩) n0 n0) (.slice (some ⟨E, 0, none⟩) n1 n1) (.slice (some ⟨F, 0, none⟩) n3 n3) (.map (some U)) (.map (some V))) 96))) := newSt_of hI m2 m5 m8 m9 m10
    have ha := hI.act (of_decide_eq_true (by kernel_rfl)) m2 m5 m8 m9 m10
    have hsz : 34 < a.tmps.size := by rw [hI.size]; exact of_decide_eq_true (by kernel_rfl)
    have t1 : a.tmps[24]? = some (.slice (some ⟨R, 0, none⟩) n0 n0) := (hI.made 2 (by decide) R m2).1
    have t2 : a.tmps[27]? = some (.slice (some ⟨E, 0, none⟩) n1 n1) := (hI.made 5 (by decide) E m5).1
    have t3 : a.tmps[30]? = some (.slice (some ⟨F, 0, none⟩) n3 n3) := (hI.made 8 (by decide) F m8).1
    have t4 : a.tmps[31]? = some (.map (some U)) := (hI.made 9 (by decide) U m9).1
    have t5 : a.tmps[32]? = some (.map (some V)) := (hI.made 10 (by decide) V m10).1
    refine fin5 (val := val5 n0 n1 n3) hsz (by kernel_rfl) (by kernel_rfl) (by kernel_rfl) (by kernel_rfl) rfl rfl rfl rfl rfl rfl (run_buildOp R E F U V n0 n1 n3 w1 rfl t1 t2 t3 t4 t5) rfl rfl rfl rfl rfl (box96 _ _ _ _ _ w1) ?_
    rw [ha]
    clear ha hI hall m2 m5 m8 m9 m10 hsz t1 t2 t3 t4 t5 hm0 hm1 hm3
    generalize w1.alloc (.cells (CL (.slice (some ⟨R, 0, none⟩) n0 n0) (.slice (some ⟨E, 0, none⟩) n1 n1) (.slice (some ⟨F, 0, none⟩) n3 n3) (.map (some U)) (.map (some V))) 96) = w2 at *
    generalize w1.heap.size = l at *
    clear w1
    have HS2 : Hid (St w n0 n1 n3 l R E F U V ends hs cs fs 0 0 0 0 0 (fun _ => none) (fun _ => none) w2) := St.start HS.out
    clear HS
    go_frame
    go_wp2
    go_loopw [37] (fun i wr => ∃ k : Nat, k ≤ n0 ∧ i = .int .i64 k ∧ Hid (St w n0 n1 n3 l R E F U V ends hs cs fs k 0 0 0 0 (fun _ => none) (fun _ => none) wr)) (fun i _ => n0 - (intOf i).toNat)
    case atStart => exact ⟨0, Nat.zero_le _, rfl, HS2⟩
    case round =>
      clear HS2
      obtain ⟨k, hk, rfl, HS⟩ := hrel
      by_cases hlt : k < n0
      · obtain ⟨b, off, v, rfl, hc0, HV⟩ := r0.out.atv E0.out hlt
        have hc := below_some HS.out.bel hc0
        have l4 : wr.cell? ⟨l, 4, none⟩ = some (.slice (some ⟨R, 0, none⟩) n0 n0) := HS.out.lcell 4
        obtain ⟨v0, g0⟩ : ∃ v0, wr.cell? ⟨R, k * 4 + 3, none⟩ = some v0 := by
          obtain ⟨C, hC, hz, _⟩ := HS.out.hR
          exact ⟨C[k * 4 + 3]'(by omega), by simp [World.cell?, hC]⟩
        have f0 : wr.frozen? ⟨R, k * 4 + 3, none⟩ = false := by
          obtain ⟨C, hC, hz, _⟩ := HS.out.hR
          simp [World.frozen?, hC]
        have nb : b ≠ R := fun e => by have h1 : b < w.heap.size := block_lt hc0; have := HS.out.news; omega
        have k1 : ∀ x, (wr.setCell ⟨R, k * 4 + 3, none⟩ x).cell? ⟨b, off + k, none⟩ = some (.int .i64 v) := fun x => by rw [cell_set_ne _ _ nb]; exact hc
        have k2 : ∀ x, (wr.setCell ⟨R, k * 4 + 3, none⟩ x).cell? ⟨l, 4, none⟩ = some (.slice (some ⟨R, 0, none⟩) n0 n0) := fun x => by rw [cell_set_ne _ _ HS.out.apart.1]; exact l4
        have HN : Hid (St w n0 n1 n3 l R E F U V ends hs cs fs (k + 1) 0 0 0 0 (fun _ => none) (fun _ => none) ((wr.setCell ⟨R, k * 4 + 3, none⟩ (.int .i64 v)).drew)) := HS.out.setR hlt HV.out
        have i1 : (k : Int) < (n0 : Int) := by omega
        clear nb hc0
        go_wp2
        go_region_held3 (fun w' => w'.cell? ⟨l, 4, none⟩ = some (.slice (some ⟨R, 0, none⟩) n0 n0) ∧ w'.cell? ⟨b, off + k, none⟩ = some (.int .i64 v)) (go_keep) (fail)
        go_wp2
        go_roundw
        case rel => exact ⟨k + 1, by omega, by go_num, HN.out⟩
        case measure => simp [intOf]; omega
      · have HS2 : Hid (St w n0 n1 n3 l R E F U V ends hs cs fs n0 0 0 0 0 (fun _ => none) (fun _ => none) wr) := by
          have e : k = n0 := by omega
          have := HS.out; rw [e] at this; exact this
        clear HS
        go_wp2
        clear hlt hk
        go_loopw [54] (fun i wr => ∃ k : Nat, k ≤ n1 ∧ i = .int .i64 k ∧ Hid (St w n0 n1 n3 l R E F U V ends hs cs fs n0 k 0 0 0 (fun _ => none) (fun _ => none) wr)) (fun i _ => n1 - (intOf i).toNat)
        case atStart => exact ⟨0, Nat.zero_le _, rfl, HS2⟩
        case round =>
          clear HS2
          obtain ⟨k, hk, rfl, HS⟩ := hrel
          by_cases hlt : k < n1
          · obtain ⟨b, off, v, rfl, hc0, HV⟩ := r1.out.atv E1.out hlt
            obtain ⟨b', off', u, rfl, hd0, HU⟩ := r2.out.atv E2.out hlt
            have hc := below_some HS.out.bel hc0
            have hd := below_some HS.out.bel hd0
            have l6 : wr.cell? ⟨l, 6, none⟩ = some (.slice (some ⟨E, 0, none⟩) n1 n1) := HS.out.lcell 6
            obtain ⟨v0, g0⟩ := HS.out.hE.there (i := k * 2) (by omega)
            obtain ⟨v1, g1⟩ := HS.out.hE.there (i := k * 2 + 1) (by omega)
            have f0 := HS.out.hE.thawed (k * 2)
            have f1 := HS.out.hE.thawed (k * 2 + 1)
            have nb : b ≠ E := fun e => by have h1 : b < w.heap.size := block_lt hc0; have := HS.out.news; omega
            have nb' : b' ≠ E := fun e => by have h1 : b' < w.heap.size := block_lt hd0; have := HS.out.news; omega
            have k1 : ∀ x y, ((wr.setCell ⟨E, k * 2, none⟩ x).setCell ⟨E, k * 2 + 1, none⟩ y).cell? ⟨b, off + k, none⟩ = some (.int .i64 v) := fun x y => by rw [cell_set_ne _ _ nb, cell_set_ne _ _ nb]; exact hc
            have k2 : ∀ x y, ((wr.setCell ⟨E, k * 2, none⟩ x).setCell ⟨E, k * 2 + 1, none⟩ y).cell? ⟨b', off' + k, none⟩ = some (.int .u64 u) := fun x y => by rw [cell_set_ne _ _ nb', cell_set_ne _ _ nb']; exact hd
            have k3 : ∀ x y, ((wr.setCell ⟨E, k * 2, none⟩ x).setCell ⟨E, k * 2 + 1, none⟩ y).cell? ⟨l, 6, none⟩ = some (.slice (some ⟨E, 0, none⟩) n1 n1) := fun x y => by rw [cell_set_ne _ _ HS.out.apart.2.1, cell_set_ne _ _ HS.out.apart.2.1]; exact l6
            have HN : Hid (St w n0 n1 n3 l R E F U V ends hs cs fs n0 (k + 1) 0 0 0 (fun _ => none) (fun _ => none) (((wr.setCell ⟨E, k * 2, none⟩ (.int .i64 v)).setCell ⟨E, k * 2 + 1, none⟩ (.int .u64 u)).drew)) := HS.out.setE hlt HV.out HU.out
            have i1 : (k : Int) < (n1 : Int) := by omega
            clear nb nb' hc0 hd0
            go_wp2
            go_region_held3 (fun w' => w'.cell? ⟨l, 6, none⟩ = some (.slice (some ⟨E, 0, none⟩) n1 n1) ∧ w'.cell? ⟨b, off + k, none⟩ = some (.int .i64 v) ∧ w'.cell? ⟨b', off' + k, none⟩ = some (.int .u64 u)) (go_keep) (fail)
            go_wp2
            go_roundw
            case rel => exact ⟨k + 1, by omega, by go_num, HN.out⟩
            case measure => simp [intOf]; omega
          · have HS2 : Hid (St w n0 n1 n3 l R E F U V ends hs cs fs n0 n1 0 0 0 (fun _ => none) (fun _ => none) wr) := by
              have e : k = n1 := by omega
              have := HS.out; rw [e] at this; exact this
            clear HS
            go_wp2
            clear hlt hk
            go_loopw [75] (fun i wr => ∃ k : Nat, k ≤ n3 ∧ i = .int .i64 k ∧ Hid (St w n0 n1 n3 l R E F U V ends hs cs fs n0 n1 k 0 0 (fun _ => none) (fun _ => none) wr)) (fun i _ => n3 - (intOf i).toNat)
            case atStart => exact ⟨0, Nat.zero_le _, rfl, HS2⟩
            case round =>
              clear HS2
              obtain ⟨k, hk, rfl, HS⟩ := hrel
              by_cases hlt : k < n3
              · obtain ⟨b, off, v, rfl, hc0, HV⟩ := r3.out.atv E3.out hlt
                have hc := below_some HS.out.bel hc0
                have l8 : wr.cell? ⟨l, 8, none⟩ = some (.slice (some ⟨F, 0, none⟩) n3 n3) := HS.out.lcell 8
                have hfl : k < (fill (Value.int .u8) (.int .u8 0) fs n3 k).length := by rw [fill_length _ _ _ _ _ E3.out hk]; exact hlt
                obtain ⟨v0, g0⟩ : ∃ v0, wr.cell? ⟨F, k, none⟩ = some v0 := ⟨_, row_cell HS.out.hF hfl⟩
                have f0 := row_thawed (k := k) HS.out.hF
                have nb : b ≠ F := fun e => by have h1 : b < w.heap.size := block_lt hc0; have := HS.out.news; omega
                have k1 : ∀ x, (wr.setCell ⟨F, k, none⟩ x).cell? ⟨b, off + k, none⟩ = some (.int .u8 v) := fun x => by rw [cell_set_ne _ _ nb]; exact hc
                have k2 : ∀ x, (wr.setCell ⟨F, k, none⟩ x).cell? ⟨l, 8, none⟩ = some (.slice (some ⟨F, 0, none⟩) n3 n3) := fun x => by rw [cell_set_ne _ _ HS.out.apart.2.2.1]; exact l8
                have HN : Hid (St w n0 n1 n3 l R E F U V ends hs cs fs n0 n1 (k + 1) 0 0 (fun _ => none) (fun _ => none) ((wr.setCell ⟨F, k, none⟩ (.int .u8 v)).drew)) := HS.out.setF E3.out hlt HV.out
                have i1 : (k : Int) < (n3 : Int) := by omega
                clear nb hc0 hfl
                go_wp2
                go_region_held3 (fun w' => w'.cell? ⟨l, 8, none⟩ = some (.slice (some ⟨F, 0, none⟩) n3 n3) ∧ w'.cell? ⟨b, off + k, none⟩ = some (.int .u8 v)) (go_keep) (fail)
                go_wp2
                go_roundw
                case rel => exact ⟨k + 1, by omega, by go_num, HN.out⟩
                case measure => simp [intOf]; omega
              · have HS2 : Hid (St w n0 n1 n3 l R E F U V ends hs cs fs n0 n1 n3 0 0 (fun _ => none) (fun _ => none) wr) := by
                  have e : k = n3 := by omega
                  have := HS.out; rw [e] at this; exact this
                clear HS
                go_wp2
                clear hlt hk
                go_loopw [91] (fun i wr => ∃ (k : Nat) (fU : Int → Option Value), k ≤ n4 ∧ i = .int .i64 k ∧ Hid (St w n0 n1 n3 l R E F U V ends hs cs fs n0 n1 n3 k 0 fU (fun _ => none) wr) ∧ Hid (∀ x, fU x = if x ∈ uh.take k then some uval else none)) (fun i _ => n4 - (intOf i).toNat)
                case atStart => exact ⟨0, (fun _ => none), Nat.zero_le _, rfl, HS2, fun x => by simp⟩
                case round =>
                  clear HS2
                  obtain ⟨k, fU, hk, rfl, HS, HFU⟩ := hrel
                  by_cases hlt : k < n4
                  · obtain ⟨b, off, v, rfl, hc0, HV⟩ := r4.out.atv E4.out hlt
                    have hc := below_some HS.out.bel hc0
                    have l10 : wr.cell? ⟨l, 10, none⟩ = some (.map (some U)) := HS.out.lcell 10
                    have hwv : (Lit.int .i64 v).wf = true := wu.out v (by rw [← HV.out]; exact getD_mem (by rw [E4.out]; exact hlt))
                    obtain ⟨w3, hrun, hM, hg⟩ := HS.out.hU.put Try.underlying84 (by unfold maxLen; omega) hwv uval
                    have HN : Hid (St w n0 n1 n3 l R E F U V ends hs cs fs n0 n1 n3 (k + 1) 0 (fun x => if x = v then some uval else fU x) (fun _ => none) w3) := HS.out.putU hM hg
                    have HF2 : Hid (∀ x, (fun x => if x = v then some uval else fU x) x = if x ∈ uh.take (k + 1) then some uval else none) := fun x => by
                      have hm := take_mem (xs := uh) (k := k) (by rw [E4.out]; exact hlt) (x := x)
                      rw [HV.out] at hm
                      dsimp only
                      by_cases e : x = v
                      · rw [if_pos e, if_pos (hm.2 (.inl e))]
                      · rw [if_neg e, HFU.out x]
                        by_cases e2 : x ∈ uh.take k
                        · rw [if_pos e2, if_pos (hm.2 (.inr e2))]
                        · rw [if_neg e2, if_neg (fun h => (hm.1 h).elim e e2)]
                    generalize (fun x => if x = v then some uval else fU x) = fU2 at HN HF2
                    unfold uval at hrun
                    clear hM hg hc0 hwv
                    go_wp2
                    go_roundw
                    case rel => exact ⟨k + 1, fU2, by omega, by go_num, HN.out, HF2.out⟩
                    case measure => simp [intOf]; omega
                  · have HS2 : Hid (St w n0 n1 n3 l R E F U V ends hs cs fs n0 n1 n3 n4 0 fU (fun _ => none) wr) := by
                      have e : k = n4 := by omega
                      have := HS.out; rw [e] at this; exact this
                    have HFU2 : Hid (∀ x, fU x = if x ∈ uh then some uval else none) := fun x => by
                      have := HFU.out x
                      rw [List.take_of_length_le (by rw [E4.out]; omega)] at this; exact this
                    clear HS HFU
                    go_wp2
                    clear hlt hk
                    go_loopw [104] (fun i wr => ∃ (k : Nat) (fV : Int → Option Value), k ≤ n5 ∧ i = .int .i64 k ∧ Hid (St w n0 n1 n3 l R E F U V ends hs cs fs n0 n1 n3 n4 k fU fV wr) ∧ Hid (∀ x, fV x = (lastTo rs x k).map fun j => slv (vs.getD j (none, 0, 0)))) (fun i _ => n5 - (intOf i).toNat)
                    case atStart => exact ⟨0, (fun _ => none), Nat.zero_le _, rfl, HS2, fun x => rfl⟩
                    case round =>
                      clear HS2
                      obtain ⟨k, fV, hk, rfl, HS, HFV⟩ := hrel
                      by_cases hlt : k < n5
                      · obtain ⟨b, off, v, rfl, hc0, HV⟩ := r5.out.atv E5.out hlt
                        obtain ⟨b', off', p, q, r, rfl, hd0, he6⟩ := r6.out.at (k := k) (by rw [E6.out]; exact hlt)
                        have hc := below_some HS.out.bel hc0
                        have hd := below_some HS.out.bel hd0
                        have l12 : wr.cell? ⟨l, 12, none⟩ = some (.map (some V)) := HS.out.lcell 12
                        have hwv : (Lit.int .i64 v).wf = true := wr5.out v (by rw [← HV.out]; exact getD_mem (by rw [E5.out]; exact hlt))
                        obtain ⟨w3, hrun, hM, hg⟩ := HS.out.drew.hV.put Try.underlying86 (by unfold maxLen; omega) hwv (.slice p q r)
                        have HN : Hid (St w n0 n1 n3 l R E F U V ends hs cs fs n0 n1 n3 n4 (k + 1) fU (fun x => if x = v then some (.slice p q r) else fV x) w3) := HS.out.drew.putV hM hg
                        have HF2 : Hid (∀ x, (fun x => if x = v then some (.slice p q r) else fV x) x = (lastTo rs x (k + 1)).map fun j => slv (vs.getD j (none, 0, 0))) := fun x => by
                          dsimp only
                          unfold lastTo
                          rw [HV.out]
                          by_cases e : x = v
                          · rw [if_pos e, if_pos e.symm]
                            simp only [Option.map_some, he6]
                            rfl
                          · rw [if_neg e, if_neg (fun h => e h.symm)]
                            exact HFV.out x
                        generalize (fun x => if x = v then some (.slice p q r) else fV x) = fV2 at HN HF2
                        have nb : b ≠ V := fun e => by have h1 : b < w.heap.size := block_lt hc0; have := HS.out.news; omega
                        have nb' : b' ≠ V := fun e => by have h1 : b' < w.heap.size := block_lt hd0; have := HS.out.news; omega
                        have k1 : w3.cell? ⟨b, off + k, none⟩ = some (.int .i64 v) := hg.cell hc (by simpa using nb)
                        have k2 : w3.cell? ⟨b', off' + k, none⟩ = some (.slice p q r) := hg.cell hd (by simpa using nb')
                        have k3 : w3.cell? ⟨l, 12, none⟩ = some (.map (some V)) := hg.cell l12 (by simpa using HS.out.apart.2.2.2.2.1)
                        have i1 : (k : Int) < (n5 : Int) := by omega
                        clear hM hg hc0 hd0 hwv nb nb' he6
                        go_wp2
                        go_region_held3 (fun w' => w'.cell? ⟨l, 12, none⟩ = some (.map (some V)) ∧ w'.cell? ⟨b, off + k, none⟩ = some (.int .i64 v) ∧ w'.cell? ⟨b', off' + k, none⟩ = some (.slice p q r)) (go_keep) (fail)
                        go_wp2
                        go_roundw
                        case rel => exact ⟨k + 1, fV2, by omega, by go_num, HN.out, HF2.out⟩
                        case measure => simp [intOf]; omega
                      · have HP : Hid (RNew w n0 n1 n3 ends hs cs fs uh rs vs (.returned (.pointer (some ⟨l, 0, none⟩))) wr) := by
                          have e : k = n5 := by omega
                          have := HS.out; rw [e] at this
                          have h2 := HFV.out; rw [e] at h2
                          exact ⟨l, rfl, R, E, F, U, V, n4, n5, fU, fV, this, HFU2.out, fun x => by rw [E5.out]; exact h2 x⟩
                        clear HS HFV HFU2
                        go_wp2
                        go_ret
                        exact HP.out
end Go.Proofs.Qxb6616313a
