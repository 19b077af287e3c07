/- WHAT COMES IN, OPENED. -/
import Derived.Test.Qxb6616313aLawA
import Derived.Deep.Matrix
import Derived.Deep.Grids
import Derived.OpenShut
namespace Go.Proofs.Qxb6616313a
open Go.ChangeShapes Go.WideShapes Go.ChangeAt Go.RowKit Go.Deep
set_option linter.unusedVariables false

theorem addr_plain {w : World} {x : Addr} {v : Value} (h : w.cell? x = some v) : x = ⟨x.block, x.off, none⟩ := by
  obtain ⟨b, o, e⟩ := x
  cases e with
  | none => rfl
  | some y =>
    simp only [World.cell?] at h
    split at h <;> simp at h
theorem addr_add (b o i : Nat) : (⟨b, o, none⟩ : Addr).add i = ⟨b, o + i, none⟩ := by cases i <;> simp [Addr.add]
theorem row_rd {α : Type} {f : α → Value} {d : α} {w : World} {x : Addr} {xs : List α} (hc : ∀ i, i < xs.length → w.cell? (x.add i) = some (f (xs.getD i d))) : RdG f d w (some x) xs := by
  by_cases e : xs = []
  · exact .inl e
  · have h0 : 0 < xs.length := by cases xs; exact absurd rfl e; simp
    have hx : x = ⟨x.block, x.off, none⟩ := by
      have := hc 0 h0
      exact addr_plain (x := x) (by simpa [Addr.add] using this)
    refine .inr ⟨x.block, x.off, by rw [← hx], fun j hj => ?_⟩
    have := hc j hj
    rw [hx, addr_add] at this
    exact this

def IntsAt (k : IntKind) (w : World) (a : Option Addr) (len cap : Nat) (xs : List Int) : Prop :=
  xs.length = len ∧ len ≤ cap ∧ len ≤ 9223372036854775807 ∧ (a = none → len = 0) ∧ RdG (Value.int k) 0 w a xs ∧ ∀ x ∈ xs, (Lit.int k x).wf = true

section
variable {P : Program} {H : Type} {enc : TypeId × Value → H} {w : World} {held : Bool} {base : Nat} {r : Reach} {b0 : Nat} {v : Value} {d : DataW H} {ps : List MemPlace}
theorem open_intsAt {t e : TypeId} {k : IntKind} (ht : P.underlying t = some (.slice e)) (he : P.underlying e = some (.int k)) (hc : P.cellsOf e = 1) (hval : Value.okWide P w r b0 t v)
    (hd : DataW.Trod enc P w base (fun _ => true) held t v d ps) : ∃ a len cap xs, v = .slice a len cap ∧ IntsAt k w a len cap xs := by
  obtain ⟨a, len, cap, rfl⟩ := okWide_slice ht hval
  obtain ⟨fuel, hf⟩ := hd
  rcases open_ints ht he hc hf with ⟨hcs, _⟩ | ⟨x, l, c, zs, hcs, _, hl, hm, hz, _, hcell, hwz⟩
  · simp [Value.cells] at hcs
    obtain ⟨rfl, rfl, rfl⟩ := hcs
    exact ⟨_, _, _, [], rfl, rfl, Nat.le_refl _, by omega, fun _ => rfl, .inl rfl, fun x hx => by cases hx⟩
  · simp [Value.cells] at hcs
    obtain ⟨rfl, rfl, rfl⟩ := hcs
    simp only [if_true] at hz
    unfold maxLen at hm
    refine ⟨_, _, _, zs.take len, rfl, by simp; omega, hl, by omega, fun h => (by cases h), row_rd fun i hi => ?_, fun n hn => hwz n (List.mem_of_mem_take hn)⟩
    simp only [List.length_take] at hi
    rw [hcell i (by omega)]
    simp [List.getD_eq_getElem?_getD, show i < len by omega]
theorem open_boolsAt {t e : TypeId} (ht : P.underlying t = some (.slice e)) (he : P.underlying e = some .bool) (hc : P.cellsOf e = 1) (hval : Value.okWide P w r b0 t v)
    (hd : DataW.Trod enc P w base (fun _ => true) held t v d ps) : ∃ a len cap xs, v = .slice a len cap ∧ xs.length = len ∧ len ≤ 9223372036854775807 ∧ (a = none → len = 0) ∧ RdO w a xs := by
  obtain ⟨a, len, cap, rfl⟩ := okWide_slice ht hval
  obtain ⟨fuel, hf⟩ := hd
  rcases open_bools ht he hc hf with ⟨hcs, _⟩ | ⟨x, l, c, B, hcs, _, hl, hm, _, hcell⟩
  · simp [Value.cells] at hcs
    obtain ⟨rfl, rfl, rfl⟩ := hcs
    exact ⟨_, _, _, [], rfl, rfl, by omega, fun _ => rfl, .inl rfl⟩
  · simp [Value.cells] at hcs
    obtain ⟨rfl, rfl, rfl⟩ := hcs
    unfold maxLen at hm
    refine ⟨_, _, _, (List.range len).map B, rfl, by simp, by omega, fun h => (by cases h), row_rd fun i hi => ?_⟩
    simp only [List.length_map, List.length_range] at hi
    rw [hcell i (by omega)]
    simp [List.getD_eq_getElem?_getD, hi]
theorem open_rowsAt {t e q : TypeId} (ht : P.underlying t = some (.slice e)) (he : P.underlying e = some (.slice q)) (hq : P.underlying q = some (.int .i64)) (ce : P.cellsOf e = 1) (cq : P.cellsOf q = 1) (hval : Value.okWide P w r b0 t v)
    (hd : DataW.Trod enc P w base (fun _ => true) held t v d ps) : ∃ a len cap vs xss, v = .slice a len cap ∧ vs.length = len ∧ len ≤ 9223372036854775807 ∧ (a = none → len = 0) ∧ RdS w a vs ∧ Inner w vs xss ∧ (∀ p ∈ vs, p.2.1 ≤ 9223372036854775807) ∧ (∀ p ∈ vs, p.1 = none → p.2.1 = 0) := by
  obtain ⟨a, len, cap, rfl⟩ := okWide_slice ht hval
  obtain ⟨fuel, hf⟩ := hd
  rcases open_int_rows ht he hq ce cq hf with ⟨hcs, _⟩ | ⟨x, l, c, A, L, C, Z, hcs, _, hl, hm, _, hcell⟩
  · simp [Value.cells] at hcs
    obtain ⟨rfl, rfl, rfl⟩ := hcs
    exact ⟨_, _, _, [], [], rfl, rfl, by omega, fun _ => rfl, .inl rfl, ⟨rfl, fun j hj => by simp at hj⟩, fun p hp => (by cases hp), fun p hp => by cases hp⟩
  · simp [Value.cells] at hcs
    obtain ⟨rfl, rfl, rfl⟩ := hcs
    unfold maxLen at hm hcell
    have hvs : ∀ j, j < len → ((List.range len).map fun r => (A r, L r, C r)).getD j (none, 0, 0) = (A j, L j, C j) := fun j hj => by simp [List.getD_eq_getElem?_getD, hj]
    have hxs : ∀ j, j < len → ((List.range len).map fun r => (Z r).take (L r)).getD j [] = (Z j).take (L j) := fun j hj => by simp [List.getD_eq_getElem?_getD, hj]
    refine ⟨_, _, _, (List.range len).map fun r => (A r, L r, C r), (List.range len).map fun r => (Z r).take (L r), rfl, by simp, by omega, fun h => (by cases h), row_rd fun i hi => ?_, ⟨by simp, fun j hj => ?_⟩, fun p hp => ?_, fun p hp => ?_⟩
    · simp only [List.length_map, List.length_range] at hi
      rw [(hcell i (by omega)).1, hvs i hi]
      rfl
    · simp only [List.length_map, List.length_range] at hj
      obtain ⟨h1, h2, h3, h4, h5, h6, h7⟩ := hcell j (by omega)
      rw [hvs j hj, hxs j hj]
      refine ⟨by simp; omega, ?_⟩
      cases hA : A j with
      | none =>
        have := h6 hA
        exact .inl (by simp; omega)
      | some x' =>
        refine row_rd fun i hi => ?_
        simp only [List.length_take] at hi
        rw [(h7 x' hA).2 i (by omega)]
        simp [List.getD_eq_getElem?_getD, show i < L j by omega]
    · obtain ⟨j, hj, rfl⟩ := List.mem_map.1 hp
      have hj' : j < len := by simpa using hj
      obtain ⟨h1, h2, h3, _⟩ := hcell j (by omega)
      show L j ≤ _
      omega
    · obtain ⟨j, hj, rfl⟩ := List.mem_map.1 hp
      have hj' : j < len := by simpa using hj
      obtain ⟨h1, h2, h3, h4, h5, h6, _⟩ := hcell j (by omega)
      intro hn
      have := h6 hn
      show L j = 0
      omega
end
end Go.Proofs.Qxb6616313a
