/- A MAP KEYED BY INTS, ITS VALUES TRACKED AS THEY ARE. -/
import Derived.Test.Qxb6616313aBase
import Derived.Maps.OwnSet
namespace Go.Proofs.Qxb6616313a
open Go.ChangeShapes Go.WideShapes Go.ChangeAt Go.RowKit
set_option linter.unusedVariables false

/-- an element read as itself -/
def holdR (v : Value) : Option (DataW Value × List MemPlace) := some (.held v, [])

/-- block b is a map of at most n entries that holds just what f says -/
def MapV (w : World) (b n : Nat) (f : Int → Option Value) : Prop :=
  ∃ D : DataW Value, w.ownsMap Try.prog 3 holdR b n D ∧ ∀ k, (Lit.int .i64 k).wf = true → Maps.has D (.int .i64 k) = (f k).isSome ∧ ∀ v z, f k = some v → D.atKey (.int .i64 k) z = .held v

theorem keyed3 : Maps.Keyed Try.prog 3 := Maps.int_keyed Try.underlying3
theorem key3 {k : Int} (h : (Lit.int .i64 k).wf = true) : keyOf Try.prog 3 (.int .i64 k) = some (.int .i64 k) := Maps.keyOf_int_mk Try.underlying3 h

theorem MapV.made (w : World) : MapV (w.alloc (.map #[] 0)) w.heap.size 0 (fun _ => none) :=
  ⟨.map [], World.ownsMap_made w Try.prog 3 holdR, fun k _ => ⟨rfl, fun v z h => by cases h⟩⟩
theorem MapV.kept {w w' : World} {b n : Nat} {f : Int → Option Value} (h : MapV w b n f) (e : w'.heap[b]? = w.heap[b]?) : MapV w' b n f := by
  obtain ⟨D, ⟨es, clock, hb, hF, hs, hD⟩, hk⟩ := h
  exact ⟨D, ⟨es, clock, by rw [e]; exact hb, hF, hs, hD⟩, hk⟩
theorem MapV.lt {w : World} {b n : Nat} {f : Int → Option Value} (h : MapV w b n f) : b < w.heap.size := by
  obtain ⟨D, ho, _⟩ := h
  exact ho.lt
theorem MapV.look {w : World} {b n : Nat} {f : Int → Option Value} (h : MapV w b n f) {t e : TypeId} (ht : Try.prog.underlying t = some (.map 3 e)) {z : Value} (hz : (zeroValue e).run Try.prog w = .ok z w) {k : Int} (hk : (Lit.int .i64 k).wf = true) :
    (Instr.lookup t (.map (some b)) (.int .i64 k) true).run Try.prog w = .ok (.tuple #[(f k).getD z, .bool (f k).isSome]) w := by
  obtain ⟨D, ho, hD⟩ := h
  obtain ⟨v, ps, hrun, hv⟩ := ho.look_ok keyed3 ht hz (zd := .held z) (zp := []) rfl (key3 hk)
  rw [hrun, (hD k hk).1]
  have e : v = (f k).getD z := by
    have hv' : DataW.held v = D.atKey (.int .i64 k) (.held z) := by
      have : some (DataW.held v, ([] : List MemPlace)) = some (D.atKey (.int .i64 k) (.held z), ps) := hv
      simp only [Option.some.injEq, Prod.mk.injEq] at this
      exact this.1
    cases hf : f k with
    | none =>
      have h0 : Maps.has D (.int .i64 k) = false := by rw [(hD k hk).1, hf]; rfl
      rw [Maps.atKey_of_not_has h0] at hv'
      simpa using hv'
    | some u =>
      rw [(hD k hk).2 u _ hf] at hv'
      simpa using hv'
  rw [e]
theorem MapV.put {w : World} {b n : Nat} {f : Int → Option Value} (h : MapV w b n f) {t e : TypeId} (ht : Try.prog.underlying t = some (.map 3 e)) (hn : n < maxLen) {k : Int} (hk : (Lit.int .i64 k).wf = true) (v : Value) :
    ∃ w', (Instr.mapUpdate t (.map (some b)) (.int .i64 k) v).run Try.prog w = .ok () w' ∧ MapV w' b (n + 1) (fun x => if x = k then some v else f x) ∧ w.grownBy w' (some b) := by
  obtain ⟨D, ho, hD⟩ := h
  obtain ⟨w', hrun, ho', hT⟩ := ho.store keyed3 ht hn (key3 hk) (d := .held v) (ps := []) rfl
  refine ⟨w', hrun, ⟨_, ho', fun x hx => ?_⟩, hT.grown⟩
  have hkl : WideAt.IsKeyLit (.int .i64 k) := by
    first | exact trivial | exact ⟨⟩ | simp [WideAt.IsKeyLit]
  by_cases e : x = k
  · subst e
    refine ⟨by rw [Maps.has_put_same ho.isMap hkl]; simp, fun u z hu => ?_⟩
    dsimp only at hu
    rw [if_pos rfl] at hu
    obtain rfl : v = u := by simpa using hu
    exact Maps.atKey_put_same ho.isMap hkl _ _
  · have hne : Lit.int .i64 x ≠ Lit.int .i64 k := fun h => e (by cases h; rfl)
    refine ⟨by dsimp only; rw [Maps.has_put_other hne, if_neg e]; exact (hD x hx).1, fun u z hu => ?_⟩
    dsimp only at hu
    rw [if_neg e] at hu
    rw [Maps.atKey_put_other hne]
    exact (hD x hx).2 u z hu
end Go.Proofs.Qxb6616313a
