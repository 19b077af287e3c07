/- zzClock; WHAT A CLOCK READS. -/
import Derived.Test.Qxb6616313aShape
namespace Go.Proofs.Qxb6616313a
open Go.ChangeShapes Go.WideShapes Go.ChangeAt Go.RowKit
set_option linter.unusedVariables false

theorem infoE : (Try.prog.info? 64).map (fun i => (i.zero, i.size, i.bytes)) = some (some (.agg #[.int .i64 0, .int .u64 0]), 2, 16) := by kernel_rfl
theorem make_gen {P : Program} (t e : TypeId) (z : Value) (size bytes : Nat) (ht : P.underlying t = some (.slice e)) (hinfo : (P.info? e).map (fun i => (i.zero, i.size, i.bytes)) = some (some z, size, bytes))
    (n : Nat) (hbytes : bytes * n ≤ 281474976710656) (h63 : n ≤ 9223372036854775807) (w : World) :
    (Instr.makeSlice t (.int .i64 (n : Int)) (.int .i64 (n : Int))).run P w = .ok (.slice (some ⟨w.heap.size, 0, none⟩) n n) (w.alloc (.cells (madeCells z.cells (n * size)) e)) := by
  obtain ⟨i, hi, hzz⟩ := Option.map_eq_some_iff.1 hinfo
  simp only [Prod.mk.injEq] at hzz
  obtain ⟨hz, hs, hb⟩ := hzz
  have hb' : (i.bytes : Int) * (n : Int) ≤ 281474976710656 := by
    have h : ((i.bytes * n : Nat) : Int) ≤ 281474976710656 := by rw [hb]; omega
    rwa [Int.natCast_mul] at h
  have hr := run_make (P := P) w t e i z ht hi hz .i64 .i64 n n (by omega) (Int.le_refl _) hb' (by omega)
  simp only [Int.toNat_natCast, hs] at hr
  exact hr

/-- a row of entries, the first k of them known -/
def RowE (w : World) (g : Nat) (T : TypeId) (n : Nat) (hs cs : List Int) (k : Nat) : Prop :=
  ∃ C : Array Value, w.heap[g]? = some (.cells C T (0, 0)) ∧ C.size = n * 2 ∧ ∀ j, j < k → C[j * 2]? = some (.int .i64 (hs.getD j 0)) ∧ C[j * 2 + 1]? = some (.int .u64 (cs.getD j 0))
theorem RowE.there {w : World} {g : Nat} {T : TypeId} {n : Nat} {hs cs : List Int} {k : Nat} (h : RowE w g T n hs cs k) {i : Nat} (hi : i < n * 2) : ∃ v, w.cell? ⟨g, i, none⟩ = some v := by
  obtain ⟨C, hC, hz, _⟩ := h
  exact ⟨C[i]'(by omega), by simp [World.cell?, hC, hz, hi]⟩
theorem RowE.thawed {w : World} {g : Nat} {T : TypeId} {n : Nat} {hs cs : List Int} {k : Nat} (h : RowE w g T n hs cs k) (i : Nat) : w.frozen? ⟨g, i, none⟩ = false := by
  obtain ⟨C, hC, hz, _⟩ := h
  simp [World.frozen?, hC]

theorem cell_set_ne (w : World) {p q : Addr} (v : Value) (h : p.block ≠ q.block) : (w.setCell q v).cell? p = w.cell? p := World.cell?_of_block (w := w) (Below.heap_setCell w q v p.block h)
theorem RowE.step {w : World} {g : Nat} {T : TypeId} {n : Nat} {hs cs : List Int} {k : Nat} (h : RowE w g T n hs cs k) (hk : k < n) {v u : Int} (hv : hs.getD k 0 = v) (hu : cs.getD k 0 = u) :
    RowE ((w.setCell ⟨g, k * 2, none⟩ (.int .i64 v)).setCell ⟨g, k * 2 + 1, none⟩ (.int .u64 u)) g T n hs cs (k + 1) := by
  obtain ⟨C, hC, hz, hj⟩ := h
  have h1 : (w.setCell ⟨g, k * 2, none⟩ (.int .i64 v)).heap[g]? = some (.cells (C.setIfInBounds (k * 2) (.int .i64 v)) T (0, 0)) := by
    rw [setCell_eq_setRow w g (k * 2) C T (0, 0) _ hC, setRow_heap w g C _ T _ hC]
  refine ⟨(C.setIfInBounds (k * 2) (.int .i64 v)).setIfInBounds (k * 2 + 1) (.int .u64 u), ?_, by simp [hz], fun j hjk => ?_⟩
  · rw [setCell_eq_setRow _ g (k * 2 + 1) _ T (0, 0) _ h1, setRow_heap _ g _ _ T _ h1]
  · by_cases e : j = k
    · subst e
      rw [hv, hu]
      refine ⟨?_, ?_⟩
      · rw [Array.getElem?_setIfInBounds_ne (by omega), Array.getElem?_setIfInBounds_self_of_lt (by omega)]
      · rw [Array.getElem?_setIfInBounds_self_of_lt (by simp; omega)]
    · refine ⟨?_, ?_⟩
      · rw [Array.getElem?_setIfInBounds_ne (by omega), Array.getElem?_setIfInBounds_ne (by omega)]; exact (hj j (by omega)).1
      · rw [Array.getElem?_setIfInBounds_ne (by omega), Array.getElem?_setIfInBounds_ne (by omega)]; exact (hj j (by omega)).2
theorem RowE.drew {w : World} {g : Nat} {T : TypeId} {n : Nat} {hs cs : List Int} {k : Nat} (h : RowE w g T n hs cs k) : RowE w.drew g T n hs cs k := h

set_option maxHeartbeats 1000000 in
theorem clock_any (a a' : Option Addr) (n c c' : Nat) (hs cs : List Int) (w : World) (hn : n ≤ 1048576) (HN : Hid (hs.length = n)) (HM : Hid (cs.length = n)) (ha : Hid (RdI w a hs)) (ha' : Hid (RdU w a' cs)) :
    Calls Try.prog 24 #[.slice a n c, .slice a' n c'] w fun e w' => e = .returned (.slice (some ⟨w.heap.size, 0, none⟩) n n) ∧ Below w.heap.size w w' ∧ RowE w' w.heap.size 64 n hs cs n := by
  have hmk := make_gen (P := Try.prog) 52 64 _ 2 16 Try.underlying52 infoE n (by omega) (by omega)
  go_enter Try.func24, Try.ntmps24
  go_wp2
  go_loopw [6] (fun i wr => ∃ k : Nat, k ≤ n ∧ i = .int .i64 k ∧ Hid (RowE wr w.heap.size 64 n hs cs k) ∧ Below w.heap.size w wr) (fun i _ => n - (intOf i).toNat)
  case atStart =>
    exact ⟨0, Nat.zero_le _, rfl, ⟨_, heap_alloc_new _ _, size_madeCells _ _, fun j hj => by omega⟩, (Below.refl _ _).alloc (Nat.le_refl _) _⟩
  case round =>
    obtain ⟨k, hk1, rfl, HR, hbl⟩ := hrel
    by_cases h1 : k < n
    · obtain ⟨b, off, v, rfl, hc0, HV⟩ := ha.out.atv HN.out h1
      obtain ⟨b', off', u, rfl, hd0, HU⟩ := ha'.out.atv HM.out h1
      have hc := below_some hbl hc0
      have hd := below_some hbl hd0
      obtain ⟨v0, g0⟩ := HR.out.there (i := k * 2) (by omega)
      obtain ⟨v1, g1⟩ := HR.out.there (i := k * 2 + 1) (by omega)
      have f0 := HR.out.thawed (k * 2)
      have f1 := HR.out.thawed (k * 2 + 1)
      have i1 : (k : Int) < (n : Int) := by omega
      have nb : b < w.heap.size := block_lt hc0
      have nb' : b' < w.heap.size := block_lt hd0
      have k1 : ∀ x y, ((wr.setCell ⟨w.heap.size, k * 2, none⟩ x).setCell ⟨w.heap.size, k * 2 + 1, none⟩ y).cell? ⟨b, off + k, none⟩ = some (.int .i64 v) := fun x y => by
        rw [cell_set_ne _ _ (by simp; omega), cell_set_ne _ _ (by simp; omega)]; exact hc
      have k2 : ∀ x y, ((wr.setCell ⟨w.heap.size, k * 2, none⟩ x).setCell ⟨w.heap.size, k * 2 + 1, none⟩ y).cell? ⟨b', off' + k, none⟩ = some (.int .u64 u) := fun x y => by
        rw [cell_set_ne _ _ (by simp; omega), cell_set_ne _ _ (by simp; omega)]; exact hd
      have HS : Hid (RowE ((wr.setCell ⟨w.heap.size, k * 2, none⟩ (.int .i64 v)).setCell ⟨w.heap.size, k * 2 + 1, none⟩ (.int .u64 u)) w.heap.size 64 n hs cs (k + 1)) := HR.out.step h1 HV.out HU.out
      clear hc0 hd0 nb nb'
      go_wp2
      go_region_held3 (fun w' => w'.cell? ⟨b, off + k, none⟩ = some (.int .i64 v) ∧ w'.cell? ⟨b', off' + k, none⟩ = some (.int .u64 u)) (go_keep) (fail)
      go_wp2
      go_roundw
      case rel => exact ⟨k + 1, by omega, by go_num, HS.out, ((hbl.setCell (Nat.le_refl _) _).setCell (Nat.le_refl _) _).drew⟩
      case measure => simp [intOf]; omega
    · have hkL : k = n := by omega
      have HE : Hid (RowE wr w.heap.size 64 n hs cs n) := by
        have := HR.out
        rw [hkL] at this
        exact this
      clear hkL
      go_wp2
      go_ret
      exact ⟨rfl, hbl, HE.out⟩

/-- the slice at 'a' reads the entries (hs, cs) -/
def RdE (w : World) (a : Option Addr) (hs cs : List Int) : Prop :=
  hs.length = cs.length ∧ (hs = [] ∨ ∃ b off, a = some ⟨b, off, none⟩ ∧ ∀ j, j < hs.length → w.cell? ⟨b, off + j * 2, none⟩ = some (.int .i64 (hs.getD j 0)) ∧ w.cell? ⟨b, off + j * 2 + 1, none⟩ = some (.int .u64 (cs.getD j 0)))
theorem RdE.atv {w : World} {a : Option Addr} {hs cs : List Int} (h : RdE w a hs cs) {k n : Nat} (hn : hs.length = n) (hk : k < n) :
    ∃ b off v u, a = some ⟨b, off, none⟩ ∧ w.cell? ⟨b, off + k * 2, none⟩ = some (.int .i64 v) ∧ w.cell? ⟨b, off + k * 2 + 1, none⟩ = some (.int .u64 u) ∧ Hid (hs.getD k 0 = v) ∧ Hid (cs.getD k 0 = u) := by
  rcases h.2 with he | ⟨b, off, e, hc⟩
  · subst he; simp at hn; omega
  · exact ⟨b, off, _, _, e, (hc k (by omega)).1, (hc k (by omega)).2, rfl, rfl⟩
theorem RdE.below {w w' : World} {a : Option Addr} {hs cs : List Int} (h : RdE w a hs cs) (hb : Below w.heap.size w w') : RdE w' a hs cs := by
  refine ⟨h.1, ?_⟩
  rcases h.2 with he | ⟨b, off, e, hc⟩
  · exact .inl he
  · exact .inr ⟨b, off, e, fun j hj => ⟨below_some hb (hc j hj).1, below_some hb (hc j hj).2⟩⟩
theorem RdE.drewN {w : World} {a : Option Addr} {hs cs : List Int} (h : RdE w a hs cs) (n : Nat) : RdE (w.drewN n) a hs cs := h
theorem RowE.rd {w : World} {g : Nat} {T : TypeId} {n : Nat} {hs cs : List Int} (h : RowE w g T n hs cs n) (hn : hs.length = n) (hm : cs.length = n) : RdE w (some ⟨g, 0, none⟩) hs cs := by
  obtain ⟨C, hC, hz, hj⟩ := h
  refine ⟨by omega, .inr ⟨g, 0, rfl, fun j hjl => ?_⟩⟩
  have := hj j (by omega)
  simp only [World.cell?, hC, Nat.zero_add]
  exact ⟨this.1, this.2⟩
end Go.Proofs.Qxb6616313a
