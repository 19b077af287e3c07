/- WHAT A CLONED SLICE READS; THE CONTRACTS AT LENGTHS. -/
import Derived.Test.Qxb6616079aBase
import Derived.Laws.CopyOwn
import Derived.Deep.OwnRows
import Derived.WalkSpells
namespace Go.Proofs.Qxb6616079a
open Go.ChangeShapes Go.WideShapes Go.ChangeAt Go.RowKit
set_option linter.unusedVariables false

/-- the cells of a slice that came in: the first 'xs.length' of them -/
def Src (w : World) (x : Addr) (xs : List Int) : Prop :=
  (∀ n ∈ xs, 0 ≤ n ∧ n ≤ 255) ∧ ∀ i, i < xs.length → w.cell? (x.add i) = some (.int .u8 (xs.getD i 0))

theorem block_lt {w : World} {p : Addr} {v : Value} (h : w.cell? p = some v) : p.block < w.heap.size := by
  by_cases hb : p.block < w.heap.size
  · exact hb
  · have e : w.heap[p.block]? = none := Array.getElem?_eq_none (by omega)
    simp [World.cell?, e] at h

theorem add_block (x : Addr) (i : Nat) : (x.add i).block = x.block := by unfold Addr.add; split <;> rfl

theorem Src.below {w w' : World} {x : Addr} {xs : List Int} (h : Src w x xs) (hb : Below w.heap.size w w') : Src w' x xs :=
  ⟨h.1, fun i hi => by rw [hb.cell (block_lt (h.2 i hi))]; exact h.2 i hi⟩

theorem Src.rd {w : World} {x : Addr} {xs : List Int} (h : Src w x xs) : Rd w (some x) xs := by
  refine ⟨h.1, ?_⟩
  cases hx : xs with
  | nil => exact .inl rfl
  | cons y ys =>
    right
    have h0 := h.2 0 (by simp [hx])
    obtain ⟨b, off, rfl, hc⟩ := ints_at (a := x) (zs := xs) (w := w) h.2 (by simp [hx])
    exact ⟨b, off, rfl, by rw [← hx]; exact hc⟩

theorem Rd.below {w w' : World} {a : Option Addr} {xs : List Int} (h : Rd w a xs) (hb : Below w.heap.size w w') : Rd w' a xs := by
  refine ⟨h.1, ?_⟩
  rcases h.2 with h | ⟨b, off, e, hc⟩
  · exact .inl h
  · exact .inr ⟨b, off, e, fun j hj => by rw [hb.cell (block_lt (hc j hj))]; exact hc j hj⟩

/-- a row that the call made reads its numbers -/
theorem rd_row {w : World} {g : Nat} {xs : List Int} {t : TypeId} (hx : ∀ n ∈ xs, 0 ≤ n ∧ n ≤ 255) (h : w.heap[g]? = some (.cells (xs.map (Value.int .u8)).toArray t (0, 0))) : Rd w (some ⟨g, 0, none⟩) xs := by
  refine ⟨hx, .inr ⟨g, 0, rfl, fun j hj => ?_⟩⟩
  simp [World.cell?, h, hj]

theorem rd_nil (w : World) : Rd w none [] := ⟨fun n hn => by simp at hn, .inl rfl⟩

theorem splice_all {α : Type} (L cs : List α) (h : L.length = cs.length) : splice L 0 cs = cs := by
  simp [splice, ← h]
theorem info5 : (Try.prog.info? 5).map (fun i => (i.zero, i.size, i.bytes)) = some (some (.int .u8 0), 1, 1) := by kernel_rfl
theorem size5 : (Try.prog.info? 5).map (·.size) = some 1 := by kernel_rfl

/-- 'copy(zzc, a)' behind 'zzc := make([]byte, len(a))': the new row reads a's bytes; nothing older has turned. -/
theorem wpList_clone {w : World} {ops : Array Oper} {rest : List Oper} {o : Oper} {a : Act} {Q : Exit → Act → World → Prop} (hgd : o.guard = none) (d s : Operand)
    (ho : o.op = .call { callee := .builtin .copy, args := #[d, s], argTypes := #[22, 22] }) (n c : Nat) (x : Addr) (xs : List Int) (hx : Src w x xs) (hn : xs.length = n)
    (hd : a.eval d = .slice (some ⟨w.heap.size, 0, none⟩) n n) (hs : a.eval s = .slice (some x) n c)
    (h : ∀ w', Below w.heap.size w w' → Rd w' (some ⟨w.heap.size, 0, none⟩) xs → wpList Try.prog ops Q rest (a.put o.dst (goInt n)) w') :
    wpList Try.prog ops Q (o :: rest) a (w.alloc (.cells (madeCells #[.int .u8 0] n) 5)) := by
  have hb : Below w.heap.size w (w.alloc (.cells (madeCells #[.int .u8 0] n) 5)) := (Below.refl _ _).alloc (Nat.le_refl _) _
  have hx' := hx.below hb
  refine wpList_copy_splice hgd d s 22 22 ho 5 Try.underlying22 size5 _ _ n n n c hd hs w.heap.size 0 (List.replicate n (.int .u8 0)) 5 ?_ (xs.map (Value.int .u8)) ?_ ?_ ?_ ?_ w.heap.size w hb (Nat.le_refl _) ?_
  · rw [heap_alloc_new, ← toList_madeCells_one]
  · simp [hn]
  · intro _
    refine ⟨rfl, x, rfl, fun j v hj => ?_⟩
    simp only [List.getElem?_map, Option.map_eq_some_iff] at hj
    obtain ⟨y, hy, rfl⟩ := hj
    have hjl : j < xs.length := (List.getElem?_eq_some_iff.1 hy).1
    rw [hx'.2 j hjl, List.getD_eq_getElem?_getD, hy]
    rfl
  · simp [hn]
  · intro v hv
    simp only [List.mem_map] at hv
    obtain ⟨y, _, rfl⟩ := hv
    rfl
  · intro w' H hb'
    have H' := H.out
    rw [splice_all _ _ (by simp [hn])] at H'
    have := h w' hb' (rd_row hx.1 H')
    simpa [hn] using this

set_option maxHeartbeats 400000 in
theorem bytes_any (a0 : Option Addr) (len0 cap0 : Nat) (a1 : Option Addr) (len1 cap1 : Nat) (w : World) (h0 : len0 ≤ 9223372036854775807) (h1 : len1 ≤ 9223372036854775807) :
    Calls Try.prog 5 #[.slice a0 len0 cap0, .slice a1 len1 cap1] w fun e w' => e = .returned (.bool (decide (len0 + len1 ≤ 1048576))) ∧ w' = w := by
  by_cases c : len0 ≤ 1048576
  · by_cases c1 : len1 ≤ 1048576
    · by_cases c2 : len0 + len1 ≤ 1048576
      · go_enter Try.func5, Try.ntmps5
        go_wp2
        go_ret
        exact ⟨by simp [c2], rfl⟩
      · go_enter Try.func5, Try.ntmps5
        go_wp2
        go_ret
        exact ⟨by simp [c2], rfl⟩
    · have c2 : ¬ (len0 + len1 ≤ 1048576) := by omega
      go_enter Try.func5, Try.ntmps5
      go_wp2
      go_ret
      exact ⟨by simp [c2], rfl⟩
  · have c2 : ¬ (len0 + len1 ≤ 1048576) := by omega
    go_enter Try.func5, Try.ntmps5
    go_wp2
    go_ret
    exact ⟨by simp [c2], rfl⟩

set_option maxHeartbeats 400000 in
theorem bytes_any8 (a0 : Option Addr) (len0 cap0 : Nat) (a1 : Option Addr) (len1 cap1 : Nat) (w : World) (h0 : len0 ≤ 9223372036854775807) (h1 : len1 ≤ 9223372036854775807) :
    Calls Try.prog 8 #[.slice a0 len0 cap0, .slice a1 len1 cap1] w fun e w' => e = .returned (.bool (decide (len0 + len1 ≤ 1048576))) ∧ w' = w := by
  by_cases c : len0 ≤ 1048576
  · by_cases c1 : len1 ≤ 1048576
    · by_cases c2 : len0 + len1 ≤ 1048576
      · go_enter Try.func8, Try.ntmps8
        go_wp2
        go_ret
        exact ⟨by simp [c2], rfl⟩
      · go_enter Try.func8, Try.ntmps8
        go_wp2
        go_ret
        exact ⟨by simp [c2], rfl⟩
    · have c2 : ¬ (len0 + len1 ≤ 1048576) := by omega
      go_enter Try.func8, Try.ntmps8
      go_wp2
      go_ret
      exact ⟨by simp [c2], rfl⟩
  · have c2 : ¬ (len0 + len1 ≤ 1048576) := by omega
    go_enter Try.func8, Try.ntmps8
    go_wp2
    go_ret
    exact ⟨by simp [c2], rfl⟩

theorem compare_len (a a' : Option Addr) (l0 l1 ca cb : Nat) (xs ys : List Int) (w : World) (ha : Rd w a xs) (ha' : Rd w a' ys) (e0 : xs.length = l0) (e1 : ys.length = l1) :
    Calls Try.prog 6 #[.slice a l0 ca, .slice a' l1 cb] w fun e w' => e = .returned (.int .i64 (lex xs ys)) ∧ w' = w := by
  subst e0 e1
  exact compare_any a a' ca cb xs ys w ha ha'
theorem lexSign_len (a a' : Option Addr) (l0 l1 ca cb : Nat) (xs ys : List Int) (w : World) (hx : l0 ≤ 9223372036854775807) (hy : l1 ≤ 9223372036854775807) (ha : Rd w a xs) (ha' : Rd w a' ys) (e0 : xs.length = l0) (e1 : ys.length = l1) :
    Calls Try.prog 7 #[.slice a l0 ca, .slice a' l1 cb] w fun e w' => e = .returned (.int .i64 (lex xs ys)) ∧ ∃ n, w' = w.drewN n := by
  subst e0 e1
  exact lexSign_any a a' ca cb xs ys w hx hy ha ha'
theorem lex_bd : ∀ xs ys : List Int, -1 ≤ lex xs ys ∧ lex xs ys ≤ 1
  | [], [] => by simp [lex]
  | [], _ :: _ => by simp [lex]
  | _ :: _, [] => by simp [lex]
  | x :: xs, y :: ys => by
    have := lex_bd xs ys
    unfold lex
    split
    · omega
    · split
      · omega
      · exact this
theorem lex_anti : ∀ xs ys : List Int, lex ys xs = - lex xs ys
  | [], [] => by simp [lex]
  | [], _ :: _ => by simp [lex]
  | _ :: _, [] => by simp [lex]
  | x :: xs, y :: ys => by
    have ih := lex_anti xs ys
    unfold lex
    by_cases h1 : x < y
    · have h2 : ¬ y < x := by omega
      simp [h1, h2]
    · by_cases h2 : y < x
      · simp [h1, h2]
      · simp [h1, h2, ih]

end Go.Proofs.Qxb6616079a
