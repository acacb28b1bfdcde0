/-
  The shared walks of the seat b6615084a: a search that the call itself makes, its field 'written' grown by append, the write at an index.
-/
import Derived.Test.Qxb6615084aProg
import Derived.WalkKit
import Derived.Deep.AppendLies
namespace Go.Proofs.Qxb6615084a
open Go.RowKit

theorem info64 : (Try.prog.info? 64).map (fun i => (i.zero, i.size, i.bytes)) = some (some (.agg #[.int .i64 0, .slice none 0 0]), 2, 32) := by kernel_rfl

/-- Block sb is a search whose field 'written' (cell 8) is a slice of n writes of the call's own, in blocks behind sb; their cells are xs. -/
structure Srch (w : World) (sb : Nat) (ao : Option Addr) (n cap : Nat) (xs : List Value) : Prop where
  lt : sb < w.heap.size
  cell : w.cell? ⟨sb, 8, none⟩ = some (.slice ao n cap)
  fro : w.frozen? ⟨sb, 8, none⟩ = false
  own : w.ownsRow (sb + 1) 64 2 (.slice ao n cap) n xs

theorem z62k : (Try.prog.built 62 []).bind (fun z => z[8]?) = some (.slice none 0 0) := by kernel_rfl
theorem z62 : ∃ Z : Array Value, Try.prog.built 62 [] = some Z ∧ Z[8]? = some (.slice none 0 0) := by
  have h := z62k
  cases hz : Try.prog.built 62 [] with
  | none => rw [hz] at h; cases h
  | some Z => rw [hz] at h; exact ⟨Z, rfl, h⟩

theorem wpList_built0 {P : Program} {ops : Array Oper} {rest : List Oper} {o : Oper} {a : Act} {w : World} {Q : Exit → Act → World → Prop} (hg : o.guard = none) (t : TypeId) (ho : o.op = .build t #[])
    (cells : Array Value) (hf : P.built t [] = some cells)
    (h : wpList P ops Q rest (a.put o.dst (.agg cells)) w) : wpList P ops Q (o :: rest) a w := by
  have hf' : P.built t ((#[] : Array (Nat × Operand)).map fun (i, x) => (i, a.eval x)).toList = some cells := by simpa using hf
  refine wpList_build hg t #[] ho (by rw [hf']; rfl) ?_
  rw [hf']; exact h

set_option maxHeartbeats 400000 in
theorem new_any (w : World) : Calls Try.prog 9 #[] w fun e w' =>
    e = .returned (.pointer (some ⟨w.heap.size, 0, none⟩)) ∧ Srch w' w.heap.size none 0 0 [] ∧ Below w.heap.size w w' := by
  obtain ⟨Z, hZ, hZ8⟩ := z62
  have HZ : Hid (Try.prog.built 62 [] = some Z) := hZ
  clear hZ
  go_enter Try.func9, Try.ntmps9
  go_wp2_with (refine wpList_built0 rfl 62 rfl Z HZ.out ?_)
  go_ret
  refine ⟨rfl, ⟨by simp, ?_, ?_, World.ownsRow_nil _ _ _ _⟩, (Below.refl _ _).alloc (Nat.le_refl _) _⟩
  · rw [World.cell?_alloc_at _ _ _ _ rfl]; exact hZ8
  · exact World.frozen?_alloc_at _ _ _ _ rfl

set_option maxHeartbeats 400000 in
theorem add_any (w : World) (sb : Nat) (ao : Option Addr) (n cap : Nat) (xs : List Value) (x : Int) (ra : Option Addr) (rl rc : Nat)
    (H : Srch w sb ao n cap xs) (hn : n ≤ 1048576) :
    Calls Try.prog 10 #[.pointer (some ⟨sb, 0, none⟩), .int .i64 x, .slice ra rl rc] w fun e w' =>
      e = .returned (.tuple #[]) ∧ Below sb w w' ∧ ∃ g cap', Srch w' sb (some ⟨g, 0, none⟩) (n + 1) cap' (xs ++ [.int .i64 x, .slice ra rl rc]) := by
  obtain ⟨hlt, hcell, hfro, hown⟩ := H
  obtain ⟨i0, hi, hz0, hz1, hz2⟩ := info_parts info64
  go_enter Try.func10, Try.ntmps10
  go_wp2_with (at_builtin; refine wpList_append_lies _ rfl _ _ 45 rfl (sb + 1) 64 i0 _ 2 32 Try.underlying45 hi hz0 hz1 hz2 rfl (by decide) _ n xs rfl (hown.alloc _) ⟨w.heap.size, 0, none⟩ 1 1 [.int .i64 x, .slice ra rl rc] rfl rfl ?c1 ?c2 (by decide) ?c3 ?c4 ?c5 (w.heap.size + 1) (by simp) ?c6)
  case c1 =>
    intro j u hj
    match j, hj with
    | 0, hj => simp at hj; subst hj; simp [Addr.add]
    | 1, hj => simp at hj; subst hj; simp [Addr.add]
  case c2 => intro u hu; simp at hu; rcases hu with rfl | rfl <;> rfl
  case c3 => unfold maxLen; omega
  case c4 => omega
  case c5 => simp; omega
  case c6 =>
    intro g cap' w1 hown1 hgrow hat hlt1
    have hne : some sb ≠ (Value.slice ao n cap).ownBlock := fun e => by have := (hown.lt sb e.symm).1; omega
    have hc1 : w1.cell? ⟨sb, 8, none⟩ = some (.slice ao n cap) := by
      rw [hgrow.cell_far ⟨sb, 8, none⟩ (by simp; omega) hne, World.cell?_alloc_past _ _ _ (by omega)]; exact hcell
    have hf1 : w1.frozen? ⟨sb, 8, none⟩ = false := by
      rw [hgrow.frozen_far ⟨sb, 8, none⟩ (by simp; omega) hne, World.frozen?_alloc_past _ _ _ (by omega)]; exact hfro
    have hsz : w.heap.size + 1 ≤ w1.heap.size := by have := hgrow.size; simpa using this
    have hb1 : Below sb w w1 := ((Below.refl sb w).alloc (by omega) _).grown hgrow (by simp; omega) (fun k hk => by have := (hown.lt k hk).1; omega)
    have A : Hid (w1.ownsRow (sb + 1) 64 2 (.slice (some ⟨g, 0, none⟩) (n + 1) cap') (n + 1) (xs ++ [.int .i64 x, .slice ra rl rc])) := hown1
    clear hown1 hgrow hat hown
    go_wp2
    go_end0
    exact ⟨rfl, hb1.setCell (Nat.le_refl _) _, g, cap', by simp; omega, World.cell?_setCell_same _ _ _ hc1, by simpa using hf1, ownsRow_setCell_below A.out (by simp) _⟩

/-- The writes' cells: the write at i lies at i * 2. -/
theorem Srch.lies {w : World} {sb : Nat} {ao : Option Addr} {n cap : Nat} {xs : List Value} (H : Srch w sb ao n cap xs) (hn : 0 < n) :
    ∃ g, ao = some ⟨g, 0, none⟩ ∧ sb < g ∧ g < w.heap.size ∧ ∀ j, w.frozen? ⟨g, j, none⟩ = false ∧ (j < n * 2 → w.cell? ⟨g, j, none⟩ = xs[j]?) := by
  have hown := H.own
  obtain ⟨g, cap2, hv, hb, hlt⟩ := hown.form hn
  simp only [Value.slice.injEq, true_and] at hv
  obtain ⟨rfl, rfl⟩ := hv
  exact ⟨g, rfl, hb, hlt, fun j => ⟨hown.frozenAt j, fun hj => hown.cellAt j hj⟩⟩

set_option maxHeartbeats 400000 in
theorem writeAt_any (w : World) (sb g n cap i : Nat) (hc : w.cell? ⟨sb, 8, none⟩ = some (.slice (some ⟨g, 0, none⟩) n cap)) (hi : i < n) :
    Calls Try.prog 17 #[.pointer (some ⟨sb, 0, none⟩), .int .i64 i] w fun e w' => e = .returned (.pointer (some ⟨g, i * 2, none⟩)) ∧ w = w' := by
  go_enter Try.func17, Try.ntmps17
  go_wp2
  go_ret
  exact ⟨rfl, rfl⟩

set_option maxHeartbeats 400000 in
theorem zzWriteAt_any (w : World) (sb g n cap i : Nat) (hc : w.cell? ⟨sb, 8, none⟩ = some (.slice (some ⟨g, 0, none⟩) n cap)) (hi : i < n) :
    Calls Try.prog 11 #[.pointer (some ⟨sb, 0, none⟩), .int .i64 i] w fun e w' => e = .returned (.pointer (some ⟨g, i * 2, none⟩)) ∧ w = w' := by
  go_enter Try.func11, Try.ntmps11
  go_wp2_with (go_at_call 17; refine (writeAt_any w sb g n cap i hc hi).mono ?_; rintro e w' ⟨rfl, rfl⟩)
  go_ret
  exact ⟨rfl, rfl⟩

set_option maxHeartbeats 400000 in
theorem writer_any (w : World) (g j : Nat) (x : Int) (hc : w.cell? ⟨g, j, none⟩ = some (.int .i64 x)) :
    Calls Try.prog 12 #[.pointer (some ⟨g, j, none⟩)] w fun e w' => e = .returned (.int .i64 x) ∧ w = w' := by
  go_enter Try.func12, Try.ntmps12
  go_wp2
  go_ret
  exact ⟨rfl, rfl⟩

set_option maxHeartbeats 400000 in
theorem readers_any (w : World) (g j : Nat) (ao : Option Addr) (l c : Nat) (hc : w.cell? ⟨g, j + 1, none⟩ = some (.slice ao l c)) :
    Calls Try.prog 14 #[.pointer (some ⟨g, j, none⟩)] w fun e w' => e = .returned (.slice ao l c) ∧ w = w' := by
  go_enter Try.func14, Try.ntmps14
  go_wp2
  go_ret
  exact ⟨rfl, rfl⟩

set_option maxHeartbeats 400000 in
theorem setWriter_any (w : World) (g j : Nat) (x y : Int) (hc : w.cell? ⟨g, j, none⟩ = some (.int .i64 y)) (hf : w.frozen? ⟨g, j, none⟩ = false) :
    Calls Try.prog 16 #[.pointer (some ⟨g, j, none⟩), .int .i64 x] w fun e w' => e = .returned (.tuple #[]) ∧ w' = w.setCell ⟨g, j, none⟩ (.int .i64 x) := by
  go_enter Try.func16, Try.ntmps16
  go_wp2
  go_end0
  exact ⟨rfl, rfl⟩

set_option maxHeartbeats 400000 in
theorem bytes15 (ao : Option Addr) (len cap : Nat) (a b c : Int) (w : World) (hl : len ≤ maxLen) :
    Calls Try.prog 15 #[.slice ao len cap, .int .i64 a, .int .i64 b, .int .i64 c] w fun e w' => e = .returned (.bool (decide (len ≤ 1048576))) ∧ w = w' := by
  unfold maxLen at hl
  by_cases h : len ≤ 1048576
  · have h1 : (len : Int) ≤ 1048576 := by omega
    go_enter Try.func15, Try.ntmps15
    go_wp2
    go_ret
    exact ⟨by simp [h], rfl⟩
  · have h1 : (1048576 : Int) < len := by omega
    go_enter Try.func15, Try.ntmps15
    go_wp2
    go_ret
    exact ⟨by simp [h], rfl⟩

end Go.Proofs.Qxb6615084a
