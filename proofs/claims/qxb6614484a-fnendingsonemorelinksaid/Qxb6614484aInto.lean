/-
  The rows that 'epsInto' builds: many slices of the call's own, each grown by append. Worlds and lists; no walk.
-/
import Derived.Test.Qxb6614484aRd
import Derived.Deep.AppendLies
namespace Go.Proofs.Qxb6614484a
open Go.RowKit

/-- The cells of a list of states. -/
def ids (l : List Nat) : List Value := l.map fun (r : Nat) => Value.int .i64 (r : Int)
theorem ids_snoc (l : List Nat) (q : Nat) : ids (l ++ [q]) = ids l ++ [.int .i64 (q : Int)] := by simp [ids]
theorem ids_length (l : List Nat) : (ids l).length = l.length := by simp [ids]

/-- Block w.heap.size is the outer row; its cell s is a slice of the call's own that holds the list I s; no two of them share a block. -/
structure Into (w : World) (n : Nat) (X : Nat → Option Addr) (K : Nat → Nat) (I : Nat → List Nat) (wr : World) : Prop where
  bel : Below w.heap.size w wr
  row : wr.rowIs w.heap.size 22 n (fun s => .slice (X s) (I s).length (K s))
  own : ∀ s, s < n → wr.ownsRow (w.heap.size + 1) 3 1 (.slice (X s) (I s).length (K s)) (I s).length (ids (I s))
  dist : ∀ s s' a a', s < n → s' < n → s ≠ s' → X s = some a → X s' = some a' → a.block ≠ a'.block

section
variable {w wr : World} {n : Nat} {X : Nat → Option Addr} {K : Nat → Nat} {I : Nat → List Nat}

theorem Into.start (w : World) (n : Nat) : Into w n (fun _ => none) (fun _ => 0) (fun _ => []) (w.alloc (.cells (madeCells #[.slice none 0 0] n) 22)) :=
  ⟨(Below.refl _ _).alloc (Nat.le_refl _) _, World.rowIs_made w _ n 22, fun s _ => World.ownsRow_nil _ _ _ _, fun s s' a a' _ _ _ h => by cases h⟩

theorem Into.alloc (h : Into w n X K I wr) (o : Obj) : Into w n X K I (wr.alloc o) :=
  ⟨h.bel.alloc h.bel.size _, h.row.alloc _, fun s hs => (h.own s hs).alloc _, h.dist⟩

theorem Into.cell (h : Into w n X K I wr) {s : Nat} (hs : s < n) : wr.cell? ⟨w.heap.size, s, none⟩ = some (.slice (X s) (I s).length (K s)) ∧ wr.frozen? ⟨w.heap.size, s, none⟩ = false :=
  ⟨h.row.cell hs, h.row.frozen s⟩

/-- An append onto slice t, and the store of the new slice. -/
theorem Into.push (h : Into w n X K I wr) {t q g cap : Nat} (ht : t < n) {o : Obj} {w1 : World}
    (hown : w1.ownsRow (w.heap.size + 1) 3 1 (.slice (some ⟨g, 0, none⟩) ((I t).length + 1) cap) ((I t).length + 1) (ids (I t) ++ [.int .i64 (q : Int)]))
    (hgrow : (wr.alloc o).grownBy w1 (Value.slice (X t) (I t).length (K t)).ownBlock) (hat : (Value.slice (X t) (I t).length (K t)).ownBlock = some g ∨ g = wr.heap.size + 1) :
    Into w n (fun s => if s = t then some ⟨g, 0, none⟩ else X s) (fun s => if s = t then cap else K s) (fun s => if s = t then I t ++ [q] else I s)
      (w1.setCell ⟨w.heap.size, t, none⟩ (.slice (some ⟨g, 0, none⟩) ((I t).length + 1) cap)) := by
  have ha := h.alloc o
  have hblk := (h.own t ht).lt
  have hB : w.heap.size < wr.heap.size := h.row.lt
  have hBne : some w.heap.size ≠ (Value.slice (X t) (I t).length (K t)).ownBlock := fun e => by have := (hblk _ e.symm).1; omega
  have hrow1 : w1.rowIs w.heap.size 22 n (fun s => .slice (X s) (I s).length (K s)) := ha.row.of_block (hgrow.block _ (by simp; omega) hBne)
  refine ⟨(ha.bel.grown hgrow (by simp; omega) fun k hk => by have := (hblk k hk).1; omega).setCell (Nat.le_refl _) _, ?_, fun s hs => ?_, fun s s' a a' hs hs' hne e e' => ?_⟩
  · refine (hrow1.set t _).congr fun s _ => ?_
    by_cases e : s = t
    · subst e; simp
    · simp [e]
  · by_cases e : s = t
    · subst e
      simp only [if_true]
      rw [List.length_append, List.length_singleton, ids_snoc]
      exact ownsRow_setCell_below hown (by simp) _
    · simp only [if_neg e]
      refine ownsRow_setCell_below ((ha.own s hs).kept hgrow ?_) (by simp) _
      cases hX : X s with
      | none => exact .inl rfl
      | some a =>
        right
        cases hT : X t with
        | none => simp [Value.ownBlock]
        | some a' =>
          simp only [Value.ownBlock, ne_eq, Option.some.injEq]
          exact h.dist s t a a' hs ht e hX hT
  · have hnew : ∀ u a, u < n → u ≠ t → X u = some a → a.block ≠ g := by
      intro u a hu hut hXu hag
      rcases hat with hat | hat
      · cases hT : X t with
        | none => rw [hT] at hat; simp [Value.ownBlock] at hat
        | some a' =>
          rw [hT] at hat
          simp only [Value.ownBlock, Option.some.injEq] at hat
          exact h.dist u t a a' hu ht hut hXu hT (by rw [hag, hat])
      · have := (h.own u hu).lt a.block (by rw [hXu]; rfl)
        omega
    by_cases e1 : s = t
    · by_cases e2 : s' = t
      · exact absurd (e1.trans e2.symm) hne
      · simp only [e1, if_true, Option.some.injEq] at e
        simp only [if_neg e2] at e'
        subst e
        exact fun hb => hnew s' a' hs' e2 e' hb.symm
    · simp only [if_neg e1] at e
      by_cases e2 : s' = t
      · simp only [e2, if_true, Option.some.injEq] at e'
        subst e'
        exact fun hb => hnew s a hs e1 e hb
      · simp only [if_neg e2] at e'
        exact h.dist s s' a a' hs hs' hne e e'

/-- What the rows read as. -/
theorem Into.rows (h : Into w n X K I wr) : RowsIn wr w.heap.size 0 n X (fun s => (I s).length) K (fun s j => (((I s).getD j 0 : Nat) : Int)) := by
  intro s hs
  refine ⟨by rw [Nat.zero_add]; exact h.row.cell hs, ?_⟩
  rcases Nat.eq_zero_or_pos (I s).length with h0 | hpos
  · exact .inl h0
  · have ho := h.own s hs
    obtain ⟨g, cap, hv, _, _⟩ := ho.form hpos
    simp only [Value.slice.injEq, true_and] at hv
    obtain ⟨hx, _⟩ := hv
    refine .inr ⟨g, 0, hx, fun j hj => ?_⟩
    have hj' : j < (I s).length := hj
    rw [hx] at ho
    rw [Nat.zero_add, ho.cellAt j (by omega)]
    simp [ids, hj']
end

/-- A bound on a row's length. -/
def bigM : Nat := 200000

/-- Which states stand in which list, when the rows below q and the first j links of row q are done. -/
structure Mem (n : Nat) (L : Nat → Nat) (E : Nat → Nat → Nat) (q j : Nat) (I : Nat → List Nat) : Prop where
  mem : ∀ s, s < n → ∀ r, r ∈ I s ↔ (r < q ∧ ∃ i, i < L r ∧ E r i = s) ∨ (r = q ∧ ∃ i, i < j ∧ E q i = s)
  len : ∀ s, s < n → (I s).length ≤ q * bigM + j

section
variable {n q j : Nat} {L : Nat → Nat} {E : Nat → Nat → Nat} {I : Nat → List Nat}

theorem Mem.start : Mem n L E 0 0 (fun _ => []) :=
  ⟨fun s _ r => by
    constructor
    · intro h; cases h
    · rintro (⟨h, _⟩ | ⟨_, i, hi, _⟩) <;> omega, fun s _ => by simp⟩

theorem Mem.step (h : Mem n L E q j I) {t : Nat} (he : E q j = t) : Mem n L E q (j + 1) (fun s => if s = t then I t ++ [q] else I s) := by
  refine ⟨fun s hs r => ?_, fun s hs => ?_⟩
  · by_cases e : s = t
    · subst e
      simp only [if_true, List.mem_append, List.mem_singleton]
      rw [h.mem s hs r]
      constructor
      · rintro ((h1 | ⟨h1, i, hi, h2⟩) | h1)
        · exact .inl h1
        · exact .inr ⟨h1, i, by omega, h2⟩
        · exact .inr ⟨h1, j, by omega, he⟩
      · rintro (h1 | ⟨h1, i, hi, h2⟩)
        · exact .inl (.inl h1)
        · exact .inr h1
    · simp only [if_neg e]
      rw [h.mem s hs r]
      constructor
      · rintro (h1 | ⟨h1, i, hi, h2⟩)
        · exact .inl h1
        · exact .inr ⟨h1, i, by omega, h2⟩
      · rintro (h1 | ⟨h1, i, hi, h2⟩)
        · exact .inl h1
        · rcases Nat.lt_or_ge i j with h3 | h3
          · exact .inr ⟨h1, i, h3, h2⟩
          · obtain rfl : i = j := by omega
            exact absurd (h2.symm.trans he) e
  · by_cases e : s = t
    · subst e
      simp only [if_true, List.length_append, List.length_singleton]
      have := h.len s hs
      omega
    · simp only [if_neg e]
      have := h.len s hs
      omega

theorem Mem.next (h : Mem n L E q (L q) I) (hl : L q ≤ bigM) : Mem n L E (q + 1) 0 I := by
  refine ⟨fun s hs r => ?_, fun s hs => by
    have := h.len s hs
    rw [Nat.succ_mul]
    omega⟩
  rw [h.mem s hs r]
  constructor
  · rintro (⟨h1, h2⟩ | ⟨rfl, h2⟩)
    · exact .inl ⟨by omega, h2⟩
    · exact .inl ⟨by omega, h2⟩
  · rintro (⟨h1, h2⟩ | ⟨_, i, hi, _⟩)
    · rcases Nat.lt_or_ge r q with h3 | h3
      · exact .inl ⟨h3, h2⟩
      · obtain rfl : r = q := by omega
        exact .inr ⟨rfl, h2⟩
    · omega

theorem Mem.turned (h : Mem n L E n 0 I) : Turned n L E (fun s => (I s).length) (fun s j => (I s).getD j 0) := by
  intro s hs r
  have hm := h.mem s hs r
  constructor
  · rintro ⟨j, hj, e⟩
    have hj' : j < (I s).length := hj
    have e' : (I s).getD j 0 = r := e
    have : r ∈ I s := by rw [← e', List.getD_eq_getElem?_getD, List.getElem?_eq_getElem hj']; simp
    rcases hm.1 this with h1 | ⟨_, i, hi, _⟩
    · exact h1
    · omega
  · intro h1
    have : r ∈ I s := hm.2 (.inl h1)
    obtain ⟨j, hj, e⟩ := List.getElem_of_mem this
    exact ⟨j, hj, by show (I s).getD j 0 = r; rw [List.getD_eq_getElem?_getD, List.getElem?_eq_getElem hj]; simpa using e⟩

theorem Mem.lt (h : Mem n L E n 0 I) : ∀ s, s < n → ∀ j, j < (I s).length → (I s).getD j 0 < n := by
  intro s hs j hj
  have := (h.turned s hs ((I s).getD j 0)).1 ⟨j, hj, rfl⟩
  exact this.1
end

end Go.Proofs.Qxb6614484a
