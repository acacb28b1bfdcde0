/-
  The rows with one link more: what 'eps2' reads as. Worlds and lists; no walk.
-/
import Derived.Test.Qxb6614484aEnd
import Derived.Laws.CopyOwn
namespace Go.Proofs.Qxb6614484a
open Go.RowKit

/-- The cells of a row of ints. -/
def ints (l : Nat) (Z : Nat → Int) : List Value := (List.range l).map fun j => Value.int .i64 (Z j)
theorem ints_len (l : Nat) (Z : Nat → Int) : (ints l Z).length = l := by simp [ints]
theorem ints_one (l : Nat) (Z : Nat → Int) : ∀ u ∈ ints l Z, u.oneCell' = true := by
  intro u hu; simp [ints] at hu; obtain ⟨j, _, rfl⟩ := hu; rfl
theorem ints_get {l : Nat} {Z : Nat → Int} {j : Nat} (h : j < l) : (ints l Z)[j]? = some (.int .i64 (Z j)) := by simp [ints, h]
theorem ints_some {l : Nat} {Z : Nat → Int} {j : Nat} {u : Value} (h : (ints l Z)[j]? = some u) : j < l ∧ u = .int .i64 (Z j) := by
  have hj : j < l := by
    obtain ⟨h', _⟩ := List.getElem?_eq_some_iff.1 h
    rwa [ints_len] at h'
  rw [ints_get hj] at h
  exact ⟨hj, (Option.some.inj h).symm⟩

theorem RowAt.news {w : World} {a : Option Addr} {l : Nat} {Z : Nat → Int} (h : RowAt w a l Z) : ∀ ad, a = some ad → ∀ j u, (ints l Z)[j]? = some u → w.cell? (ad.add j) = some u := by
  intro ad ha j u hu
  obtain ⟨hj, rfl⟩ := ints_some hu
  rcases h with h | ⟨b, off, h1, h2⟩
  · omega
  · rw [h1] at ha
    cases ha
    rw [Go.WideShapes.add_plain]
    exact h2 j hj

/-- The headers of n rows. -/
def hdrs (n : Nat) (A : Nat → Option Addr) (L C : Nat → Nat) : List Value := (List.range n).map fun r => Value.slice (A r) (L r) (C r)
theorem hdrs_len (n : Nat) (A : Nat → Option Addr) (L C : Nat → Nat) : (hdrs n A L C).length = n := by simp [hdrs]
theorem hdrs_one (n : Nat) (A : Nat → Option Addr) (L C : Nat → Nat) : ∀ u ∈ hdrs n A L C, u.oneCell' = true := by
  intro u hu; simp [hdrs] at hu; obtain ⟨j, _, rfl⟩ := hu; rfl
theorem hdrs_some {n : Nat} {A : Nat → Option Addr} {L C : Nat → Nat} {j : Nat} {u : Value} (h : (hdrs n A L C)[j]? = some u) : j < n ∧ u = .slice (A j) (L j) (C j) := by
  have hj : j < n := by
    obtain ⟨h', _⟩ := List.getElem?_eq_some_iff.1 h
    rwa [hdrs_len] at h'
  simp [hdrs, hj] at h
  exact ⟨hj, h.symm⟩

theorem splice_all {α : Type} (X cs : List α) (h : cs.length = X.length) : splice X 0 cs = cs := by simp [splice, h]

def A2 (A : Nat → Option Addr) (q0 B3 : Nat) : Nat → Option Addr := fun r => if r = q0 then some ⟨B3, 0, none⟩ else A r
def C2 (L C : Nat → Nat) (q0 : Nat) : Nat → Nat := fun r => if r = q0 then L q0 + 1 else C r
def Z2 (L : Nat → Nat) (Z : Nat → Nat → Int) (q0 : Nat) (p0 : Int) : Nat → Nat → Int := fun r j => if r = q0 ∧ j = L q0 then p0 else Z r j

theorem rows7 {w2 w3 w5 w6 : World} {b off n q0 : Nat} {A : Nat → Option Addr} {L C : Nat → Nat} {Z : Nat → Nat → Int} {p0 : Int} (hq : q0 < n) (o4 o5 : Obj)
    (HR : RowsIn w2 b off n A L C Z) (h3 : w3.heap[w2.heap.size]? = some (.cells (hdrs n A L C).toArray 22 (0, 0))) (b3 : Below w2.heap.size w2 w3)
    (g4 : (w3.alloc o4).grownBy w5 (some w3.heap.size))
    (own6 : w6.ownsRow (w2.heap.size + 1) 3 1 (.slice (some ⟨w3.heap.size, 0, none⟩) (L q0 + 1) (L q0 + 1)) (L q0 + 1) (ints (L q0) (Z q0) ++ [.int .i64 p0])) (g5 : (w5.alloc o5).grownBy w6 (some w3.heap.size)) :
    RowsIn (w6.setCell ⟨w2.heap.size, q0, none⟩ (.slice (some ⟨w3.heap.size, 0, none⟩) (L q0 + 1) (L q0 + 1))) w2.heap.size 0 n (A2 A q0 w3.heap.size) (L2 L q0) (C2 L C q0) (Z2 L Z q0 p0) ∧
      Below w2.heap.size w2 (w6.setCell ⟨w2.heap.size, q0, none⟩ (.slice (some ⟨w3.heap.size, 0, none⟩) (L q0 + 1) (L q0 + 1))) ∧
      w6.cell? ⟨w2.heap.size, q0, none⟩ = some (.slice (A q0) (L q0) (C q0)) ∧ w6.frozen? ⟨w2.heap.size, q0, none⟩ = false := by
  have r3 : w3.rowIs w2.heap.size 22 n (fun r => .slice (A r) (L r) (C r)) := ⟨_, h3, by simp [hdrs_len], fun i hi => by simp [hdrs, hi]⟩
  have hlt := r3.lt
  have s4 := g4.size
  rw [World.size_alloc] at s4
  have s5 := g5.size
  rw [World.size_alloc] at s5
  have r5 : w5.rowIs w2.heap.size 22 n (fun r => .slice (A r) (L r) (C r)) := (r3.alloc o4).of_block (g4.block _ (by simp; omega) (by simp; omega))
  have r6 : w6.rowIs w2.heap.size 22 n (fun r => .slice (A r) (L r) (C r)) := (r5.alloc o5).of_block (g5.block _ (by simp; omega) (by simp; omega))
  have b6 : Below w2.heap.size w2 w6 := by
    have b5 : Below w2.heap.size w2 w5 := (b3.alloc b3.size _).grown g4 (by simp; omega) (fun k hk => by simp at hk; omega)
    exact (b5.alloc b5.size _).grown g5 (by simp; omega) (fun k hk => by simp at hk; omega)
  have b7 : Below w2.heap.size w2 (w6.setCell ⟨w2.heap.size, q0, none⟩ (.slice (some ⟨w3.heap.size, 0, none⟩) (L q0 + 1) (L q0 + 1))) := b6.setCell (Nat.le_refl _) _
  refine ⟨fun r hr => ?_, b7, r6.cell hq, r6.frozen q0⟩
  have hc := (r6.set q0 (.slice (some ⟨w3.heap.size, 0, none⟩) (L q0 + 1) (L q0 + 1))).cell hr
  by_cases e : r = q0
  · subst e
    simp only [if_true] at hc
    refine ⟨by rw [Nat.zero_add]; simpa [A2, L2, C2] using hc, .inr ⟨w3.heap.size, 0, by simp [A2], fun j hj => ?_⟩⟩
    have hj' : j < L r + 1 := by simpa [L2] using hj
    rw [Nat.zero_add, World.cell?_setCell_other _ _ _ _ (by intro e; injection e; omega), own6.cellAt j (by omega)]
    rcases Nat.lt_or_ge j (L r) with h | h
    · rw [List.getElem?_append_left (by rw [ints_len]; omega), ints_get h]
      simp [Z2]; omega
    · obtain rfl : j = L r := by omega
      rw [List.getElem?_append_right (by rw [ints_len]; omega), ints_len]
      simp [Z2]
  · simp only [if_neg e] at hc
    refine ⟨by rw [Nat.zero_add]; simpa [A2, L2, C2, e] using hc, ?_⟩
    have := ((HR r hr).2).below b7
    have e1 : A2 A q0 w3.heap.size r = A r := by simp [A2, e]
    have e2 : L2 L q0 r = L r := by simp [L2, e]
    have e3 : Z2 L Z q0 p0 r = Z r := by funext j; simp [Z2, e]
    rw [e1, e2, e3]
    exact this

/-- The numbers of the rows with one link more. -/
theorem nums2 {n q0 p0 : Nat} {L : Nat → Nat} {Z : Nat → Nat → Int} {E : Nat → Nat → Nat} (hp : p0 < n) (HZ : ∀ r, r < n → ∀ j, j < L r → Z r j = (E r j : Int) ∧ E r j < n) :
    ∀ r, r < n → ∀ j, j < L2 L q0 r → Z2 L Z q0 p0 r j = (E2 L E q0 p0 r j : Int) ∧ E2 L E q0 p0 r j < n := by
  intro r hr j hj
  unfold Z2 E2
  by_cases e : r = q0 ∧ j = L q0
  · rw [if_pos e, if_pos e]; exact ⟨rfl, hp⟩
  · rw [if_neg e, if_neg e]
    refine HZ r hr j ?_
    unfold L2 at hj
    split at hj
    · rename_i h; subst h; have : j ≠ L r := fun h => e ⟨rfl, h⟩; omega
    · exact hj

end Go.Proofs.Qxb6614484a
