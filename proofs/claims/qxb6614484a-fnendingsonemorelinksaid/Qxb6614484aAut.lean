/-
  The walk of 'automatonOf'.
-/
import Derived.Test.Qxb6614484aRd
namespace Go.Proofs.Qxb6614484a
open Go.RowKit

theorem info46 : (Try.prog.info? 46).map (fun i => (i.zero, i.size, i.bytes)) = some (some (.agg #[.slice none 0 0, .slice none 0 0]), 2, 48) := by kernel_rfl

/-- An automaton at ab whose states lie at sb: their links, and the final state. -/
structure Aut (w : World) (ab sb n : Nat) (A : Nat → Option Addr) (L C : Nat → Nat) (f : Nat) : Prop where
  states : w.cell? ⟨ab, 0, none⟩ = some (.slice (some ⟨sb, 0, none⟩) n n)
  final : w.cell? ⟨ab, 2, none⟩ = some (.int .i64 f)
  eps : ∀ r, r < n → w.cell? ⟨sb, r * 2, none⟩ = some (.slice (A r) (L r) (C r))
  steps : ∀ r, r < n → w.cell? ⟨sb, r * 2 + 1, none⟩ = some (.slice none 0 0)

theorem Aut.below {w w' : World} {ab sb n : Nat} {A : Nat → Option Addr} {L C : Nat → Nat} {f : Nat} (h : Aut w ab sb n A L C f) (hb : Below w.heap.size w w') : Aut w' ab sb n A L C f :=
  ⟨by rw [hb.cell (by exact cell_lt h.states)]; exact h.states, by rw [hb.cell (by exact cell_lt h.final)]; exact h.final,
   fun r hr => by rw [hb.cell (by exact cell_lt (h.eps r hr))]; exact h.eps r hr, fun r hr => by rw [hb.cell (by exact cell_lt (h.steps r hr))]; exact h.steps r hr⟩

/-- The loop's relation: the first k states are filled. -/
structure AutI (w : World) (n k : Nat) (A : Nat → Option Addr) (L C : Nat → Nat) (s f : Int) (wr : World) : Prop where
  bel : Below w.heap.size w wr
  st : ∃ g, wr.rowIs w.heap.size 46 (n * 2) g ∧ (∀ r, r < k → g (r * 2) = .slice (A r) (L r) (C r)) ∧ ∀ r, r < n → g (r * 2 + 1) = .slice none 0 0
  au : wr.heap[w.heap.size + 1]? = some (.cells #[.slice (some ⟨w.heap.size, 0, none⟩) n n, .int .i64 s, .int .i64 f] 43 (0, 0))

theorem made46 (w : World) (n : Nat) : (w.alloc (.cells (madeCells #[.slice none 0 0, .slice none 0 0] (n * 2)) 46)).rowIs w.heap.size 46 (n * 2) (fun _ => .slice none 0 0) := by
  refine ⟨_, heap_alloc_new w _, size_madeCells _ _, fun i hi => ?_⟩
  have h2 : i % 2 = 0 ∨ i % 2 = 1 := by omega
  rcases h2 with h | h <;> simp [madeCells, hi, h]

theorem make41 (n : Nat) (hn : n ≤ 65536) (w : World) : (Instr.makeSlice 41 (.int .i64 (n : Int)) (.int .i64 (n : Int))).run Try.prog w = .ok (.slice (some ⟨w.heap.size, 0, none⟩) n n) (w.alloc (.cells (madeCells #[.slice none 0 0, .slice none 0 0] (n * 2)) 46)) := by
  obtain ⟨i0, hi, hz0, hz1, hz2⟩ := info_parts info46
  have h := run_make (P := Try.prog) w 41 46 i0 _ Try.underlying41 hi hz0 .i64 .i64 n n (by omega) (Int.le_refl _) (by rw [hz2]; omega) (by omega)
  rw [h, hz1]
  simp [Value.cells]

section
variable {w wr : World} {n k : Nat} {A : Nat → Option Addr} {L C : Nat → Nat} {s f : Int}

theorem AutI.start (w : World) (n : Nat) (A : Nat → Option Addr) (L C : Nat → Nat) (s f : Int) :
    AutI w n 0 A L C s f ((w.alloc (.cells (madeCells #[.slice none 0 0, .slice none 0 0] (n * 2)) 46)).alloc (.cells #[.slice (some ⟨w.heap.size, 0, none⟩) n n, .int .i64 s, .int .i64 f] 43)) := by
  refine ⟨((Below.refl _ _).alloc (Nat.le_refl _) _).alloc (by simp) _, ⟨_, (made46 w n).alloc _, fun r hr => by omega, fun _ _ => rfl⟩, ?_⟩
  have := heap_alloc_new (w.alloc (.cells (madeCells #[.slice none 0 0, .slice none 0 0] (n * 2)) 46)) (.cells #[.slice (some ⟨w.heap.size, 0, none⟩) n n, .int .i64 s, .int .i64 f] 43)
  simpa using this

theorem AutI.cells (h : AutI w n k A L C s f wr) (hk : k < n) :
    wr.cell? ⟨w.heap.size + 1, 0, none⟩ = some (.slice (some ⟨w.heap.size, 0, none⟩) n n) ∧ (∃ v, wr.cell? ⟨w.heap.size, k * 2, none⟩ = some v) ∧ wr.frozen? ⟨w.heap.size, k * 2, none⟩ = false := by
  obtain ⟨_, ⟨g, hg, _, _⟩, ha⟩ := h
  exact ⟨by rw [cell_of_row wr _ 0 _ _ _ ha]; rfl, ⟨_, hg.cell (by omega)⟩, hg.frozen _⟩

theorem AutI.step (h : AutI w n k A L C s f wr) (hk : k < n) : AutI w n (k + 1) A L C s f ((wr.setCell ⟨w.heap.size, k * 2, none⟩ (.slice (A k) (L k) (C k))).drew) := by
  obtain ⟨hb, ⟨g, hg, h1, h2⟩, ha⟩ := h
  refine ⟨(hb.setCell (Nat.le_refl _) _).drew, ⟨_, hg.set (k * 2) _, fun r hr => ?_, fun r hr => ?_⟩, ?_⟩
  · show (if r * 2 = k * 2 then _ else g (r * 2)) = _
    by_cases e : r = k
    · subst e; simp
    · rw [if_neg (by omega)]; exact h1 r (by omega)
  · show (if r * 2 + 1 = k * 2 then _ else g (r * 2 + 1)) = _
    rw [if_neg (by omega)]; exact h2 r hr
  · show (wr.setCell ⟨w.heap.size, k * 2, none⟩ _).heap[w.heap.size + 1]? = _
    rw [Below.heap_setCell _ _ _ _ (by show w.heap.size + 1 ≠ w.heap.size; omega)]; exact ha

theorem AutI.finish {f : Nat} (h : AutI w n n A L C s f wr) : Aut wr (w.heap.size + 1) w.heap.size n A L C f := by
  obtain ⟨hb, ⟨g, hg, h1, h2⟩, ha⟩ := h
  exact ⟨by rw [cell_of_row wr _ 0 _ _ _ ha]; rfl, by rw [cell_of_row wr _ 2 _ _ _ ha]; rfl, fun r hr => by rw [hg.cell (by omega), h1 r hr], fun r hr => by rw [hg.cell (by omega), h2 r hr]⟩
end

set_option maxHeartbeats 400000 in
theorem auto18 (b off n cap : Nat) (s : Int) (f : Nat) (w : World) (A : Nat → Option Addr) (L C : Nat → Nat) (hn : n ≤ 65536)
    (H : ∀ r, r < n → w.cell? ⟨b, off + r, none⟩ = some (.slice (A r) (L r) (C r))) :
    Calls Try.prog 18 #[.slice (some ⟨b, off, none⟩) n cap, .int .i64 s, .int .i64 f] w fun e w' => e = .returned (.pointer (some ⟨w.heap.size + 1, 0, none⟩)) ∧ Aut w' (w.heap.size + 1) w.heap.size n A L C f ∧ Below w.heap.size w w' := by
  have hmk := make41 n hn
  go_enter Try.func18, Try.ntmps18
  go_wp2
  go_loopw [8] (fun i wr => ∃ k : Nat, k ≤ n ∧ i = .int .i64 k ∧ AutI w n k A L C s f wr) (fun i _ => n - (intOf i).toNat)
  case atStart => exact ⟨0, Nat.zero_le _, rfl, AutI.start w n A L C s f⟩
  case round =>
    obtain ⟨k, hk, rfl, hi⟩ := hrel
    by_cases hlt : k < n
    · obtain ⟨c1, ⟨v, c2⟩, c3⟩ := hi.cells hlt
      have c4 : wr.cell? ⟨b, off + k, none⟩ = some (.slice (A k) (L k) (C k)) := by rw [hi.bel.cell (by exact cell_lt (H k hlt))]; exact H k hlt
      have b1 : (0 : Int) ≤ (k : Int) := by omega
      have b2 : (k : Int) < (n : Int) := by omega
      have hr := hi.step hlt
      clear H hmk
      go_wp2
      go_region
      go_wp2
      go_roundw
      case rel => exact ⟨k + 1, by omega, by go_num, hr⟩
      case measure => simp [intOf]; omega
    · obtain rfl : k = n := by omega
      go_wp2
      go_ret
      exact ⟨rfl, hi.finish, hi.bel⟩

end Go.Proofs.Qxb6614484a
