/-
  The walks of 'endings' and 'ZZendings'.
-/
import Derived.Test.Qxb6614484aEps
import Derived.Test.Qxb6614484aClo
import Derived.Deep.RegionHeld3
namespace Go.Proofs.Qxb6614484a
open Go.RowKit

/-- What 'endings' leaves: a set in new memory, the least one that holds f and with a state every state that links to it. -/
def EndsAt (n f : Nat) (L : Nat → Nat) (E : Nat → Nat → Nat) (w : World) (e : Ending) (w' : World) : Prop :=
  ∃ g b, e = .returned (.slice (some ⟨g, 0, none⟩) n n) ∧ EndS n f L E b ∧ (∀ i, i < n → w'.cell? ⟨g, i, none⟩ = some (.bool (b i))) ∧ Below w.heap.size w w'

/-- The world in which 'closure' is called. -/
def wz (w w1 : World) (n f : Nat) : World := ((w1.alloc (.cells #[.slice (some ⟨w.heap.size, 0, none⟩) n n] 23)).alloc (.cells #[.int .i64 f] 3)).drew

theorem below_wz (w w1 : World) (n f : Nat) : Below w1.heap.size w1 (wz w w1 n f) := (((Below.refl _ _).alloc (Nat.le_refl _) _).alloc (by simp) _).drew

theorem wz_f (w w1 : World) (n f : Nat) : (wz w w1 n f).cell? ⟨w1.heap.size + 1, 0, none⟩ = some (.int .i64 f) := by
  show ((w1.alloc (.cells #[.slice (some ⟨w.heap.size, 0, none⟩) n n] 23)).alloc (.cells #[.int .i64 f] 3)).cell? _ = _
  rw [World.cell?_alloc_at _ _ _ _ (by simp)]; rfl

theorem wz_v (w w1 : World) (n f : Nat) : (wz w w1 n f).cell? ⟨w1.heap.size, 0, none⟩ = some (.slice (some ⟨w.heap.size, 0, none⟩) n n) := by
  show ((w1.alloc (.cells #[.slice (some ⟨w.heap.size, 0, none⟩) n n] 23)).alloc (.cells #[.int .i64 f] 3)).cell? _ = _
  rw [World.cell?_alloc_past _ _ _ (by simp), World.cell?_alloc_at _ _ _ _ rfl]; rfl

theorem wz_size (w w1 : World) (n f : Nat) : w1.heap.size ≤ (wz w w1 n f).heap.size := (below_wz w w1 n f).size

theorem call20 (n f : Nat) (L : Nat → Nat) (E : Nat → Nat → Nat) (w w1 : World) (hn : n ≤ 65536) (hf : f < n) (HZ : ∀ r, r < n → ∀ j, j < L r → E r j < n)
    (X : Nat → Option Addr) (K : Nat → Nat) (I : Nat → List Nat) (hI : Into w n X K I w1) (hM : Mem n L E n 0 I) :
    Calls Try.prog 20 #[.int .i64 n, .slice (some ⟨w1.heap.size + 1, 0, none⟩) 1 1, .func (Fn.func 24) #[] #[.pointer (some ⟨w1.heap.size, 0, none⟩)]] (wz w w1 n f) (EndsAt n f L E w) := by
  have hlen : ∀ s, s < n → (I s).length ≤ 20000000000 := by
    intro s hs
    have h1 := hM.len s hs
    have h2 : n * bigM ≤ 65536 * bigM := Nat.mul_le_mul_right _ hn
    unfold bigM at h1 h2
    omega
  refine (clo20 (w1.heap.size + 1) w1.heap.size w.heap.size n f X (fun s => (I s).length) K (fun s j => (((I s).getD j 0 : Nat) : Int)) (fun s j => (I s).getD j 0) (wz w w1 n f) hn hf (wz_f w w1 n f) (wz_v w w1 n f) (hI.rows.below (below_wz w w1 n f)) hlen (fun s hs j hj => ⟨rfl, hM.lt s hs j hj⟩)).mono fun e w' h => ?_
  obtain ⟨rfl, b, hC, hc, hb⟩ := h
  refine ⟨_, b, rfl, EndS.of HZ hM.turned hC, hc, ?_⟩
  exact hI.bel.trans (((below_wz w w1 n f).mono hI.bel.size).trans (hb.mono (Nat.le_trans hI.bel.size (wz_size w w1 n f))))

set_option maxHeartbeats 1000000 in
theorem end22 (ab sb n f : Nat) (A : Nat → Option Addr) (L C : Nat → Nat) (Z : Nat → Nat → Int) (E : Nat → Nat → Nat) (w : World) (hn : n ≤ 65536) (hf : f < n) (hL : ∀ r, r < n → L r ≤ 131073)
    (HA : Aut w ab sb n A L C f) (HR : ∀ r, r < n → RowAt w (A r) (L r) (Z r)) (HZ : ∀ r, r < n → ∀ j, j < L r → Z r j = (E r j : Int) ∧ E r j < n) :
    Calls Try.prog 22 #[.pointer (some ⟨ab, 0, none⟩)] w (EndsAt n f L E w) := by
  have g1 := HA.states
  have g2 := HA.final
  have hab := cell_lt g1
  go_enter Try.func22, Try.ntmps22
  go_wp2_with fail
  refine (eps23 ab sb n f A L C Z E w hn hL HA HR HZ).mono ?_
  rintro e w1 ⟨rfl, X, K, I, hI, hM⟩
  have k1 : w1.cell? ⟨ab, 0, none⟩ = some (.slice (some ⟨sb, 0, none⟩) n n) := by rw [hI.bel.cell (by exact hab)]; exact g1
  have k2 : w1.cell? ⟨ab, 2, none⟩ = some (.int .i64 f) := by rw [hI.bel.cell (by exact hab)]; exact g2
  have hab1 : ab < w1.heap.size := cell_lt k1
  have H20 : Hid (Calls Try.prog 20 #[.int .i64 n, .slice (some ⟨w1.heap.size + 1, 0, none⟩) 1 1, .func (Fn.func 24) #[] #[.pointer (some ⟨w1.heap.size, 0, none⟩)]] (((w1.alloc (.cells #[.slice (some ⟨w.heap.size, 0, none⟩) n n] 23)).alloc (.cells #[.int .i64 f] 3)).drew) (EndsAt n f L E w)) :=
    call20 n f L E w w1 hn hf (fun r hr j hj => (HZ r hr j hj).2) X K I hI hM
  clear HA HR HZ hL hM hI
  go_wp2_with fail
  go_region_held3 (fun w' => w'.cell? ⟨ab, 0, none⟩ = some (.slice (some ⟨sb, 0, none⟩) n n) ∧ w'.cell? ⟨ab, 2, none⟩ = some (.int .i64 f))
    (first | go_keep | exact ⟨(hb.cell (by exact hab)).trans g1, (hb.cell (by exact hab)).trans g2⟩)
    ((go_at_call 20; refine (H20.out).mono ?_; rintro e w' ⟨g, b, rfl, hE, hc, hb⟩))
  all_goals
    go_wp2
    go_ret
    exact ⟨g, b, rfl, hE, hc, hb⟩

set_option maxHeartbeats 400000 in
theorem end17 (ab sb n f : Nat) (A : Nat → Option Addr) (L C : Nat → Nat) (Z : Nat → Nat → Int) (E : Nat → Nat → Nat) (w : World) (hn : n ≤ 65536) (hf : f < n) (hL : ∀ r, r < n → L r ≤ 131073)
    (HA : Aut w ab sb n A L C f) (HR : ∀ r, r < n → RowAt w (A r) (L r) (Z r)) (HZ : ∀ r, r < n → ∀ j, j < L r → Z r j = (E r j : Int) ∧ E r j < n) :
    Calls Try.prog 17 #[.pointer (some ⟨ab, 0, none⟩)] w (EndsAt n f L E w) := by
  have H := end22 ab sb n f A L C Z E w hn hf hL HA HR HZ
  have H22 : Hid (Calls Try.prog 22 #[.pointer (some ⟨ab, 0, none⟩)] w (EndsAt n f L E w)) := H
  clear H HA HR HZ hL
  go_enter Try.func17, Try.ntmps17
  go_wp2_with fail
  refine (H22.out).mono ?_
  rintro e w' ⟨g, b, rfl, hE, hc, hb⟩
  go_wp2
  go_ret
  exact ⟨g, b, rfl, hE, hc, hb⟩

end Go.Proofs.Qxb6614484a
