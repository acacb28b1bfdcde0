/-
  Walks over rows of ints: the sizes, the range of the links, the comparison of two sets.
-/
import Derived.Test.Qxb6614484aProg
import Derived.Test.Qxb6614484aPlain
import Derived.WalkKit
import Derived.WalkSpells
import Derived.Deep.OwnRows
import Derived.Deep.QuietTactic
import Derived.BigQuiet
namespace Go.Proofs.Qxb6614484a
open Go.RowKit

/-- A row of l ints, its numbers Z. -/
def RowAt (w : World) (a : Option Addr) (l : Nat) (Z : Nat → Int) : Prop :=
  l = 0 ∨ ∃ b off, a = some ⟨b, off, none⟩ ∧ ∀ j, j < l → w.cell? ⟨b, off + j, none⟩ = some (.int .i64 (Z j))

/-- n rows of ints behind an address. -/
def RowsIn (w : World) (b off n : Nat) (A : Nat → Option Addr) (L C : Nat → Nat) (Z : Nat → Nat → Int) : Prop :=
  ∀ r, r < n → w.cell? ⟨b, off + r, none⟩ = some (.slice (A r) (L r) (C r)) ∧ RowAt w (A r) (L r) (Z r)

/-- It answers a bool, and yes only where p; the world stands. -/
def Beta (p : Prop) (w : World) (e : Ending) (w' : World) : Prop := ∃ β : Bool, e = .returned (.bool β) ∧ (β = true → p) ∧ w = w'
/-- It answers a sum, and a small one only where p; the world stands. -/
def Tau (p : Prop) (w : World) (e : Ending) (w' : World) : Prop := ∃ t : Nat, e = .returned (.int .i64 t) ∧ (t ≤ 1048576 → p) ∧ w = w'

theorem cell_lt {w : World} {a : Addr} {v : Value} (h : w.cell? a = some v) : a.block < w.heap.size := by
  rcases Nat.lt_or_ge a.block w.heap.size with hlt | hge
  · exact hlt
  · simp [World.cell?, Array.getElem?_eq_none hge] at h

theorem RowAt.below {w w' : World} {a : Option Addr} {l : Nat} {Z : Nat → Int} (h : RowAt w a l Z) (hb : Below w.heap.size w w') : RowAt w' a l Z := by
  rcases h with h | ⟨b, off, h1, h2⟩
  · exact .inl h
  · exact .inr ⟨b, off, h1, fun j hj => by rw [hb.cell (by exact cell_lt (h2 j hj))]; exact h2 j hj⟩

theorem RowsIn.below {w w' : World} {b off n : Nat} {A : Nat → Option Addr} {L C : Nat → Nat} {Z : Nat → Nat → Int} (h : RowsIn w b off n A L C Z) (hb : Below w.heap.size w w') : RowsIn w' b off n A L C Z := by
  intro r hr
  obtain ⟨h1, h2⟩ := h r hr
  exact ⟨by rw [hb.cell (by exact cell_lt h1)]; exact h1, h2.below hb⟩

set_option maxHeartbeats 400000 in
theorem bytes19 (b off len cap : Nat) (s f x y : Int) (w : World) (A : Nat → Option Addr) (L C : Nat → Nat) (Z : Nat → Nat → Int)
    (hl : len ≤ maxLen) (hL : ∀ r, r < len → L r ≤ maxLen) (H : RowsIn w b off len A L C Z) :
    Calls Try.prog 19 #[.slice (some ⟨b, off, none⟩) len cap, .int .i64 s, .int .i64 f, .int .i64 x, .int .i64 y] w (Beta (∀ r, r < len → L r ≤ 1048576) w) := by
  unfold maxLen at hl
  have hLm : ∀ r, r < len → L r ≤ 9223372036854775807 := fun r hr => by have := hL r hr; unfold maxLen at this; exact this
  clear hL
  by_cases h1 : len ≤ 1048576
  · go_enter Try.func19, Try.ntmps19
    go_wp2
    go_loop [11, 12] (fun z i => ∃ k t : Nat, k ≤ len ∧ t ≤ 1048576 ∧ i = .int .i64 k ∧ z = .int .i64 t ∧ Hid (∀ r, r < k → L r ≤ 1048576)) (fun _ i => len - (intOf i).toNat)
    case atStart => exact ⟨0, len, Nat.zero_le _, h1, rfl, by go_num, fun r hr => by omega⟩
    case round =>
      obtain ⟨k, t, hk, ht, rfl, rfl, hA⟩ := hrel
      by_cases hlt : k < len
      · obtain ⟨hc, _⟩ := H k hlt
        have hb := hLm k hlt
        clear H hLm
        by_cases h3 : L k ≤ 1048576
        · by_cases h4 : t + L k ≤ 1048576
          · go_wp2
            go_round
            case rel => exact ⟨k + 1, t + L k, by omega, h4, by go_num, by go_num, fun r hr => by
              rcases Nat.lt_or_ge r k with h | h
              · exact hA.out r h
              · obtain rfl : r = k := by omega
                exact h3⟩
            case measure => simp [intOf]; omega
          · go_wp2
            go_ret
            exact ⟨false, rfl, (fun h => by cases h), rfl⟩
        · go_wp2
          go_ret
          exact ⟨false, rfl, (fun h => by cases h), rfl⟩
      · obtain rfl : k = len := by omega
        go_wp2
        go_ret
        exact ⟨true, rfl, fun _ => hA.out, rfl⟩
  · clear H
    go_enter Try.func19, Try.ntmps19
    go_wp2
    go_ret
    exact ⟨false, rfl, (fun h => by cases h), rfl⟩

set_option maxHeartbeats 400000 in
theorem adj8 (b off len cap : Nat) (w : World) (A : Nat → Option Addr) (L C : Nat → Nat) (Z : Nat → Nat → Int)
    (hl : len ≤ 1048576) (hL : ∀ r, r < len → L r ≤ 1048576) (H : RowsIn w b off len A L C Z) :
    Calls Try.prog 8 #[.int .i64 0, .slice (some ⟨b, off, none⟩) len cap] w (Tau (∀ r, r < len → L r ≤ 131072) w) := by
  go_enter Try.func8, Try.ntmps8
  go_wp2
  go_loop [5, 6] (fun z i => ∃ k t : Nat, k ≤ len ∧ t ≤ 10000000 ∧ i = .int .i64 k ∧ z = .int .i64 t ∧ Hid (∀ r, r < k → 8 * L r ≤ t)) (fun _ i => len - (intOf i).toNat)
  case atStart => exact ⟨0, 0, Nat.zero_le _, by omega, rfl, rfl, fun r hr => by omega⟩
  case round =>
    obtain ⟨k, t, hk, ht, rfl, rfl, hA⟩ := hrel
    by_cases hlt : k < len
    · obtain ⟨hc, _⟩ := H k hlt
      have hb := hL k hlt
      clear H hL
      by_cases h3 : t ≤ 1048576
      · go_wp2
        go_round
        case rel => exact ⟨k + 1, t + 8 * L k, by omega, by omega, by go_num, by go_num, fun r hr => by
          rcases Nat.lt_or_ge r k with h | h
          · have := hA.out r h; omega
          · obtain rfl : r = k := by omega
            omega⟩
        case measure => simp [intOf]; omega
      · go_wp2
        go_ret
        exact ⟨t, rfl, fun h => by omega, rfl⟩
    · obtain rfl : k = len := by omega
      have hd : decide ((k : Int) < (k : Int)) = false := by simp
      go_wp2
      go_ret
      exact ⟨t, rfl, fun h r hr => by have := hA.out r hr; omega, rfl⟩

set_option maxHeartbeats 400000 in
theorem allIn9 (n : Nat) (a : Option Addr) (l c : Nat) (Z : Nat → Int) (w : World) (hl : l ≤ 1048576) (H : RowAt w a l Z) :
    Calls Try.prog 9 #[.int .i64 n, .slice a l c] w (Beta (∀ j, j < l → 0 ≤ Z j ∧ Z j < n) w) := by
  rcases Nat.eq_zero_or_pos l with rfl | hpos
  · clear H
    go_enter Try.func9, Try.ntmps9
    go_wp2
    go_loop [5] (fun i => i = .int .i64 0) (fun _ => 0)
    case atStart => rfl
    case round =>
      subst hrel
      go_wp2
      go_ret
      exact ⟨true, rfl, fun _ => trivial, rfl⟩
  · rcases H with h | ⟨b, off, rfl, H⟩
    · omega
    go_enter Try.func9, Try.ntmps9
    go_wp2
    go_loop [5] (fun i => ∃ k : Nat, k ≤ l ∧ i = .int .i64 k ∧ Hid (∀ j, j < k → 0 ≤ Z j ∧ Z j < n)) (fun i => l - (intOf i).toNat)
    case atStart => exact ⟨0, Nat.zero_le _, rfl, fun j hj => by omega⟩
    case round =>
      obtain ⟨k, hk, rfl, hA⟩ := hrel
      by_cases hlt : k < l
      · have hc := H k hlt
        clear H
        by_cases h1 : Z k < 0
        · go_wp2
          go_ret
          exact ⟨false, rfl, (fun h => by cases h), rfl⟩
        · by_cases h2 : (n : Int) ≤ Z k
          · go_wp2
            go_ret
            exact ⟨false, rfl, (fun h => by cases h), rfl⟩
          · go_wp2
            go_round
            case rel => exact ⟨k + 1, by omega, by go_num, fun j hj => by
              rcases Nat.lt_or_ge j k with h | h
              · exact hA.out j h
              · obtain rfl : j = k := by omega
                omega⟩
            case measure => simp [intOf]; omega
      · obtain rfl : k = l := by omega
        go_wp2
        go_ret
        exact ⟨true, rfl, fun _ => hA.out, rfl⟩

set_option maxHeartbeats 400000 in
theorem links10 (n b off cap : Nat) (w : World) (A : Nat → Option Addr) (L C : Nat → Nat) (Z : Nat → Nat → Int)
    (hn : n ≤ 65536) (hL : ∀ r, r < n → L r ≤ 131072) (H : RowsIn w b off n A L C Z) :
    Calls Try.prog 10 #[.int .i64 n, .slice (some ⟨b, off, none⟩) n cap] w (Beta (∀ r, r < n → ∀ j, j < L r → 0 ≤ Z r j ∧ Z r j < n) w) := by
  go_enter Try.func10, Try.ntmps10
  go_wp2
  go_loop [5] (fun i => ∃ k : Nat, k ≤ n ∧ i = .int .i64 k ∧ Hid (∀ r, r < k → ∀ j, j < L r → 0 ≤ Z r j ∧ Z r j < n)) (fun i => n - (intOf i).toNat)
  case atStart => exact ⟨0, Nat.zero_le _, rfl, fun j hj => by omega⟩
  case round =>
    obtain ⟨k, hk, rfl, hA⟩ := hrel
    by_cases hlt : k < n
    · obtain ⟨hc, hrow⟩ := H k hlt
      have hLk := hL k hlt
      have HR : Hid (RowAt w (A k) (L k) (Z k)) := hrow
      clear H hrow hL
      go_wp2_with fail
      refine (allIn9 n (A k) (L k) (C k) (Z k) w (by omega) HR.out).mono ?_
      rintro e w' ⟨β, rfl, hβ, rfl⟩
      cases β with
      | false =>
        clear hβ
        go_wp2
        go_ret
        exact ⟨false, rfl, (fun h => by cases h), rfl⟩
      | true =>
        have Hβ : Hid (∀ j, j < L k → 0 ≤ Z k j ∧ Z k j < n) := hβ rfl
        clear hβ
        go_wp2
        go_round
        case rel => exact ⟨k + 1, by omega, by go_num, fun r hr => by
          rcases Nat.lt_or_ge r k with h | h
          · exact hA.out r h
          · obtain rfl : r = k := by omega
            exact Hβ.out⟩
        case measure => simp [intOf]; omega
    · obtain rfl : k = n := by omega
      go_wp2
      go_ret
      exact ⟨true, rfl, fun _ => hA.out, rfl⟩

set_option maxHeartbeats 400000 in
theorem same15 (g g' n : Nat) (c c' : Nat) (p q : Nat → Bool) (w : World) (hn : n ≤ 65536)
    (h1 : ∀ i, i < n → w.cell? ⟨g, i, none⟩ = some (.bool (p i))) (h2 : ∀ i, i < n → w.cell? ⟨g', i, none⟩ = some (.bool (q i))) (he : ∀ i, i < n → p i = q i) :
    Calls Try.prog 15 #[.slice (some ⟨g, 0, none⟩) n c, .slice (some ⟨g', 0, none⟩) n c'] w fun e w' => e = .returned (.bool true) ∧ ∃ m, w' = w.drewN m := by
  have HE : Hid (∀ i, i < n → p i = q i) := he
  clear he
  go_enter Try.func15, Try.ntmps15
  go_wp2
  go_loopw [5] (fun i wr => ∃ k m, k ≤ n ∧ i = .int .i64 (k : Nat) ∧ wr = w.drewN m) (fun i _ => n - (intOf i).toNat)
  case atStart => exact ⟨0, 0, Nat.zero_le _, rfl, rfl⟩
  case round =>
    obtain ⟨k, m, hk, rfl, rfl⟩ := hrel
    by_cases hlt : k < n
    · have g1 := h1 k hlt
      have g2 := h2 k hlt
      rw [HE.out k hlt] at g1
      clear h1 h2
      go_wp2
      go_quiet (fail)
      go_wp2
      go_roundw
      case rel => exact ⟨k + 1, m + nq, by omega, by go_num, rfl⟩
      case measure => simp [intOf]; omega
    · go_wp2
      go_ret
      exact ⟨rfl, m, rfl⟩

end Go.Proofs.Qxb6614484a
