/-
  Walks over rows of ints: the sizes, the comparison.
-/
import Derived.Test.Qxb6615084aBase
import Derived.WalkSpells
import Derived.Deep.QuietTactic
import Derived.BigQuiet
namespace Go.Proofs.Qxb6615084a
open Go.RowKit

/-- A row of l ints, its numbers Z. -/
def RowAt (w : World) (a : Option Addr) (l : Nat) (Z : Nat → Int) : Prop :=
  l = 0 ∨ ∃ b off, a = some ⟨b, off, none⟩ ∧ ∀ j, j < l → w.cell? ⟨b, off + j, none⟩ = some (.int .i64 (Z j))

/-- len rows of ints behind an address: N tells which are nil, L their lengths, Z their numbers. -/
def RowsIn (w : World) (b off len : Nat) (N : Nat → Bool) (L : Nat → Nat) (Z : Nat → Nat → Int) : Prop :=
  ∀ r, r < len → ∃ a c, w.cell? ⟨b, off + r, none⟩ = some (.slice a (L r) c) ∧ a.isNone = N r ∧ RowAt w a (L r) (Z r)

def RowsAt (w : World) (ao : Option Addr) (len : Nat) (N : Nat → Bool) (L : Nat → Nat) (Z : Nat → Nat → Int) : Prop :=
  len = 0 ∨ ∃ b off, ao = some ⟨b, off, none⟩ ∧ RowsIn w b off len N L Z

theorem cell_lt {w : World} {a : Addr} {v : Value} (h : w.cell? a = some v) : a.block < w.heap.size := by
  rcases Nat.lt_or_ge a.block w.heap.size with hlt | hge
  · exact hlt
  · simp [World.cell?, Array.getElem?_eq_none hge] at h

theorem RowAt.below {w w' : World} {a : Option Addr} {l : Nat} {Z : Nat → Int} (h : RowAt w a l Z) (hb : Below w.heap.size w w') : RowAt w' a l Z := by
  rcases h with h | ⟨b, off, h1, h2⟩
  · exact .inl h
  · exact .inr ⟨b, off, h1, fun j hj => by rw [hb.cell (by exact cell_lt (h2 j hj))]; exact h2 j hj⟩

theorem RowsIn.below {w w' : World} {b off len : Nat} {N : Nat → Bool} {L : Nat → Nat} {Z : Nat → Nat → Int} (h : RowsIn w b off len N L Z) (hb : Below w.heap.size w w') : RowsIn w' b off len N L Z := by
  intro r hr
  obtain ⟨a, c, h1, h2, h3⟩ := h r hr
  exact ⟨a, c, by rw [hb.cell (by exact cell_lt h1)]; exact h1, h2, h3.below hb⟩

set_option maxHeartbeats 400000 in
theorem fixed6 (n : Nat) (w : World) (hn : n ≤ 1048576) :
    Calls Try.prog 6 #[.int .i64 0, .int .i64 n, .int .i64 8] w fun e w' => e = .returned (.int .i64 (n * 8 : Nat)) ∧ w = w' := by
  go_enter Try.func6, Try.ntmps6
  go_wp2
  go_ret
  exact ⟨by simp, rfl⟩

/-- The end of the first sum's loop. -/
def B5 (len0 len1 : Nat) (w : World) (e : Ending) (w' : World) : Prop := ∃ β : Bool, e = .returned (.bool β) ∧ (β = true → len0 ≤ 1048576 ∧ len1 ≤ 1048576) ∧ w = w'

set_option maxHeartbeats 400000 in
theorem bytes5 (a0 : Option Addr) (len0 cap0 : Nat) (ao : Option Addr) (len cap : Nat) (x y : Int) (w : World) (N : Nat → Bool) (L : Nat → Nat) (Z : Nat → Nat → Int)
    (hl0 : len0 ≤ maxLen) (hl : len ≤ maxLen) (hL : ∀ r, r < len → L r ≤ maxLen) (H : RowsAt w ao len N L Z) :
    Calls Try.prog 5 #[.slice a0 len0 cap0, .slice ao len cap, .int .i64 x, .int .i64 y] w (B5 len0 len w) := by
  unfold maxLen at hl0 hl
  have hLm : ∀ r, r < len → L r ≤ 9223372036854775807 := fun r hr => by have := hL r hr; unfold maxLen at this; exact this
  clear hL
  by_cases h0 : len0 ≤ 1048576
  · by_cases h1 : len ≤ 1048576
    · by_cases h2 : len0 + len ≤ 1048576
      · have fin : ∀ β : Bool, B5 len0 len w (.returned (.bool β)) w := fun β => ⟨β, rfl, fun _ => ⟨h0, h1⟩, rfl⟩
        rcases H with rfl | ⟨b, off, rfl, H⟩
        · go_enter Try.func5, Try.ntmps5
          go_wp2
          go_loop [9, 10] (fun z i => i = .int .i64 0) (fun _ _ => 0)
          case atStart => rfl
          case round =>
            subst hrel
            go_wp2
            go_ret
            exact fin _
        · go_enter Try.func5, Try.ntmps5
          go_wp2
          go_loop [9, 10] (fun z i => ∃ k t : Nat, k ≤ len ∧ t ≤ 1048576 ∧ i = .int .i64 k ∧ z = .int .i64 t) (fun _ i => len - (intOf i).toNat)
          case atStart => exact ⟨0, len0 + len, Nat.zero_le _, h2, rfl, by go_num⟩
          case round =>
            obtain ⟨k, t, hk, ht, rfl, rfl⟩ := hrel
            by_cases hlt : k < len
            · obtain ⟨a, c, hc, _, _⟩ := H k hlt
              have hb := hLm k hlt
              clear H hLm
              by_cases h3 : L k ≤ 1048576
              · by_cases h4 : t + L k ≤ 1048576
                · go_wp2
                  go_round
                  case rel => exact ⟨k + 1, t + L k, by omega, h4, by go_num, by go_num⟩
                  case measure => simp [intOf]; omega
                · go_wp2
                  go_ret
                  exact fin _
              · go_wp2
                go_ret
                exact fin _
            · go_wp2
              go_ret
              exact fin _
      · clear H
        go_enter Try.func5, Try.ntmps5
        go_wp2
        go_ret
        exact ⟨false, rfl, (fun h => by cases h), rfl⟩
    · clear H
      by_cases h2 : len0 + len ≤ 9223372036854775807
      · go_enter Try.func5, Try.ntmps5
        go_wp2
        go_ret
        exact ⟨false, rfl, (fun h => by cases h), rfl⟩
      · go_enter Try.func5, Try.ntmps5
        go_wp2
        go_ret
        exact ⟨false, rfl, (fun h => by cases h), rfl⟩
  · clear H
    go_enter Try.func5, Try.ntmps5
    go_wp2
    go_ret
    exact ⟨false, rfl, (fun h => by cases h), rfl⟩

def B7 (len : Nat) (L : Nat → Nat) (w : World) (e : Ending) (w' : World) : Prop := ∃ t : Nat, e = .returned (.int .i64 t) ∧ (t ≤ 1048576 → ∀ r, r < len → L r ≤ 131072) ∧ w = w'

set_option maxHeartbeats 400000 in
theorem rows7 (t0 : Nat) (ao : Option Addr) (len cap : Nat) (w : World) (N : Nat → Bool) (L : Nat → Nat) (Z : Nat → Nat → Int)
    (ht0 : t0 ≤ 8388608) (hl : len ≤ 1048576) (hL : ∀ r, r < len → L r ≤ maxLen) (H : RowsAt w ao len N L Z) :
    Calls Try.prog 7 #[.int .i64 t0, .slice ao len cap] w (B7 len L w) := by
  have hLm : ∀ r, r < len → L r ≤ 9223372036854775807 := fun r hr => by have := hL r hr; unfold maxLen at this; exact this
  clear hL
  rcases H with rfl | ⟨b, off, rfl, H⟩
  · go_enter Try.func7, Try.ntmps7
    go_wp2
    go_loop [0, 9] (fun z i => ∃ t : Nat, z = .int .i64 t ∧ i = .int .i64 0) (fun _ _ => 0)
    case atStart => exact ⟨_, rfl, rfl⟩
    case round =>
      obtain ⟨t, rfl, rfl⟩ := hrel
      go_wp2
      go_ret
      exact ⟨_, rfl, fun _ r hr => by omega, rfl⟩
  · go_enter Try.func7, Try.ntmps7
    go_wp2
    go_loop [0, 9] (fun z i => ∃ k t : Nat, k ≤ len ∧ t ≤ 20000000 ∧ i = .int .i64 k ∧ z = .int .i64 t ∧ Hid (∀ r, r < k → 8 * L r ≤ t)) (fun _ i => len - (intOf i).toNat)
    case atStart => exact ⟨0, t0, Nat.zero_le _, by omega, rfl, rfl, fun r hr => by omega⟩
    case round =>
      obtain ⟨k, t, hk, ht, rfl, rfl, hsum⟩ := hrel
      by_cases hlt : k < len
      · obtain ⟨a, c, hc, _, _⟩ := H k hlt
        have hb := hLm k hlt
        clear H hLm
        by_cases h3 : t ≤ 1048576
        · by_cases h4 : L k ≤ 1048576
          · go_wp2
            go_round
            case rel => exact ⟨k + 1, t + (24 + 8 * L k), by omega, by omega, by go_num, by go_num, fun r hr => by
              rcases Nat.lt_or_ge r k with h | h
              · have := hsum.out r h; omega
              · obtain rfl : r = k := by omega
                omega⟩
            case measure => simp [intOf]; omega
          · go_wp2
            go_ret
            exact ⟨1048577, rfl, fun h => by omega, rfl⟩
        · go_wp2
          go_ret
          exact ⟨t, rfl, fun h => by omega, rfl⟩
      · obtain rfl : k = len := by omega
        go_wp2
        go_ret
        exact ⟨t, rfl, fun h r hr => by have := hsum.out r hr; omega, rfl⟩

set_option maxHeartbeats 400000 in
theorem same13 (a b : Option Addr) (l ca cb : Nat) (za zb : Nat → Int) (w : World) (hl : l ≤ 1048576) (ha : RowAt w a l za) (hb : RowAt w b l zb) (hz : ∀ j, j < l → za j = zb j) (hN : a.isNone = b.isNone) :
    Calls Try.prog 13 #[.slice a l ca, .slice b l cb] w fun e w' => e = .returned (.bool true) ∧ ∃ n, w' = w.drewN n := by
  have q22 : ∀ (w : World) (a : Option Addr) (n c n' c' : Nat), (binOp .eql 22 (.slice a n c) (.slice none n' c')).run Try.prog w = .ok (.bool a.isNone) w := fun w a n c n' c' => Lib.run_eql_slice_nil w _ _ a n c n' c' Try.underlying22
  have HN : Hid (a.isNone = b.isNone) := hN
  clear hN
  obtain ⟨β, hβ⟩ : ∃ β, β = a.isNone := ⟨_, rfl⟩
  have hα : a.isNone = β := hβ.symm
  have hβb : b.isNone = β := by rw [← HN.out, hα]
  clear hβ
  have hne : (β != β) = false := by simp
  have HZ : Hid (∀ j, j < l → za j = zb j) := hz
  clear hz
  rcases Nat.eq_zero_or_pos l with rfl | hpos
  · clear ha hb
    go_enter Try.func13, Try.ntmps13
    go_wp2
    go_loop [20] (fun i => i = .int .i64 0) (fun _ => 0)
    case atStart => rfl
    case round =>
      subst hrel
      go_wp2
      go_ret
      exact ⟨rfl, 0, rfl⟩
  · rcases ha with h | ⟨ba, oa, rfl, ha⟩
    · omega
    rcases hb with h | ⟨bb, ob, rfl, hb⟩
    · omega
    go_enter Try.func13, Try.ntmps13
    go_wp2
    go_loopw [20] (fun i wr => ∃ k n, k ≤ l ∧ i = .int .i64 (k : Nat) ∧ wr = w.drewN n) (fun i _ => l - (intOf i).toNat)
    case atStart => exact ⟨0, 0, Nat.zero_le _, rfl, rfl⟩
    case round =>
      obtain ⟨k, n, hk, rfl, rfl⟩ := hrel
      by_cases hlt : k < l
      · have h1 := ha k hlt
        have h2 := hb k hlt
        rw [HZ.out k hlt] at h1
        clear ha hb
        go_wp2
        go_quiet (fail)
        go_wp2
        go_roundw
        case rel => exact ⟨k + 1, n + nq, by omega, by go_num, rfl⟩
        case measure => simp [intOf]; omega
      · go_wp2
        go_ret
        exact ⟨rfl, n, rfl⟩

end Go.Proofs.Qxb6615084a
