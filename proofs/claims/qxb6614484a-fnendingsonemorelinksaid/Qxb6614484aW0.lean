/-
  The early ways of 'FnEndingsOneMoreLink'.
-/
import Derived.Test.Qxb6614484aRd
namespace Go.Proofs.Qxb6614484a
open Go.RowKit

set_option maxHeartbeats 400000 in
theorem bytes19z (a : Option Addr) (cap : Nat) (s f x y : Int) (w : World) :
    Calls Try.prog 19 #[.slice a 0 cap, .int .i64 s, .int .i64 f, .int .i64 x, .int .i64 y] w fun e w' => e = .returned (.bool true) ∧ w = w' := by
  go_enter Try.func19, Try.ntmps19
  go_wp2
  go_loop [11, 12] (fun z i => i = .int .i64 0) (fun _ _ => 0)
  case atStart => rfl
  case round =>
    subst hrel
    go_wp2
    go_ret
    exact ⟨rfl, rfl⟩

set_option maxHeartbeats 400000 in
theorem adj8z (a : Option Addr) (cap : Nat) (w : World) :
    Calls Try.prog 8 #[.int .i64 0, .slice a 0 cap] w fun e w' => e = .returned (.int .i64 0) ∧ w = w' := by
  have hd : decide ((0 : Int) < (0 : Int)) = false := by simp
  go_enter Try.func8, Try.ntmps8
  go_wp2
  go_loop [5, 6] (fun z i => z = .int .i64 0 ∧ i = .int .i64 0) (fun _ _ => 0)
  case atStart => exact ⟨rfl, rfl⟩
  case round =>
    obtain ⟨rfl, rfl⟩ := hrel
    go_wp2
    go_ret
    exact ⟨rfl, rfl⟩

set_option maxRecDepth 10000 in
set_option maxHeartbeats 400000 in
theorem zero6 (a : Option Addr) (cap : Nat) (s f x y : Int) (w : World) :
    Calls Try.prog 6 #[.slice a 0 cap, .int .i64 s, .int .i64 f, .int .i64 x, .int .i64 y] w fun e w' => e = .returned (.bool true) ∧ w = w' := by
  go_enter Try.func6, Try.ntmps6
  go_wp2_with fail
  refine (bytes19z _ _ _ _ _ _ _).mono ?_
  rintro e w' ⟨rfl, rfl⟩
  go_wp2_with fail
  refine (adj8z _ _ _).mono ?_
  rintro e w' ⟨rfl, rfl⟩
  by_cases h : f < 0
  · go_wp2
    go_ret
    exact ⟨rfl, rfl⟩
  · go_wp2
    go_ret
    exact ⟨rfl, rfl⟩

set_option maxRecDepth 10000 in
set_option maxHeartbeats 1000000 in
theorem early6 (b off n cap : Nat) (s f x y : Int) (w : World) (A : Nat → Option Addr) (L C : Nat → Nat) (Z : Nat → Nat → Int)
    (hl : n ≤ maxLen) (hL : ∀ r, r < n → L r ≤ maxLen) (H : RowsIn w b off n A L C Z)
    (h : f < 0 ∨ (n : Int) ≤ f ∨ x < 0 ∨ (n : Int) ≤ x ∨ y < 0 ∨ (n : Int) ≤ y) :
    Calls Try.prog 6 #[.slice (some ⟨b, off, none⟩) n cap, .int .i64 s, .int .i64 f, .int .i64 x, .int .i64 y] w fun e w' => e = .returned (.bool true) ∧ w = w' := by
  have HH : Hid (f < 0 ∨ (n : Int) ≤ f ∨ x < 0 ∨ (n : Int) ≤ x ∨ y < 0 ∨ (n : Int) ≤ y) := h
  have hl' := hl
  unfold maxLen at hl'
  clear h
  go_enter Try.func6, Try.ntmps6
  go_wp2_with fail
  refine (bytes19 b off n cap s f x y w A L C Z hl hL H).mono ?_
  rintro e w' ⟨β, rfl, hβ, rfl⟩
  cases β with
  | false =>
    go_wp2
    go_ret
    exact ⟨rfl, rfl⟩
  | true =>
    have hL20 := hβ rfl
    clear hβ hL
    by_cases hn : n ≤ 65536
    · go_wp2_with fail
      refine (adj8 b off n cap w A L C Z (by omega) hL20 H).mono ?_
      rintro e w' ⟨t, rfl, ht, rfl⟩
      clear ht hL20 H
      by_cases h3 : t ≤ 1048576
      · by_cases h1 : f < 0
        · clear HH
          go_wp2
          go_ret
          exact ⟨rfl, rfl⟩
        · by_cases h2 : (n : Int) ≤ f
          · clear HH
            go_wp2
            go_ret
            exact ⟨rfl, rfl⟩
          · by_cases h4 : x < 0
            · clear HH
              go_wp2
              go_ret
              exact ⟨rfl, rfl⟩
            · by_cases h5 : (n : Int) ≤ x
              · clear HH
                go_wp2
                go_ret
                exact ⟨rfl, rfl⟩
              · by_cases h6 : y < 0
                · clear HH
                  go_wp2
                  go_ret
                  exact ⟨rfl, rfl⟩
                · have h7 : (n : Int) ≤ y := by rcases HH.out with h | h | h | h | h | h <;> omega
                  clear HH
                  go_wp2
                  go_ret
                  exact ⟨rfl, rfl⟩
      · go_wp2
        go_ret
        exact ⟨rfl, rfl⟩
    · go_wp2
      go_ret
      exact ⟨rfl, rfl⟩

end Go.Proofs.Qxb6614484a
