/-
  Plain laws: the decimal numeral read back by 'v = v*10 - d'; the last field of a line. No Go in sight.
-/
import Derived.Lib.ItoaNum
import Derived.Lib.ItoaMem
namespace Go.Proofs.Qxb6614453aFmt
open Go

/-- The number that a row of digits says. -/
def num (l : List UInt8) : Nat := l.foldl (fun v c => v * 10 + (c.toNat - 48)) 0

theorem num_nil : num [] = 0 := rfl
theorem num_snoc (l : List UInt8) (c : UInt8) : num (l ++ [c]) = num l * 10 + (c.toNat - 48) := by simp [num]

theorem fold_ge (l : List UInt8) : ∀ v : Nat, v ≤ l.foldl (fun v c => v * 10 + (c.toNat - 48)) v := by
  induction l with
  | nil => intro v; exact Nat.le_refl _
  | cons c l ih => intro v; simp only [List.foldl_cons]; exact Nat.le_trans (by omega) (ih _)

theorem num_le_append (a b : List UInt8) : num a ≤ num (a ++ b) := by
  unfold num
  rw [List.foldl_append]
  exact fold_ge _ _

theorem num_take_le (l : List UInt8) (k : Nat) : num (l.take k) ≤ num l := by
  have := num_le_append (l.take k) (l.drop k)
  rwa [List.take_append_drop] at this

theorem take_snoc_get (l : List UInt8) (k : Nat) (h : k < l.length) : l.take (k + 1) = l.take k ++ [l[k]] := List.take_succ_eq_append_getElem h

/-- One digit more. -/
theorem num_step (l : List UInt8) (k : Nat) (h : k < l.length) : num (l.take (k + 1)) = num (l.take k) * 10 + (l[k].toNat - 48) := by
  rw [take_snoc_get l k h, num_snoc]

theorem dec_dig (u : Nat) : ∀ c ∈ Lib.decDigits u, 48 ≤ c.toNat ∧ c.toNat ≤ 57 := by
  induction u using Nat.strongRecOn with
  | _ u ih =>
    intro c hc
    rw [Lib.decDigits] at hc
    split at hc
    · rename_i h
      simp at hc
      subst hc
      simp
      omega
    · rename_i h
      rcases List.mem_append.1 hc with hc | hc
      · exact ih (u / 10) (by omega) c hc
      · simp at hc
        subst hc
        have : u % 10 < 10 := Nat.mod_lt _ (by decide)
        simp
        omega

theorem dec_num (u : Nat) : num (Lib.decDigits u) = u := by
  induction u using Nat.strongRecOn with
  | _ u ih =>
    rw [Lib.decDigits]
    split
    · rename_i h
      simp [num]
      omega
    · rename_i h
      rw [num_snoc, ih (u / 10) (by omega)]
      have : u % 10 < 10 := Nat.mod_lt _ (by decide)
      have e : (UInt8.ofNat (48 + u % 10)).toNat = 48 + u % 10 := by simp; omega
      rw [e]
      omega

theorem dec_pos (u : Nat) : 1 ≤ (Lib.decDigits u).length := by rw [Lib.decDigits_length]; exact Lib.nDigits_pos u

/-- The numeral of n is its sign and the digits of its size. -/
theorem itoa_forms (n : Int) : (0 ≤ n ∧ Lib.itoa n = Lib.decDigits n.toNat) ∨ (n < 0 ∧ Lib.itoa n = 45 :: Lib.decDigits n.natAbs) := by
  unfold Lib.itoa
  by_cases h : n < 0
  · right; simp [h]
  · left; simp [h]; omega

theorem itoa_noblank (n : Int) : ∀ c ∈ Lib.itoa n, c ≠ 32 := by
  intro c hc e
  subst e
  rcases itoa_forms n with ⟨_, h⟩ | ⟨_, h⟩
  · rw [h] at hc; have := dec_dig _ _ hc; simp at this
  · rw [h] at hc
    rcases List.mem_cons.1 hc with h' | h'
    · exact absurd h' (by decide)
    · have := dec_dig _ _ h'; simp at this

theorem itoa_inj {n m : Int} (h : Lib.itoa n = Lib.itoa m) : n = m := by
  rcases itoa_forms n with ⟨hn, en⟩ | ⟨hn, en⟩ <;> rcases itoa_forms m with ⟨hm, em⟩ | ⟨hm, em⟩ <;> rw [en, em] at h
  · have := congrArg num h; rw [dec_num, dec_num] at this; omega
  · have : (45 : UInt8) ∈ Lib.decDigits n.toNat := by rw [h]; simp
    have := dec_dig _ _ this; simp at this
  · have : (45 : UInt8) ∈ Lib.decDigits m.toNat := by rw [← h]; simp
    have := dec_dig _ _ this; simp at this
  · simp at h; have := congrArg num h; rw [dec_num, dec_num] at this; omega

end Go.Proofs.Qxb6614453aFmt
