/-
  The walk of 'FnSearchErrorTextFramesMessage'.
-/
import Derived.Test.Qxb6615927aBase
import Derived.Deep.QuietTactic
import Derived.BigQuiet
namespace Go.Proofs.Qxb6615927a
open Go.RowKit

theorem grown_trans {a b c : World} (h : Grown a b) (k : Grown b c) : Grown a c := by
  refine ⟨World.keptBut_trans h.1 ?_, fun x => (k.2.1 x).trans (h.2.1 x), Nat.le_trans h.2.2 k.2.2⟩
  exact k.1

theorem cut_tail (l a : ByteArray) : (l ++ a).extract l.size (l.size + a.size) = a := ByteArray.extract_append_eq_right rfl rfl

theorem cut_head (l a : ByteArray) : (l ++ a).extract 0 l.size = l := ByteArray.extract_append_eq_left rfl

set_option maxHeartbeats 400000 in
theorem walk (a0 : ByteArray) (a1 : ByteArray) (w0 : a0.size ≤ maxLen) (w1 : a1.size ≤ maxLen) (w : World) :
    Calls Try.prog 3 #[.string a0, .string a1] w fun e w' => e = .returned (.bool true) ∧ Grown w w' := by
  have v0 := w0
  have v1 := w1
  unfold maxLen at w0 w1
  go_enter Try.func3, Try.ntmps3
  go_wp2_with fail
  refine (bytes5 a0 a1 _ v0 v1).mono ?_
  rintro e w' ⟨β, rfl, hβ, rfl⟩
  clear v0 v1
  cases β with
  | false =>
    go_wp2
    go_ret
    exact ⟨rfl, Grown.refl _⟩
  | true =>
    have hsum := hβ rfl
    clear hβ
    by_cases h0 : a0.size ≤ 524288
    · by_cases h1 : a1.size ≤ 524288
      · go_wp2_with fail
        refine (text6 a0 w (by omega)).mono ?_
        rintro e wa ⟨rfl, ga⟩
        have sa : (lead ++ a0).size = 103 + a0.size := by rw [ByteArray.size_append, lead_size]
        have ta := cut_tail lead a0
        have ha := cut_head lead a0
        have tb := cut_tail lead a1
        have hb := cut_head lead a1
        have sb : (lead ++ a1).size = 103 + a1.size := by rw [ByteArray.size_append, lead_size]
        rw [lead_size] at ta ha tb hb
        go_wp2_with fail
        refine (text6 a1 wa (by omega)).mono ?_
        rintro e wb ⟨rfl, gb⟩
        go_wp2_with fail
        refine (text7 a0 wb (by omega)).mono ?_
        rintro e wc ⟨rfl, gc⟩
        have G := grown_trans (grown_trans ga gb) gc
        clear ga gb gc
        generalize lead ++ a0 = x at sa ta ha ⊢
        generalize lead ++ a1 = y at sb tb hb ⊢
        have hz := lead_size
        generalize lead = z at ha hb hz ⊢
        go_wp2
        go_quiet (fail)
        go_wp2
        go_ret
        exact ⟨rfl, G⟩
      · go_wp2
        go_ret
        exact ⟨rfl, Grown.refl _⟩
    · go_wp2
      go_ret
      exact ⟨rfl, Grown.refl _⟩

end Go.Proofs.Qxb6615927a
