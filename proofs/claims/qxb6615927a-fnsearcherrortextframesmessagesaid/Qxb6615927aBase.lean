/-
  The walks of the error texts.
-/
import Derived.Test.Qxb6615927aProg
import Derived.WalkKit
import Derived.WalkSpells
namespace Go.Proofs.Qxb6615927a
open Go.RowKit

set_option maxHeartbeats 400000 in
theorem text72 (b : Nat) (s : ByteArray) (w : World) (hc : w.cell? ⟨b, 0, none⟩ = some (.string s)) :
    Calls Try.prog 72 #[.pointer (some ⟨b, 0, none⟩)] w fun e w' => e = .returned (.string s) ∧ w = w' := by
  go_enter Try.func72, Try.ntmps72
  go_wp2
  go_ret
  exact ⟨rfl, rfl⟩

set_option maxHeartbeats 400000 in
theorem new13 (s : ByteArray) (w : World) :
    Calls Try.prog 13 #[.string s] w fun e w' => e = .returned (.iface 77 (.pointer (some ⟨w.heap.size, 0, none⟩))) ∧ w' = w.alloc (.cells #[.string s] 79) := by
  go_enter Try.func13, Try.ntmps13
  go_wp2
  go_ret
  exact ⟨rfl, rfl⟩

theorem meth77 (a : Addr) (w : World) : (method 239 77 (.pointer (some a)) "Error").run Try.prog w = .ok (72, .pointer (some a)) w := by kernel_rfl
theorem meth33 (a : Addr) (w : World) : (method 239 33 (.pointer (some a)) "Error").run Try.prog w = .ok (14, .pointer (some a)) w := by kernel_rfl

/-- What the text of a SearchError begins with. -/
def lead : ByteArray := { data := #[116, 104, 101, 32, 115, 101, 114, 118, 101, 114, 32, 99, 111, 117, 108, 100, 32, 110, 111, 116, 32, 98, 101, 32, 97, 115, 107, 101, 100, 32, 97, 98, 111, 117, 116, 32, 115, 111, 109, 101, 32, 111, 102, 32, 116, 104, 101, 32, 85, 82, 76, 39, 115, 32, 104, 97, 115, 104, 32, 112, 114, 101, 102, 105, 120, 101, 115, 44, 32, 115, 111, 32, 116, 104, 101, 32, 118, 101, 114, 100, 105, 99, 116, 32, 109, 97, 121, 32, 109, 105, 115, 115, 32, 97, 32, 116, 104, 114, 101, 97, 116, 58, 32] }

theorem lead_size : lead.size = 103 := by rfl

set_option maxRecDepth 10000 in
set_option maxHeartbeats 400000 in
theorem error14 (r b : Nat) (s : ByteArray) (w : World) (hr : w.cell? ⟨r, 0, none⟩ = some (.iface 77 (.pointer (some ⟨b, 0, none⟩)))) (hc : w.cell? ⟨b, 0, none⟩ = some (.string s)) (hs : s.size ≤ 1048576) :
    Calls Try.prog 14 #[.pointer (some ⟨r, 0, none⟩)] w fun e w' => e = .returned (.string (lead ++ s)) ∧ w = w' := by
  have m77 := meth77
  go_enter Try.func14, Try.ntmps14
  go_wp2_with (go_at_call 72; refine (text72 _ _ _ hc).mono ?_; rintro e w' ⟨rfl, rfl⟩)
  go_ret
  exact ⟨rfl, rfl⟩

set_option maxRecDepth 10000 in
set_option maxHeartbeats 400000 in
theorem error14n (q r b : Nat) (s : ByteArray) (w : World) (hq : w.cell? ⟨q, 0, none⟩ = some (.iface 33 (.pointer (some ⟨r, 0, none⟩)))) (hr : w.cell? ⟨r, 0, none⟩ = some (.iface 77 (.pointer (some ⟨b, 0, none⟩)))) (hc : w.cell? ⟨b, 0, none⟩ = some (.string s)) (hs : s.size ≤ 1048576) :
    Calls Try.prog 14 #[.pointer (some ⟨q, 0, none⟩)] w fun e w' => e = .returned (.string (lead ++ (lead ++ s))) ∧ w = w' := by
  have m33 := meth33
  have H := error14 r b s w hr hc hs
  have hts : (lead ++ s).size ≤ 2000000 := by rw [ByteArray.size_append, lead_size]; omega
  generalize lead ++ s = t at H hts ⊢
  have HH : Hid (Calls Try.prog 14 #[.pointer (some ⟨r, 0, none⟩)] w fun e w' => e = .returned (.string t) ∧ w = w') := H
  clear H
  go_enter Try.func14, Try.ntmps14
  go_wp2_with fail
  refine (HH.out).mono ?_
  rintro e w' ⟨rfl, rfl⟩
  go_wp2
  go_ret
  exact ⟨rfl, rfl⟩

set_option maxHeartbeats 400000 in
theorem text6 (s : ByteArray) (w : World) (hs : s.size ≤ 1048576) :
    Calls Try.prog 6 #[.string s] w fun e w' => e = .returned (.string (lead ++ s)) ∧ Grown w w' := by
  go_enter Try.func6, Try.ntmps6
  go_wp2_with fail
  refine (new13 _ _).mono ?_
  rintro e w' ⟨rfl, rfl⟩
  go_wp2_with fail
  refine (error14 (w.heap.size + 1) w.heap.size s _ (by simp) (by simp) hs).mono ?_
  rintro e w' ⟨rfl, rfl⟩
  go_wp2
  go_ret
  exact ⟨rfl, ((Grown.refl _).alloc _ _).alloc _ _⟩

set_option maxHeartbeats 400000 in
theorem text7 (s : ByteArray) (w : World) (hs : s.size ≤ 1048576) :
    Calls Try.prog 7 #[.string s] w fun e w' => e = .returned (.string (lead ++ (lead ++ s))) ∧ Grown w w' := by
  go_enter Try.func7, Try.ntmps7
  go_wp2_with fail
  refine (new13 _ _).mono ?_
  rintro e w' ⟨rfl, rfl⟩
  go_wp2_with fail
  refine (error14n (w.heap.size + 1 + 1) (w.heap.size + 1) w.heap.size s _ ?c1 ?c2 ?c3 hs).mono ?c4
  case c1 => go_simp
  case c2 => go_simp
  case c3 => go_simp
  case c4 =>
    rintro e w' ⟨rfl, rfl⟩
    go_wp2
    go_ret
    exact ⟨rfl, (((Grown.refl _).alloc _ _).alloc _ _).alloc _ _⟩

set_option maxHeartbeats 400000 in
theorem bytes5 (a b : ByteArray) (w : World) (ha : a.size ≤ maxLen) (hb : b.size ≤ maxLen) :
    Calls Try.prog 5 #[.string a, .string b] w fun e w' => ∃ β : Bool, e = .returned (.bool β) ∧ (β = true → a.size + b.size ≤ 1048576) ∧ w = w' := by
  unfold maxLen at ha hb
  by_cases h1 : a.size ≤ 1048576
  · by_cases h2 : b.size ≤ 1048576
    · by_cases h3 : a.size + b.size ≤ 1048576
      · go_enter Try.func5, Try.ntmps5
        go_wp2
        go_ret
        exact ⟨true, rfl, fun _ => h3, rfl⟩
      · go_enter Try.func5, Try.ntmps5
        go_wp2
        go_ret
        exact ⟨false, rfl, (fun h => by cases h), rfl⟩
    · go_enter Try.func5, Try.ntmps5
      go_wp2
      go_ret
      exact ⟨false, rfl, (fun h => by cases h), rfl⟩
  · go_enter Try.func5, Try.ntmps5
    go_wp2
    go_ret
    exact ⟨false, rfl, (fun h => by cases h), rfl⟩

end Go.Proofs.Qxb6615927a
