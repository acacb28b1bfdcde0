/-
  The line: what fmt.Sprintf is asked, its text as told, the walks of releasedLine and ZZreleasedLine.
-/
import Derived.Test.Qxb6614453aFmtFacts
import Derived.Test.Qxb6614453aFmtPlain
import Derived.WalkKit
import Derived.WalkSpells
import Derived.Stop.Texts
import Derived.Stop.JoinedTold
import Derived.Stop.FmtTextKit
import Derived.Stop.FmtTextVerbs
namespace Go.Proofs.Qxb6614453aFmt
open Go.RowKit Go.Kit
open Go.Extern.Stop Go.Stop Go.Extern

/-- "released". -/
def released : List UInt8 := [114, 101, 108, 101, 97, 115, 101, 100]

/-- What fmt is asked. -/
def reading (s a : List UInt8) (n : Int) : List (List UInt8) :=
  [[37, 115, 32, 37, 115, 32, 37, 115, 32, 37, 100], shape9, FmtStop.pack s, shape9, FmtStop.pack a, shape46, FmtStop.pack released, shape3, digits 8 (n % 18446744073709551616).toNat]

/-- The line. -/
def lineOf (s a : List UInt8) (n : Int) : List UInt8 := s ++ [32] ++ a ++ [32] ++ released ++ [32] ++ Lib.itoa n

set_option maxHeartbeats 400000 in
theorem line17 (F : Interp) (s a : ByteArray) (n : Int) (w : World) (hF : F.answers w.tape) :
    Calls Tryf.prog 17 #[.string s, .string a, .int .i64 n] w fun e w' => e = .returned (.string (FmtStop.textOf (F "fmt.Sprintf" (reading s.data.toList a.data.toList n) 0))) ∧ Below w.heap.size w w' := by
  have hF' := answers_open hF
  go_enter Tryf.func17, Tryf.ntmps17
  go_wp2
  go_ret
  exact ⟨rfl, ((Below.refl _ _).alloc (Nat.le_refl _) _).drew⟩

set_option maxHeartbeats 400000 in
theorem line7 (F : Interp) (s a : ByteArray) (n : Int) (w : World) (hF : F.answers w.tape) :
    Calls Tryf.prog 7 #[.string s, .string a, .int .i64 n] w fun e w' => e = .returned (.string (FmtStop.textOf (F "fmt.Sprintf" (reading s.data.toList a.data.toList n) 0))) ∧ Below w.heap.size w w' := by
  go_enter Tryf.func7, Tryf.ntmps7
  go_wp2_with fail
  refine (line17 F s a n w hF).mono ?_
  rintro e w' ⟨rfl, hb⟩
  go_wp2
  go_ret
  exact ⟨rfl, hb⟩

theorem t_parse : (FmtText.parse [37, 115, 32, 37, 115, 32, 37, 115, 32, 37, 100]).map FmtText.glue = some [.verb {} 115, .lit [32], .verb {} 115, .lit [32], .verb {} 115, .lit [32], .verb {} 100] := by rfl

theorem t_text (s a : List UInt8) (n : Int) (hs : s.length < 2 ^ 64) (ha : a.length < 2 ^ 64) (hw : (Lit.int .i64 n).wf = true) :
    FmtText.text "fmt.Sprintf" (reading s a n) = some (lineOf s a n) := by
  have hi := FmtText.operand_int_at (sh := shape3) (k := .i64) rfl rfl n hw
  have hn := FmtText.operand_str_at (sh := shape9) rfl rfl s hs
  have hm := FmtText.operand_str_at (sh := shape9) rfl rfl a ha
  have hr := FmtText.operand_str_at (sh := shape46) rfl rfl released (by decide)
  rw [reading, FmtText.text_sprintf_glued t_parse (FmtText.operands_cons hn (FmtText.operands_cons hm (FmtText.operands_cons hr (FmtText.operands_cons hi FmtText.operands_nil))))]
  simp [FmtText.render, FmtText.printArg_d _ _ hw, FmtText.printArg_s_str, lineOf]

/-- The told text of the line, as a string. -/
theorem told_line (F : Interp) (s a : ByteArray) (n : Int) (hs : s.size ≤ 1048576) (ha : a.size ≤ 1048576) (hw : (Lit.int .i64 n).wf = true) :
    (FmtStop.textOf (F.told "fmt.Sprintf" (reading s.data.toList a.data.toList n) 0)).data.toList = lineOf s.data.toList a.data.toList n := by
  have l1 : s.data.toList.length = s.size := by simp
  have l2 : a.data.toList.length = a.size := by simp
  have l3 := FmtText.itoa_length_le hw
  rw [textOf_list, told_string F (t_text _ _ n (by omega) (by omega) hw)]
  simp only [lineOf, List.length_append, List.length_cons, List.length_nil, released]
  omega

end Go.Proofs.Qxb6614453aFmt
