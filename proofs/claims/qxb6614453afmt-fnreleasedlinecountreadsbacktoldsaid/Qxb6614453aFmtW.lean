/-
  The walk of 'FnReleasedLineCountReadsBack', fmt's text told.
-/
import Derived.Test.Qxb6614453aFmtLine
import Derived.Test.Qxb6614453aFmtLast
import Derived.Lib.IndexBytes
namespace Go.Proofs.Qxb6614453aFmt
open Go.RowKit Go.Kit
open Go.Extern.Stop Go.Stop Go.Extern

set_option maxHeartbeats 400000 in
theorem bytes6 (a b : ByteArray) (x y : Int) (w : World) (ha : a.size ≤ maxLen) (hb : b.size ≤ maxLen) :
    Calls Tryf.prog 6 #[.string a, .string b, .int .i64 x, .int .i64 y] w fun e w' => ∃ β : Bool, e = .returned (.bool β) ∧ w = w' := by
  unfold maxLen at ha hb
  by_cases h1 : a.size ≤ 1048576
  · by_cases h2 : b.size ≤ 1048576
    · by_cases h3 : a.size + b.size ≤ 1048576
      · go_enter Tryf.func6, Tryf.ntmps6
        go_wp2
        go_ret
        exact ⟨true, rfl, rfl⟩
      · go_enter Tryf.func6, Tryf.ntmps6
        go_wp2
        go_ret
        exact ⟨false, rfl, rfl⟩
    · go_enter Tryf.func6, Tryf.ntmps6
      go_wp2
      go_ret
      exact ⟨false, rfl, rfl⟩
  · go_enter Tryf.func6, Tryf.ntmps6
    go_wp2
    go_ret
    exact ⟨false, rfl, rfl⟩

/-! ### Plain laws on the line -/

theorem line_parts (s a : List UInt8) (n : Int) : lineOf s a n = (s ++ [32] ++ a ++ [32] ++ released) ++ 32 :: Lib.itoa n := by simp [lineOf]

theorem get_of_list {x : ByteArray} {l : List UInt8} (h : x.data.toList = l) (i : Nat) (hi : i < x.size) (hi' : i < l.length) : x[i] = l[i] := by
  have e : x[i] = x.data.toList[i]'(by simpa using hi) := rfl
  rw [e, List.getElem_of_eq h]

/-- What 'zzLastInt' is told of the line. -/
theorem line_last {x s a : ByteArray} {n : Int} (h : x.data.toList = lineOf s.data.toList a.data.toList n) :
    x.size = s.size + a.size + 11 + (Lib.itoa n).length ∧ (∀ hi : s.size + a.size + 11 - 1 < x.size, x[s.size + a.size + 11 - 1].toNat = 32) ∧
      (∀ i, s.size + a.size + 11 ≤ i → ∀ hi : i < x.size, x[i].toNat ≠ 32) ∧ (x.extract (s.size + a.size + 11) x.size).data.toList = Lib.itoa n := by
  have hp : (s.data.toList ++ [32] ++ a.data.toList ++ [32] ++ released).length = s.size + a.size + 10 := by simp [released]; omega
  rw [line_parts] at h
  have hsz : x.size = s.size + a.size + 11 + (Lib.itoa n).length := by
    have := congrArg List.length h
    rw [List.length_append, hp, List.length_cons] at this
    have e : x.data.toList.length = x.size := by simp
    omega
  generalize s.data.toList ++ [32] ++ a.data.toList ++ [32] ++ released = P at h hp
  refine ⟨hsz, fun hi => ?_, fun i h0 hi => ?_, ?_⟩
  · rw [get_of_list h _ hi (by simp; omega), List.getElem_append_right (by omega)]
    have hg : (32 :: Lib.itoa n)[s.size + a.size + 11 - 1 - P.length]'(by simp; omega) = 32 := by
      simp only [List.getElem_cons]
      rw [dif_pos (by omega)]
    rw [hg]; rfl
  · rw [get_of_list h _ hi (by simp; omega), List.getElem_append_right (by omega)]
    have hl : i - P.length - 1 < (Lib.itoa n).length := by omega
    have hg : (32 :: Lib.itoa n)[i - P.length]'(by simp; omega) = (Lib.itoa n)[i - P.length - 1] := by
      simp only [List.getElem_cons]
      rw [dif_neg (by omega)]
    rw [hg]
    intro hc
    exact itoa_noblank n _ (List.getElem_mem hl) (UInt8.toNat_inj.1 (by simpa using hc))
  · rw [Lib.extract_to_end, h]
    have e : s.size + a.size + 11 = P.length + 1 := by omega
    rw [e, List.drop_append]
    simp

/-- The line begins with the session and the action. -/
theorem line_head {x s a : ByteArray} {n : Int} (h : x.data.toList = lineOf s.data.toList a.data.toList n) :
    x.extract 0 (s.size + 1 + a.size + 1) = s ++ { data := #[32] } ++ a ++ { data := #[32] } := by
  apply WideShapes.bytes_inj
  rw [Lib.extract_data, h]
  have e : lineOf s.data.toList a.data.toList n = (s.data.toList ++ [32] ++ a.data.toList ++ [32]) ++ (released ++ [32] ++ Lib.itoa n) := by simp [lineOf]
  have hl : (s.data.toList ++ [32] ++ a.data.toList ++ [32]).length = s.size + 1 + a.size + 1 := by simp; omega
  rw [e, List.drop_zero, Nat.sub_zero, ← hl, List.take_left]
  simp

theorem line_inj {x y s a : ByteArray} {n m : Int} (hx : x.data.toList = lineOf s.data.toList a.data.toList n) (hy : y.data.toList = lineOf s.data.toList a.data.toList m) (hnm : ¬ n = m) : (x.toList == y.toList) = false := by
  rw [beq_eq_false_iff_ne]
  intro e
  rw [ByteArray.toList_eq, ByteArray.toList_eq, hx, hy, lineOf, lineOf] at e
  exact hnm (itoa_inj (List.append_cancel_left e))

set_option maxHeartbeats 400000 in
theorem walk3 (F : Interp) (s a : ByteArray) (n m : Int) (w : World) (hF : F.told.answers w.tape) (hs : s.size ≤ maxLen) (ha : a.size ≤ maxLen) (hn : (Lit.int .i64 n).wf = true) (hm : (Lit.int .i64 m).wf = true) :
    Calls Tryf.prog 3 #[.string s, .string a, .int .i64 n, .int .i64 m] w fun e w' => e = .returned (.bool true) ∧ Below w.heap.size w w' := by
  have hs' := hs
  have ha' := ha
  unfold maxLen at hs ha
  go_enter Tryf.func3, Tryf.ntmps3
  go_wp2_with fail
  refine (bytes6 s a n m w hs' ha').mono ?_
  rintro e w' ⟨β, rfl, rfl⟩
  clear hs' ha'
  cases β with
  | false =>
    go_wp2
    go_ret
    exact ⟨rfl, Below.refl _ _⟩
  | true =>
    by_cases h1 : s.size ≤ 65536
    · by_cases h2 : a.size ≤ 65536
      · go_wp2_with fail
        refine (line7 F.told s a n w hF).mono ?_
        rintro e w1 ⟨rfl, hb1⟩
        go_wp2_with fail
        refine (line7 F.told s a m w1 (by rw [hb1.tape]; exact hF)).mono ?_
        rintro e w2 ⟨rfl, hb2⟩
        have hX := told_line F s a n (by omega) (by omega) hn
        have hY := told_line F s a m (by omega) (by omega) hm
        have hend : Below w.heap.size w w2 := hb1.trans (hb2.mono hb1.size)
        generalize FmtStop.textOf (F.told "fmt.Sprintf" (reading s.data.toList a.data.toList n) 0) = x at hX ⊢
        generalize FmtStop.textOf (F.told "fmt.Sprintf" (reading s.data.toList a.data.toList m) 0) = y at hY ⊢
        clear hb1 hb2 hF
        have HX : Hid (x.data.toList = lineOf s.data.toList a.data.toList n) := hX
        have HY : Hid (y.data.toList = lineOf s.data.toList a.data.toList m) := hY
        clear hX hY
        obtain ⟨sx, px, qx, tx⟩ := line_last HX.out
        have hnb : -9223372036854775808 ≤ n ∧ n ≤ 9223372036854775807 := by
          have := hn
          simp [Lit.wf, IntKind.min, IntKind.max, IntKind.signed, IntKind.bits] at this
          omega
        have hlen := FmtText.itoa_length_le hn
        have C := last8 x (x.extract (s.size + a.size + 11) x.size) (s.size + a.size + 11) n w2 (by omega) (by omega) (by omega) px qx rfl tx hnb.1 hnb.2
        have hgt : s.size + a.size + 11 < x.size := by
          have : 1 ≤ (Lib.itoa n).length := by
            rcases itoa_forms n with ⟨_, e⟩ | ⟨_, e⟩
            · rw [e]; exact dec_pos _
            · rw [e]; simp
          omega
        have hle : x.size ≤ 1048576 := by omega
        clear px qx tx sx hlen hn hm
        go_wp2_with fail
        refine C.mono ?_
        clear C
        rintro e w' ⟨rfl, rfl⟩
        have hhead := line_head HX.out
        by_cases hnm : n = m
        · subst hnm
          obtain rfl : x = y := WideShapes.bytes_inj (HX.out.trans HY.out.symm)
          clear HX HY
          go_wp2
          go_ret
          exact ⟨by simp, hend⟩
        · have hxy := line_inj HX.out HY.out hnm
          have hnm' : (n == m) = false := by simpa using hnm
          clear HX HY hnm
          go_wp2
          go_ret
          exact ⟨by simp, hend⟩
      · go_wp2
        go_ret
        exact ⟨rfl, Below.refl _ _⟩
    · go_wp2
      go_ret
      exact ⟨rfl, Below.refl _ _⟩

end Go.Proofs.Qxb6614453aFmt
