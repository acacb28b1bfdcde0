/-
  The walk of 'FnWriteThroughWriteAtIsSeenThereAlone'.
-/
import Derived.Test.Qxb6615084aBase
import Derived.OpenShut
namespace Go.Proofs.Qxb6615084a
open Go.RowKit

/-- The cells of the writes by zs with no readers. -/
def flat : List Int → List Value
  | [] => []
  | z :: zs => .int .i64 z :: .slice none 0 0 :: flat zs

theorem flat_snoc (zs : List Int) (z : Int) : flat (zs ++ [z]) = flat zs ++ [.int .i64 z, .slice none 0 0] := by
  induction zs with
  | nil => rfl
  | cons a l ih => simp [flat, ih]

theorem flat_at : ∀ (zs : List Int) (i : Nat), i < zs.length → (flat zs)[i * 2]? = some (.int .i64 (zs.getD i 0))
  | [], i, h => by simp at h
  | z :: zs, 0, _ => by simp [flat]
  | z :: zs, i + 1, h => by
    have := flat_at zs i (by simpa using h)
    rw [show (i + 1) * 2 = i * 2 + 1 + 1 by omega]
    simpa [flat] using this

set_option maxHeartbeats 400000 in
theorem early (a0 : Option Addr) (len cap : Nat) (a1 a2 a3 : Int) (w : World) (hl : len ≤ maxLen)
    (h : 131072 < len ∨ a1 < 0 ∨ (len : Int) ≤ a1 ∨ a2 < 0 ∨ (len : Int) ≤ a2) :
    Calls Try.prog 4 #[.slice a0 len cap, .int .i64 a1, .int .i64 a2, .int .i64 a3] w fun e w' => e = .returned (.bool true) ∧ w' = w := by
  have hl' := hl
  unfold maxLen at hl'
  by_cases hbig : len ≤ 1048576
  · by_cases hmid : 131072 < len
    · have hm' : (131072 : Int) < len := by omega
      clear h
      go_enter Try.func4, Try.ntmps4
      go_wp2_with (go_at_call 15; refine (bytes15 _ _ _ _ _ _ _ hl).mono ?_; rintro e w' ⟨rfl, rfl⟩; simp only [hbig, decide_true])
      go_ret
      exact ⟨rfl, rfl⟩
    · have hm' : (len : Int) ≤ 131072 := by omega
      by_cases h1 : a1 < 0
      · clear h
        go_enter Try.func4, Try.ntmps4
        go_wp2_with (go_at_call 15; refine (bytes15 _ _ _ _ _ _ _ hl).mono ?_; rintro e w' ⟨rfl, rfl⟩; simp only [hbig, decide_true])
        go_ret
        exact ⟨rfl, rfl⟩
      · by_cases h2 : (len : Int) ≤ a1
        · clear h
          go_enter Try.func4, Try.ntmps4
          go_wp2_with (go_at_call 15; refine (bytes15 _ _ _ _ _ _ _ hl).mono ?_; rintro e w' ⟨rfl, rfl⟩; simp only [hbig, decide_true])
          go_ret
          exact ⟨rfl, rfl⟩
        · by_cases h3 : a2 < 0
          · clear h
            go_enter Try.func4, Try.ntmps4
            go_wp2_with (go_at_call 15; refine (bytes15 _ _ _ _ _ _ _ hl).mono ?_; rintro e w' ⟨rfl, rfl⟩; simp only [hbig, decide_true])
            go_ret
            exact ⟨rfl, rfl⟩
          · have h4 : (len : Int) ≤ a2 := by omega
            clear h
            go_enter Try.func4, Try.ntmps4
            go_wp2_with (go_at_call 15; refine (bytes15 _ _ _ _ _ _ _ hl).mono ?_; rintro e w' ⟨rfl, rfl⟩; simp only [hbig, decide_true])
            go_ret
            exact ⟨rfl, rfl⟩
  · clear h
    go_enter Try.func4, Try.ntmps4
    go_wp2_with (go_at_call 15; refine (bytes15 _ _ _ _ _ _ _ hl).mono ?_; rintro e w' ⟨rfl, rfl⟩; simp only [hbig, decide_false])
    go_ret
    exact ⟨rfl, rfl⟩

theorem take_snoc (zs : List Int) (k : Nat) (h : k < zs.length) : zs.take (k + 1) = zs.take k ++ [zs.getD k 0] := by
  rw [List.take_succ_eq_append_getElem h]; simp [List.getD, h]

theorem len_take (zs : List Int) (k : Nat) (h : k ≤ zs.length) : (zs.take k).length = k := by simp [h]

theorem getD_take (zs : List Int) (k i : Nat) (h : i < k) : (zs.take k).getD i 0 = zs.getD i 0 := by simp [List.getD, h]

set_option maxHeartbeats 400000 in
theorem inside (b off len cap : Nat) (zs : List Int) (i1 i2 : Nat) (x : Int) (w : World) (hlz : len ≤ zs.length) (hm : len ≤ 131072)
    (hc : ∀ j, j < zs.length → w.cell? ⟨b, off + j, none⟩ = some (.int .i64 (zs.getD j 0))) (h1 : i1 < len) (h2 : i2 < len) :
    Calls Try.prog 4 #[.slice (some ⟨b, off, none⟩) len cap, .int .i64 i1, .int .i64 i2, .int .i64 x] w fun e w' => e = .returned (.bool true) ∧ Below w.heap.size w w' := by
  have hb : b < w.heap.size := by
    have := hc 0 (by omega)
    rcases Nat.lt_or_ge b w.heap.size with hlt | hge
    · exact hlt
    · simp [World.cell?, Array.getElem?_eq_none hge] at this
  go_enter Try.func4, Try.ntmps4
  go_wp2_with (first
    | (go_at_call 15; refine (bytes15 _ _ _ _ _ _ _ (by unfold maxLen; omega)).mono ?_; rintro e w' ⟨rfl, rfl⟩; simp only [show len ≤ 1048576 by omega, decide_true])
    | (go_at_call 9; refine (new_any _).mono ?_; rintro e w1 ⟨rfl, hs1, hb1⟩))
  go_loopw [45] (fun i wr => ∃ k ao cp, k ≤ len ∧ i = .int .i64 (k : Nat) ∧ Srch wr w.heap.size ao k cp (flat (zs.take k)) ∧ Below w.heap.size w wr) (fun i _ => len - (intOf i).toNat)
  case atStart => exact ⟨0, none, 0, Nat.zero_le _, rfl, hs1, hb1⟩
  case round =>
    obtain ⟨k, ao, cp, hk, rfl, hs, hbel⟩ := hrel
    have hcx : k < len → wr.cell? ⟨b, off + k, none⟩ = some (.int .i64 (zs.getD k 0)) := fun _ => (hbel.cell (by exact hb)).trans (hc k (by omega))
    by_cases hlt : k < len
    · go_wp2_with (go_at_call 10; refine (add_any _ _ _ _ _ _ _ _ _ _ hs (by omega)).mono ?_; rintro e w2 ⟨rfl, hb2, g, cp', hs2⟩)
      go_roundw
      case rel => exact ⟨k + 1, some ⟨g, 0, none⟩, cp', by omega, by go_num, by rw [take_snoc zs k (by omega), flat_snoc]; exact hs2, hbel.trans hb2⟩
      case measure => simp [intOf]; omega
    · obtain rfl : k = len := by omega
      obtain ⟨g, rfl, hsbg, hglt, hcells⟩ := hs.lies (by omega)
      have hc1 : wr.cell? ⟨g, i1 * 2, none⟩ = some (.int .i64 (zs.getD i1 0)) := by
        rw [(hcells (i1 * 2)).2 (by omega), flat_at _ _ (by rw [len_take zs k hlz]; omega), getD_take zs k i1 h1]
      have hc2 : wr.cell? ⟨g, i2 * 2, none⟩ = some (.int .i64 (zs.getD i2 0)) := by
        rw [(hcells (i2 * 2)).2 (by omega), flat_at _ _ (by rw [len_take zs k hlz]; omega), getD_take zs k i2 h2]
      have hf1 := (hcells (i1 * 2)).1
      have hcs := hs.cell
      have hcs2 : (wr.setCell ⟨g, i1 * 2, none⟩ (.int .i64 x)).cell? ⟨w.heap.size, 8, none⟩ = some (.slice (some ⟨g, 0, none⟩) k cp) := by
        rw [World.cell?_setCell_other _ _ _ _ (by intro e; injection e; omega)]; exact hcs
      clear hcx hcells
      go_wp2_with fail
      refine (zzWriteAt_any _ _ _ _ _ _ hcs h1).mono ?_
      rintro e w' ⟨rfl, rfl⟩
      go_wp2_with fail
      refine (setWriter_any _ _ _ _ _ hc1 hf1).mono ?_
      rintro e w' ⟨rfl, rfl⟩
      go_wp2_with fail
      refine (zzWriteAt_any _ _ _ _ _ _ hcs2 h2).mono ?_
      rintro e w' ⟨rfl, rfl⟩
      have hbw : (wr.setCell ⟨g, i1 * 2, none⟩ (.int .i64 x)).cell? ⟨b, off + i2, none⟩ = some (.int .i64 (zs.getD i2 0)) := by
        rw [World.cell?_setCell_other _ _ _ _ (by intro e; injection e; omega), hbel.cell (by exact hb)]; exact hc i2 (by omega)
      have hend : Below w.heap.size w (wr.setCell ⟨g, i1 * 2, none⟩ (.int .i64 x)) := hbel.setCell (by show w.heap.size ≤ g; omega) _
      by_cases he : i2 = i1
      · subst he
        have hc3 : (wr.setCell ⟨g, i2 * 2, none⟩ (.int .i64 x)).cell? ⟨g, i2 * 2, none⟩ = some (.int .i64 x) := World.cell?_setCell_same _ _ _ hc1
        clear hc hs hcs hc1 hc2
        go_wp2_with fail
        refine (writer_any _ _ _ _ hc3).mono ?_
        rintro e w' ⟨rfl, rfl⟩
        go_wp2
        go_ret
        exact ⟨by simp, hend⟩
      · have hc3 : (wr.setCell ⟨g, i1 * 2, none⟩ (.int .i64 x)).cell? ⟨g, i2 * 2, none⟩ = some (.int .i64 (zs.getD i2 0)) := by
          rw [World.cell?_setCell_other _ _ _ _ (by intro e; injection e; omega)]; exact hc2
        have he' : ((i2 : Int) == (i1 : Int)) = false := by simp; omega
        clear hc hs hcs hc1 hc2
        go_wp2_with fail
        refine (writer_any _ _ _ _ hc3).mono ?_
        rintro e w' ⟨rfl, rfl⟩
        go_wp2
        go_ret
        exact ⟨by simp, hend⟩

theorem walk1 (a0 : Option Addr) (len cap : Nat) (zs : List Int) (a1 a2 a3 : Int) (w : World)
    (h : (a0 = none ∧ len = 0) ∨ ∃ x, a0 = some x ∧ len ≤ cap ∧ cap ≤ maxLen ∧ zs.length = cap ∧ ∀ i, i < zs.length → w.cell? (x.add i) = some (.int .i64 (zs.getD i 0))) :
    Calls Try.prog 4 #[.slice a0 len cap, .int .i64 a1, .int .i64 a2, .int .i64 a3] w fun e w' => e = .returned (.bool true) ∧ Below w.heap.size w w' := by
  have hmax : len ≤ maxLen := by
    rcases h with ⟨_, rfl⟩ | ⟨x, _, h1, h2, _⟩
    · exact Nat.zero_le _
    · omega
  by_cases hearly : 131072 < len ∨ a1 < 0 ∨ (len : Int) ≤ a1 ∨ a2 < 0 ∨ (len : Int) ≤ a2
  · exact (early a0 len cap a1 a2 a3 w hmax hearly).mono fun e w' ⟨he, hw⟩ => ⟨he, hw ▸ Below.refl _ _⟩
  · rcases h with ⟨_, rfl⟩ | ⟨x, rfl, h1, h2, h3, hc⟩
    · omega
    · obtain ⟨b, off, rfl, hc'⟩ := ints_at hc (by omega)
      obtain ⟨i1, rfl⟩ : ∃ i : Nat, a1 = (i : Int) := ⟨a1.toNat, by omega⟩
      obtain ⟨i2, rfl⟩ : ∃ i : Nat, a2 = (i : Int) := ⟨a2.toNat, by omega⟩
      exact inside b off len cap zs i1 i2 a3 w (by omega) (by omega) hc' (by omega) (by omega)

end Go.Proofs.Qxb6615084a
