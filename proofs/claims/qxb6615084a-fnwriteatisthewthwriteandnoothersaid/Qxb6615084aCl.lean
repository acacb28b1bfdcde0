/-
  The walk of 'zzCloneRows': rows of ints copied into new blocks.
-/
import Derived.Test.Qxb6615084aRd
import Derived.Deep.OwnRows
import Derived.Laws.CopyOwn
namespace Go.Proofs.Qxb6615084a
open Go.RowKit

theorem info22 : (Try.prog.info? 22).map (fun i => (i.zero, i.size, i.bytes)) = some (some (.slice none 0 0), 1, 24) := by kernel_rfl
theorem info3 : (Try.prog.info? 3).map (fun i => (i.zero, i.size, i.bytes)) = some (some (.int .i64 0), 1, 8) := by kernel_rfl
theorem size3 : (Try.prog.info? 3).map (·.size) = some 1 := by kernel_rfl

/-- What the outer row's cell r holds once it is filled: a copy of row r in a block behind B. -/
def Done (wr : World) (B : Nat) (v : Value) (nil : Bool) (l : Nat) (z : Nat → Int) : Prop :=
  ∃ a c, v = .slice a l c ∧ a.isNone = nil ∧ (l = 0 ∨ ∃ g, B < g ∧ a = some ⟨g, 0, none⟩ ∧ ∀ j, j < l → wr.cell? ⟨g, j, none⟩ = some (.int .i64 (z j)))

/-- The loop's relation: block B is the outer row; its first k cells are done, the others are nil. -/
structure Cl (w : World) (len k : Nat) (N : Nat → Bool) (L : Nat → Nat) (Z : Nat → Nat → Int) (wr : World) : Prop where
  bel : Below w.heap.size w wr
  row : ∃ f, wr.rowIs w.heap.size 22 len f ∧ (∀ r, k ≤ r → r < len → f r = .slice none 0 0) ∧ ∀ r, r < k → Done wr w.heap.size (f r) (N r) (L r) (Z r)

section
variable {w wr : World} {len k : Nat} {N : Nat → Bool} {L : Nat → Nat} {Z : Nat → Nat → Int}

theorem Cl.start (w : World) (len : Nat) (N : Nat → Bool) (L : Nat → Nat) (Z : Nat → Nat → Int) :
    Cl w len 0 N L Z (w.alloc (.cells (madeCells #[.slice none 0 0] len) 22)) :=
  ⟨(Below.refl _ _).alloc (Nat.le_refl _) _, _, World.rowIs_made w _ len 22, fun _ _ _ => rfl, fun r hr => by omega⟩

theorem Cl.nilRow (h : Cl w len k N L Z wr) (hk : k < len) (hN : N k = true) (hL : L k = 0) : Cl w len (k + 1) N L Z wr := by
  obtain ⟨hb, f, hf, h1, h2⟩ := h
  refine ⟨hb, f, hf, fun r hr hr' => h1 r (by omega) hr', fun r hr => ?_⟩
  rcases Nat.lt_or_ge r k with h | h
  · exact h2 r h
  · obtain rfl : r = k := by omega
    exact ⟨none, 0, by rw [h1 r (Nat.le_refl _) hk, hL], by simp [hN], .inl hL⟩

theorem Cl.cellK (h : Cl w len k N L Z wr) (hk : k < len) {w2 : World} (h2 : Below wr.heap.size wr w2) :
    w2.cell? ⟨w.heap.size, k, none⟩ = some (.slice none 0 0) ∧ w2.frozen? ⟨w.heap.size, k, none⟩ = false := by
  obtain ⟨hb, f, hf, h1, _⟩ := h
  have hf2 := hf.of_block (h2.block _ hf.lt)
  exact ⟨by rw [hf2.cell hk, h1 k (Nat.le_refl _) hk], hf2.frozen k⟩

theorem Cl.fullRow (h : Cl w len k N L Z wr) (hk : k < len) (hN : N k = false) {w2 : World} (h2 : Below wr.heap.size wr w2)
    (hc : ∀ j, j < L k → w2.cell? ⟨wr.heap.size, j, none⟩ = some (.int .i64 (Z k j))) :
    Cl w len (k + 1) N L Z (w2.setCell ⟨w.heap.size, k, none⟩ (.slice (some ⟨wr.heap.size, 0, none⟩) (L k) (L k))) := by
  obtain ⟨hb, f, hf, h1, h3⟩ := h
  have hlt := hf.lt
  have hf2 := hf.of_block (h2.block _ hf.lt)
  refine ⟨(hb.trans (h2.mono (by omega))).setCell (Nat.le_refl _) _, _, hf2.set k _, fun r hr hr' => ?_, fun r hr => ?_⟩
  · show (if r = k then _ else f r) = _
    rw [if_neg (by omega)]
    exact h1 r (by omega) hr'
  · rcases Nat.lt_or_ge r k with h | h
    · show Done _ _ (if r = k then _ else f r) _ _ _
      rw [if_neg (by omega)]
      obtain ⟨a, c, e1, e2, e3⟩ := h3 r h
      refine ⟨a, c, e1, e2, ?_⟩
      rcases e3 with e3 | ⟨g, hg, ha, hcell⟩
      · exact .inl e3
      · refine .inr ⟨g, hg, ha, fun j hj => ?_⟩
        rw [World.cell?_setCell_other _ _ _ _ (by intro e; injection e; omega), h2.cell (by exact cell_lt (hcell j hj))]
        exact hcell j hj
    · obtain rfl : r = k := by omega
      show Done _ _ (if r = r then _ else f r) _ _ _
      rw [if_pos rfl]
      refine ⟨some ⟨wr.heap.size, 0, none⟩, L r, rfl, by simp [hN], .inr ⟨wr.heap.size, hlt, rfl, fun j hj => ?_⟩⟩
      rw [World.cell?_setCell_other _ _ _ _ (by intro e; injection e; omega)]
      exact hc j hj

theorem Cl.finish (h : Cl w len len N L Z wr) : RowsIn wr w.heap.size 0 len N L Z := by
  obtain ⟨_, f, hf, _, h3⟩ := h
  intro r hr
  obtain ⟨a, c, e1, e2, e3⟩ := h3 r hr
  refine ⟨a, c, by rw [Nat.zero_add, hf.cell hr, e1], e2, ?_⟩
  rcases e3 with e3 | ⟨g, _, ha, hcell⟩
  · exact .inl e3
  · exact .inr ⟨g, 0, ha, fun j hj => by rw [Nat.zero_add]; exact hcell j hj⟩
end

theorem splice_all {α : Type} (X cs : List α) (h : cs.length = X.length) : splice X 0 cs = cs := by simp [splice, h]

set_option maxHeartbeats 400000 in
theorem clone8 (b off len cap : Nat) (w : World) (N : Nat → Bool) (L : Nat → Nat) (Z : Nat → Nat → Int) (H : RowsIn w b off len N L Z) (hlen : len ≤ 1048576) (hL : ∀ r, r < len → L r ≤ 131072) :
    Calls Try.prog 8 #[.slice (some ⟨b, off, none⟩) len cap] w fun e w' => e = .returned (.slice (some ⟨w.heap.size, 0, none⟩) len len) ∧ RowsIn w' w.heap.size 0 len N L Z ∧ Below w.heap.size w w' := by
  have q23 : ∀ (w : World) (a : Option Addr) (n c n' c' : Nat), (binOp .eql 23 (.slice a n c) (.slice none n' c')).run Try.prog w = .ok (.bool a.isNone) w := fun w a n c n' c' => Lib.run_eql_slice_nil w _ _ a n c n' c' Try.underlying23
  have p22 : ∀ (w : World) (a : Option Addr) (n c n' c' : Nat), (binOp .neq 22 (.slice a n c) (.slice none n' c')).run Try.prog w = .ok (.bool (!a.isNone)) w := fun w a n c n' c' => run_neq_slice_nil_any w _ _ a n c n' c' Try.underlying22
  have hmk := run_make_row' (P := Try.prog) 23 22 (.slice none 0 0) 24 Try.underlying23 info22 rfl .i64 .i64 len (by omega) (by omega)
  go_enter Try.func8, Try.ntmps8
  go_wp2
  go_loopw [14] (fun i wr => ∃ k : Nat, k ≤ len ∧ i = .int .i64 k ∧ Cl w len k N L Z wr) (fun i _ => len - (intOf i).toNat)
  case atStart => exact ⟨0, Nat.zero_le _, rfl, Cl.start w len N L Z⟩
  case round =>
    obtain ⟨k, hk, rfl, hcl⟩ := hrel
    by_cases hlt : k < len
    · obtain ⟨a, c, h1, h2, h3⟩ := H k hlt
      have hLk := hL k hlt
      have h1' : wr.cell? ⟨b, off + k, none⟩ = some (.slice a (L k) c) := by rw [hcl.bel.cell (by exact cell_lt h1)]; exact h1
      have hmk2 := run_make_row' (P := Try.prog) 22 3 (.int .i64 0) 8 Try.underlying22 info3 rfl .i64 .i64 (L k) (by omega) (by omega)
      have H3 : Hid (RowAt wr a (L k) (Z k)) := h3.below hcl.bel
      have HN : Hid (a.isNone = N k) := h2
      clear h1 h3 H hL hmk h2
      cases a with
      | none =>
        have hr := hcl.nilRow hlt HN.out.symm (by rcases H3.out with h | ⟨_, _, h, _⟩; exact h; cases h)
        clear hmk2
        go_wp2
        go_roundw
        case rel => exact ⟨k + 1, by omega, by go_num, hr⟩
        case measure => simp [intOf]; omega
      | some ad =>
        obtain ⟨cs, hcs⟩ : ∃ cs : List Value, cs = (List.range (L k)).map fun j => .int .i64 (Z k j) := ⟨_, rfl⟩
        have hcl1 : cs.length = L k := by rw [hcs]; simp
        have hcg : ∀ j v, cs[j]? = some v → j < L k ∧ v = .int .i64 (Z k j) := by
          intro j v hv
          rw [hcs] at hv
          obtain ⟨hj, hv⟩ := List.getElem?_eq_some_iff.1 hv
          simp at hj hv
          exact ⟨hj, hv.symm⟩
        have hco : ∀ v ∈ cs, v.oneCell' = true := by intro v hv; rw [hcs] at hv; simp at hv; obtain ⟨j, _, rfl⟩ := hv; rfl
        have HC : Hid (cs = (List.range (L k)).map fun j => .int .i64 (Z k j)) := hcs
        clear hcs
        have hb1 : Below wr.heap.size wr (wr.alloc (.cells (madeCells #[.int .i64 0] (L k)) 3)) := (Below.refl _ _).alloc (Nat.le_refl _) _
        have hpos : 0 < cs.length → (some ⟨wr.heap.size, 0, none⟩ : Option Addr) = some ⟨wr.heap.size, 0, none⟩ ∧ ∃ ad', some ad = some ad' ∧ ∀ j v, cs[j]? = some v → (wr.alloc (.cells (madeCells #[.int .i64 0] (L k)) 3)).cell? (ad'.add j) = some v := by
          intro hp
          refine ⟨rfl, ad, rfl, fun j v hv => ?_⟩
          obtain ⟨hj, rfl⟩ := hcg j v hv
          rcases H3.out with h | ⟨b', o', h, hc'⟩
          · omega
          · cases h
            rw [Go.WideShapes.add_plain, hb1.cell (by exact cell_lt (hc' j hj))]
            exact hc' j hj
        have Hpos : Hid _ := hpos
        have Hcg : Hid _ := hcg
        have Hco : Hid _ := hco
        clear hpos hcg hco
        go_wp2_with (refine wpList_copy_splice rfl (.tmp 24) (.tmp 25) 22 22 rfl 3 Try.underlying22 size3 _ _ _ _ _ _ rfl rfl wr.heap.size 0 (madeCells #[.int .i64 0] (L k)).toList 3 ?c1 cs ?c2 Hpos.out ?c3 Hco.out wr.heap.size wr hb1 (Nat.le_refl _) ?c4)
        case c1 => simpa using heap_alloc_new wr _
        case c3 => rw [size_madeCells]; exact Nat.le_refl _
        case c4 =>
          intro w2 HG2 hB2
          have hcells : ∀ j, j < L k → w2.cell? ⟨wr.heap.size, j, none⟩ = some (.int .i64 (Z k j)) := by
            intro j hj
            rw [cell_of_row w2 wr.heap.size j _ 3 (0, 0) HG2.out, splice_all _ _ (by rw [hcl1, Array.length_toList, size_madeCells])]
            have hcs := HC.out
            rw [hcs]
            simp [hj]
          obtain ⟨hc1, hf1⟩ := hcl.cellK hlt hB2
          have hr := hcl.fullRow hlt HN.out.symm hB2 hcells
          clear HG2 hB2 hcells Hpos Hcg Hco hcl hcl1 h1' hmk2 hb1
          go_wp2
          go_roundw
          case rel => exact ⟨k + 1, by omega, by go_num, hr⟩
          case measure => simp [intOf]; omega
    · obtain rfl : k = len := by omega
      go_wp2
      go_ret
      exact ⟨rfl, hcl.finish, hcl.bel⟩

end Go.Proofs.Qxb6615084a
