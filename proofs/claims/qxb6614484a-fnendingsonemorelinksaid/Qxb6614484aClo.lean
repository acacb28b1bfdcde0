/-
  The walk of 'closure' over the function value of 'endings'.
-/
import Derived.Test.Qxb6614484aInto
import Derived.WalkSmall
import Derived.WideShapes
import Derived.Deep.LoopGhost
namespace Go.Proofs.Qxb6614484a
open Go.RowKit

theorem info4 : (Try.prog.info? 4).map (fun i => (i.zero, i.size, i.bytes)) = some (some (.bool false), 1, 1) := by kernel_rfl
theorem infoI3 : (Try.prog.info? 3).map (fun i => (i.zero, i.size, i.bytes)) = some (some (.int .i64 0), 1, 8) := by kernel_rfl

/-- Block w.heap.size is the set b; the slice at g (of the call's own) is the stack T. -/
structure ClS (w : World) (n : Nat) (b : Nat → Bool) (T : List Nat) (g cap : Nat) (wr : World) : Prop where
  bel : Below w.heap.size w wr
  row : wr.rowIs w.heap.size 4 n (fun i => .bool (b i))
  own : wr.ownsRow (w.heap.size + 1) 3 1 (.slice (some ⟨g, 0, none⟩) T.length cap) T.length (ids T)

section
variable {w wr : World} {n : Nat} {b : Nat → Bool} {T : List Nat} {g cap : Nat}

theorem ClS.mark (h : ClS w n b T g cap wr) (t : Nat) : ClS w n (setB b t) T g cap (wr.setCell ⟨w.heap.size, t, none⟩ (.bool true)) := by
  refine ⟨h.bel.setCell (Nat.le_refl _) _, (h.row.set t _).congr fun s _ => ?_, ownsRow_setCell_below h.own (by simp) _⟩
  unfold setB
  by_cases e : s = t
  · simp [e]
  · simp [e]

theorem ClS.push (h : ClS w n b T g cap wr) {t g' cap' : Nat} {o : Obj} {w1 : World}
    (hown : w1.ownsRow (w.heap.size + 1) 3 1 (.slice (some ⟨g', 0, none⟩) (T.length + 1) cap') (T.length + 1) (ids T ++ [.int .i64 (t : Int)]))
    (hgrow : (wr.alloc o).grownBy w1 (Value.slice (some ⟨g, 0, none⟩) T.length cap).ownBlock) : ClS w n b (T ++ [t]) g' cap' w1 := by
  have hblk := h.own.lt
  have hB : w.heap.size < wr.heap.size := h.row.lt
  refine ⟨(h.bel.alloc h.bel.size _).grown hgrow (by simp; omega) fun k hk => by have := (hblk k hk).1; omega, ?_, ?_⟩
  · exact (h.row.alloc _).of_block (hgrow.block _ (by simp; omega) fun e => by have := (hblk _ e.symm).1; omega)
  · rw [List.length_append, List.length_singleton, ids_snoc]; exact hown

theorem ClS.pop {q : Nat} (h : ClS w n b (T ++ [q]) g cap wr) : ClS w n b T g cap wr ∧ wr.cell? ⟨g, T.length, none⟩ = some (.int .i64 (q : Int)) := by
  have ho := h.own
  rw [List.length_append, List.length_singleton, ids_snoc] at ho
  refine ⟨⟨h.bel, h.row, ownsRow_pop (by rw [ids_length]; omega) ho⟩, ?_⟩
  rw [ho.cellAt T.length (by omega), List.getElem?_append_right (by rw [ids_length]; omega)]
  simp [ids_length]

theorem ClS.room (h : ClS w n b T g cap wr) : T.length ≤ cap := by
  rcases h.own.2 with ⟨h0, _⟩ | ⟨g', cap', cur, hv, _, _, hn, _⟩
  · cases h0
  · cases hv; exact hn

theorem last_of {T : List Nat} {h1 : Nat} (hl : T.length = h1 + 1) : ∃ T' q, T = T' ++ [q] ∧ T'.length = h1 := by
  have hne : T ≠ [] := by intro e; rw [e] at hl; simp at hl
  exact ⟨T.dropLast, T.getLast hne, (List.dropLast_concat_getLast hne).symm, by rw [List.length_dropLast]; omega⟩
end

set_option maxHeartbeats 400000 in
theorem link24 (vb ib n q c : Nat) (a : Option Addr) (l : Nat) (w : World) (hv : w.cell? ⟨vb, 0, none⟩ = some (.slice (some ⟨ib, 0, none⟩) n n)) (hq : q < n) (hc : w.cell? ⟨ib, q, none⟩ = some (.slice a l c)) :
    Calls Try.prog 24 #[.int .i64 q, .pointer (some ⟨vb, 0, none⟩)] w fun e w' => e = .returned (.slice a l c) ∧ w = w' := by
  go_enter Try.func24, Try.ntmps24
  go_wp2
  go_ret
  exact ⟨rfl, rfl⟩

theorem make01 (w : World) : (Instr.makeSlice 22 (.int .i64 0) (.int .i64 1)).run Try.prog w = .ok (.slice (some ⟨w.heap.size, 0, none⟩) 0 1) (w.alloc (.cells #[.int .i64 0] 3)) := by kernel_rfl

/-- The first loop's relation: before and behind the one start. -/
def Rel1 (f k : Nat) (b : Nat → Bool) (T : List Nat) : Prop := (k = 0 ∧ b = (fun _ => false) ∧ T = []) ∨ (k = 1 ∧ b = setB (fun _ => false) f ∧ T = [f])

/-- The second loop's relation; gk bounds the rounds to come. -/
def Rel2 (n f gk : Nat) (L : Nat → Nat) (E : Nat → Nat → Nat) (b : Nat → Bool) (T : List Nat) : Prop := CInv n f L E b T ∧ cntF b n + T.length ≤ gk ∧ gk ≤ n

set_option maxHeartbeats 1000000 in
theorem clo20 (fb vb ib n f : Nat) (X : Nat → Option Addr) (L K : Nat → Nat) (Z : Nat → Nat → Int) (E : Nat → Nat → Nat) (w : World) (hn : n ≤ 65536) (hf : f < n)
    (hcf : w.cell? ⟨fb, 0, none⟩ = some (.int .i64 f)) (hcv : w.cell? ⟨vb, 0, none⟩ = some (.slice (some ⟨ib, 0, none⟩) n n))
    (HR : RowsIn w ib 0 n X L K Z) (hL : ∀ r, r < n → L r ≤ 20000000000) (HZ : ∀ r, r < n → ∀ j, j < L r → Z r j = (E r j : Int) ∧ E r j < n) :
    Calls Try.prog 20 #[.int .i64 n, .slice (some ⟨fb, 0, none⟩) 1 1, .func (Fn.func 24) #[] #[.pointer (some ⟨vb, 0, none⟩)]] w fun e w' =>
      e = .returned (.slice (some ⟨w.heap.size, 0, none⟩) n n) ∧ ∃ b, Clo n f L E b ∧ (∀ i, i < n → w'.cell? ⟨w.heap.size, i, none⟩ = some (.bool (b i))) ∧ Below w.heap.size w w' := by
  obtain ⟨i0, hi, hz0, hz1, hz2⟩ := info_parts infoI3
  have hmk := run_make_row' (P := Try.prog) 24 4 (.bool false) 1 Try.underlying24 info4 rfl .i64 .i64 n (by omega) (by omega)
  have hmk1 := make01
  have hfb := cell_lt hcf
  go_enter Try.func20, Try.ntmps20
  go_wp2
  go_loopw [8, 21] (fun v i wr => ∃ k g cap b T, k ≤ 1 ∧ i = .int .i64 (k : Nat) ∧ v = .slice (some ⟨g, 0, none⟩) (List.length T) cap ∧ ClS w n b T g cap wr ∧ Rel1 f k b T) (fun _ i _ => 1 - (intOf i).toNat)
  case atStart =>
    refine ⟨0, w.heap.size + 1, 1, fun _ => false, [], by omega, rfl, rfl, ⟨?_, ?_, ?_⟩, .inl ⟨rfl, rfl, rfl⟩⟩
    · exact ((Below.refl _ _).alloc (Nat.le_refl _) _).alloc (by simp) _
    · exact (World.rowIs_made w _ n 4).alloc _
    · have := World.ownsRow_made (base := w.heap.size + 1) (e := 3) (size := 1) (w.alloc (.cells (madeCells #[.bool false] n) 4)) #[.int .i64 0] 1 (by simp) (by unfold maxLen; omega) rfl
      simpa [ids] using this
  case round =>
    obtain ⟨k, g, cap, b, T, hk, rfl, rfl, hS, hR⟩ := hrel
    by_cases hlt : k < 1
    · obtain rfl : k = 0 := by omega
      obtain ⟨rfl, rfl⟩ : b = (fun _ => false) ∧ T = [] := by
        rcases hR with ⟨_, h1, h2⟩ | ⟨h, _, _⟩
        · exact ⟨h1, h2⟩
        · cases h
      have c1 : wr.cell? ⟨fb, 0, none⟩ = some (.int .i64 f) := by rw [hS.bel.cell (by exact hfb)]; exact hcf
      have c2 : wr.cell? ⟨w.heap.size, f, none⟩ = some (.bool false) := hS.row.cell hf
      have c3 := hS.row.frozen f
      have hS2 := hS.mark f
      have hown := hS2.own
      have hBl := hS.row.lt
      clear hmk hmk1 HR HZ hL
      go_wp2_with (at_builtin; refine wpList_append_lies _ rfl _ _ 22 rfl (w.heap.size + 1) 3 i0 _ 1 8 Try.underlying22 hi hz0 hz1 hz2 rfl (by decide) _ 0 (ids []) rfl (hown.alloc _) ⟨wr.heap.size, 0, none⟩ 1 1 [.int .i64 (f : Int)] rfl rfl ?c1 ?c2 (by decide) ?c3 ?c4 ?c5 (wr.heap.size + 1) (by simp) ?c6)
      case c1 =>
        intro i u hu
        match i, hu with
        | 0, hu => simp at hu; subst hu; rw [Go.WideShapes.add_plain, World.cell?_alloc_at _ _ _ _ (by simp)]; rfl
      case c2 => intro u hu; simp at hu; subst hu; rfl
      case c3 => unfold maxLen; omega
      case c4 => omega
      case c5 => simp; omega
      case c6 =>
        intro g' cap' w1 hown1 hgrow hat hltg
        have R := hS2.push (t := f) hown1 hgrow
        clear hown1 hgrow hat hown c1 c2 c3 hS hS2 hR
        go_wp2
        go_roundw
        case rel => exact ⟨1, g', cap', _, [f], by omega, rfl, rfl, R, .inr ⟨rfl, rfl, rfl⟩⟩
        case measure => simp [intOf]
    · obtain rfl : k = 1 := by omega
      obtain ⟨hb, hT⟩ : b = setB (fun _ => false) f ∧ T = [f] := by
        rcases hR with ⟨h, _, _⟩ | ⟨_, h1, h2⟩
        · cases h
        · exact ⟨h1, h2⟩
      have hI : Rel2 n f n L E b T := by
        rw [hb, hT]
        refine ⟨CInv.init hf, ?_, Nat.le_refl _⟩
        have := cntF_set (fun _ => false) f rfl n hf
        rw [cntF_none] at this
        simp only [List.length_singleton]
        omega
      have HI : Hid (Rel2 n f n L E b T) := hI
      clear hb hT hI hR hmk hmk1
      obtain ⟨wa, rfl⟩ : ∃ wa : World, wa = wr := ⟨_, rfl⟩
      go_wp2
      go_loopg [8] n (fun gk v wr => ∃ g cap b T, v = .slice (some ⟨g, 0, none⟩) (List.length T) cap ∧ ClS w n b T g cap wr ∧ Rel2 n f gk L E b T)
      case atStart => exact ⟨g, cap, b, T, rfl, hS, HI.out⟩
      case round =>
        obtain ⟨g2, cap2, b2, T2, rfl, hS2, hR2⟩ := hrel
        clear hS HI
        rcases Nat.eq_zero_or_pos T2.length with h0 | hpos
        · obtain rfl : T2 = [] := List.eq_nil_of_length_eq_zero h0
          have hC := hR2.1.finish
          clear hR2 HR HZ hL
          go_wp2
          go_ret
          exact ⟨rfl, b2, hC, fun i hi => hS2.row.cell hi, hS2.bel⟩
        · obtain ⟨T3, q, rfl, hl3⟩ := last_of (T := T2) (h1 := T2.length - 1) (by omega)
          obtain ⟨hS3, cq⟩ := hS2.pop
          have hroom := hS2.room
          rw [List.length_append, List.length_singleton] at hroom
          obtain ⟨hC0, hcnt, hgn⟩ := hR2
          rw [List.length_append, List.length_singleton] at hcnt
          have hC := hC0.pop
          have hqn := hC.here.1
          obtain ⟨hr1, hrow⟩ := HR q hqn
          rw [Nat.zero_add] at hr1
          have cr : wr.cell? ⟨ib, q, none⟩ = some (.slice (X q) (L q) (K q)) := by rw [hS3.bel.cell (by exact cell_lt hr1)]; exact hr1
          have cv : wr.cell? ⟨vb, 0, none⟩ = some (.slice (some ⟨ib, 0, none⟩) n n) := by rw [hS3.bel.cell (by exact cell_lt hcv)]; exact hcv
          have hlq := hL q hqn
          have hZq := HZ q hqn
          have hT3b : T3.length ≤ 65536 := by omega
          have HC : Hid (CIn n f L E b2 T3 q 0 ∧ cntF b2 n + T3.length + 1 ≤ gk ∧ gk ≤ n) := ⟨hC, by omega, hgn⟩
          obtain ⟨aq, haq⟩ : ∃ aq, aq = X q := ⟨_, rfl⟩
          rw [← haq] at cr hrow
          clear haq hC0 hC hcnt hgn hr1 HR HZ hL hS2 hl3 hpos
          obtain ⟨wo, rfl⟩ : ∃ wo : World, wo = wr := ⟨_, rfl⟩
          rcases Nat.eq_zero_or_pos (L q) with h0 | hpos
          · have R : Rel2 n f (gk - 1) L E b2 T3 := by
              obtain ⟨r1, r2, r3⟩ := HC.out
              exact ⟨CIn.finish (by rw [h0]; exact r1), by omega, by omega⟩
            have hgk : gk - 1 < gk := by have := HC.out.2.1; omega
            rw [h0] at cr
            clear HC hrow hZq h0 hlq
            go_wp2_with (go_at_call 24; refine (link24 vb ib n q (K q) _ 0 _ cv hqn cr).mono ?_; rintro e w' ⟨rfl, rfl⟩)
            go_loopw [8, 56] (fun v i wr => i = .int .i64 0 ∧ v = .slice (some ⟨g2, 0, none⟩) (List.length T3) cap2 ∧ ClS w n b2 T3 g2 cap2 wr) (fun _ _ _ => 0)
            case atStart => exact ⟨rfl, rfl, hS3⟩
            case round =>
              obtain ⟨rfl, rfl, hS4⟩ := hrel
              go_wp2
              go_roundg (gk - 1)
              case measure => exact hgk
              case rel => exact ⟨g2, cap2, b2, T3, rfl, hS4, R⟩
          · rcases hrow with h | ⟨rb, ro, rfl, hrow⟩
            · omega
            go_wp2_with (go_at_call 24; refine (link24 vb ib n q (K q) _ (L q) _ cv hqn cr).mono ?_; rintro e w' ⟨rfl, rfl⟩)
            clear cr cv cq
            go_loopw [8, 56] (fun v i wr => ∃ j g cap b T, j ≤ L q ∧ i = .int .i64 (j : Nat) ∧ v = .slice (some ⟨g, 0, none⟩) (List.length T) cap ∧ ClS w n b T g cap wr ∧ Hid (CIn n f L E b T q j ∧ cntF b n + T.length + 1 ≤ gk ∧ gk ≤ n)) (fun _ i _ => L q - (intOf i).toNat)
            case atStart => exact ⟨0, g2, cap2, b2, T3, Nat.zero_le _, rfl, rfl, hS3, HC⟩
            case round =>
              obtain ⟨j, g4, cap4, b4, T4, hj, rfl, rfl, hS4, HC4⟩ := hrel
              clear hS3 HC hroom hT3b
              by_cases hjl : j < L q
              · obtain ⟨hz, hE⟩ := hZq j hjl
                have d1 : wr.cell? ⟨rb, ro + j, none⟩ = some (.int .i64 (E q j : Int)) := by
                  rw [hS4.bel.cell (by exact cell_lt (hrow j hjl)), hrow j hjl, hz]
                have HE : Hid (CIn n f L E b4 T4 q j ∧ cntF b4 n + T4.length + 1 ≤ gk ∧ gk ≤ n) := HC4
                have hT4 : T4.length ≤ 65536 := by obtain ⟨_, h1, h2⟩ := HE.out; omega
                obtain ⟨t, ht⟩ : ∃ t, t = E q j := ⟨_, rfl⟩
                have HT : Hid (t = E q j) := ht
                rw [← ht] at d1 hE
                clear ht hz HC4
                have d2 := hS4.row.cell hE
                have d3 := hS4.row.frozen t
                cases hbt : b4 t with
                | true =>
                  rw [hbt] at d2
                  have R : Hid (CIn n f L E b4 T4 q (j + 1) ∧ cntF b4 n + T4.length + 1 ≤ gk ∧ gk ≤ n) := ⟨HE.out.1.old (by rw [← HT.out]; exact hbt), HE.out.2.1, HE.out.2.2⟩
                  clear HE hbt hrow hZq
                  go_wp2
                  go_roundw
                  case rel => exact ⟨j + 1, g4, cap4, b4, T4, by omega, by go_num, rfl, hS4, R⟩
                  case measure => simp [intOf]; omega
                | false =>
                  rw [hbt] at d2
                  have hS5 := hS4.mark t
                  have hown := hS5.own
                  have hBl := hS4.row.lt
                  have R : Hid (CIn n f L E (setB b4 t) (T4 ++ [t]) q (j + 1) ∧ cntF (setB b4 t) n + (T4 ++ [t]).length + 1 ≤ gk ∧ gk ≤ n) := by
                    obtain ⟨r1, r2, r3⟩ := HE.out
                    have hc := cntF_set b4 t hbt n hE
                    have ht := HT.out
                    refine ⟨?_, by rw [List.length_append, List.length_singleton]; omega, r3⟩
                    rw [ht] at hE ⊢
                    exact r1.new hjl hE
                  clear HE hbt hrow hZq
                  go_wp2_with (at_builtin; refine wpList_append_lies _ rfl _ _ 22 rfl (w.heap.size + 1) 3 i0 _ 1 8 Try.underlying22 hi hz0 hz1 hz2 rfl (by decide) _ T4.length (ids T4) rfl (hown.alloc _) ⟨wr.heap.size, 0, none⟩ 1 1 [.int .i64 (t : Int)] rfl rfl ?c1 ?c2 (by decide) ?c3 ?c4 ?c5 (wr.heap.size + 1) (by simp) ?c6)
                  case c1 =>
                    intro i u hu
                    match i, hu with
                    | 0, hu => simp at hu; subst hu; rw [Go.WideShapes.add_plain, World.cell?_alloc_at _ _ _ _ (by simp)]; rfl
                  case c2 => intro u hu; simp at hu; subst hu; rfl
                  case c3 => unfold maxLen; omega
                  case c4 => omega
                  case c5 => simp; omega
                  case c6 =>
                    intro g5 cap5 w1 hown1 hgrow hat hltg
                    have hS6 := hS5.push (t := t) hown1 hgrow
                    clear hown1 hgrow hat hown d1 d2 d3 hS4 hS5
                    go_wp2
                    go_roundw
                    case rel => exact ⟨j + 1, g5, cap5, setB b4 t, T4 ++ [t], by omega, by go_num, by rw [List.length_append, List.length_singleton], hS6, R⟩
                    case measure => simp [intOf]; omega
              · obtain rfl : j = L q := by omega
                have R : Rel2 n f (gk - 1) L E b4 T4 := by
                  obtain ⟨r1, r2, r3⟩ := HC4.out
                  exact ⟨r1.finish, by omega, by omega⟩
                have hgk : gk - 1 < gk := by have := HC4.out.2.1; omega
                clear HC4 hrow hZq
                go_wp2
                go_roundg (gk - 1)
                case measure => exact hgk
                case rel => exact ⟨g4, cap4, b4, T4, rfl, hS4, R⟩

end Go.Proofs.Qxb6614484a
