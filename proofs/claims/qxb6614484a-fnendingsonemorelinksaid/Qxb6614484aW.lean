/-
  The walk of 'FnEndingsOneMoreLink' where all indices lie in range.
-/
import Derived.Test.Qxb6614484aMore
import Derived.Test.Qxb6614484aW0
namespace Go.Proofs.Qxb6614484a
open Go.RowKit

theorem info22m : (Try.prog.info? 22).map (fun i => (i.zero, i.size, i.bytes)) = some (some (.slice none 0 0), 1, 24) := by kernel_rfl
theorem size22 : (Try.prog.info? 22).map (·.size) = some 1 := by kernel_rfl

theorem make0 (l : Nat) (hl : l ≤ 131072) (w : World) : (Instr.makeSlice 22 (.int .i64 0) (.int .i64 ((l : Int) + 1))).run Try.prog w = .ok (.slice (some ⟨w.heap.size, 0, none⟩) 0 (l + 1)) (w.alloc (.cells (madeCells #[.int .i64 0] (l + 1)) 3)) := by
  obtain ⟨i0, hi, hz0, hz1, hz2⟩ := info_parts infoI3
  have h := run_make (P := Try.prog) w 22 3 i0 _ Try.underlying22 hi hz0 .i64 .i64 0 ((l : Int) + 1) (by omega) (by omega) (by rw [hz2]; omega) (by omega)
  rw [h, hz1]
  have e : ((l : Int) + 1).toNat = l + 1 := by omega
  simp [Value.cells, e]

set_option maxRecDepth 10000 in
set_option maxHeartbeats 2000000 in
theorem inside6 (b off n cap : Nat) (s : Int) (f q0 p0 : Nat) (w : World) (A : Nat → Option Addr) (L C : Nat → Nat) (Z : Nat → Nat → Int)
    (hl : n ≤ maxLen) (hL : ∀ r, r < n → L r ≤ maxLen) (H : RowsIn w b off n A L C Z) (hf : f < n) (hq : q0 < n) (hp : p0 < n) (hnil : A q0 = none → L q0 = 0 ∧ C q0 = 0) :
    Calls Try.prog 6 #[.slice (some ⟨b, off, none⟩) n cap, .int .i64 s, .int .i64 f, .int .i64 q0, .int .i64 p0] w fun e w' => e = .returned (.bool true) ∧ Below w.heap.size w w' := by
  obtain ⟨i0, hi, hz0, hz1, hz2⟩ := info_parts infoI3
  have hl' := hl
  unfold maxLen at hl'
  go_enter Try.func6, Try.ntmps6
  go_wp2_with fail
  refine (bytes19 b off n cap s f q0 p0 w A L C Z hl hL H).mono ?_
  rintro e w' ⟨β, rfl, hβ, rfl⟩
  cases β with
  | false =>
    clear H hβ hL
    go_wp2
    go_ret
    exact ⟨rfl, Below.refl _ _⟩
  | true =>
    have hL20 := hβ rfl
    clear hβ hL
    by_cases hn : n ≤ 65536
    · go_wp2_with fail
      refine (adj8 b off n cap w A L C Z (by omega) hL20 H).mono ?_
      rintro e w' ⟨t, rfl, ht, rfl⟩
      clear hL20
      by_cases h3 : t ≤ 1048576
      · have hL8 := ht h3
        clear ht
        go_wp2_with fail
        refine (links10 n b off cap w A L C Z hn hL8 H).mono ?_
        rintro e w' ⟨β, rfl, hβ, rfl⟩
        cases β with
        | false =>
          clear H hβ hL8 hnil
          go_wp2
          go_ret
          exact ⟨rfl, Below.refl _ _⟩
        | true =>
          have HZ0 := hβ rfl
          clear hβ
          obtain ⟨E, HZ⟩ : ∃ E : Nat → Nat → Nat, ∀ r, r < n → ∀ j, j < L r → Z r j = (E r j : Int) ∧ E r j < n :=
            ⟨fun r j => (Z r j).toNat, fun r hr j hj => by have := HZ0 r hr j hj; show Z r j = ((Z r j).toNat : Int) ∧ (Z r j).toNat < n; omega⟩
          clear HZ0
          go_wp2_with fail
          refine (auto18 b off n cap s f w A L C hn (fun r hr => (H r hr).1)).mono ?_
          rintro e w1 ⟨rfl, HA1, hb1⟩
          go_wp2_with fail
          refine (end17 (w.heap.size + 1) w.heap.size n f A L C Z E w1 hn hf (fun r hr => by have := hL8 r hr; omega) HA1 (fun r hr => ((H r hr).2).below hb1) HZ).mono ?_
          rintro e w2 ⟨g1, p1, rfl, hE1, hc1, hb2⟩
          have H2 : RowsIn w2 b off n A L C Z := (H.below hb1).below hb2
          have hb02 : Below w.heap.size w w2 := hb1.trans (hb2.mono hb1.size)
          have HE1 : Hid (EndS n f L E p1) := hE1
          have Hc1 : Hid (∀ i, i < n → w2.cell? ⟨g1, i, none⟩ = some (.bool (p1 i))) := hc1
          have HH2 : Hid (RowsIn w2 b off n A L C Z) := H2
          have HHZ : Hid (∀ r, r < n → ∀ j, j < L r → Z r j = (E r j : Int) ∧ E r j < n) := HZ
          have HL8 : Hid (∀ r, r < n → L r ≤ 131072) := hL8
          have hLq := hL8 q0 hq
          have Hnil : Hid (A q0 = none → L q0 = 0 ∧ C q0 = 0) := hnil
          clear hE1 hc1 hb1 hb2 HA1 H H2 HZ hL8 hnil
          have hmk := run_make_row' (P := Try.prog) 23 22 (.slice none 0 0) 24 Try.underlying23 info22m rfl .i64 .i64 n (by omega) (by omega)
          have hmk0 := make0 (L q0) hLq
          have hbm : Below w2.heap.size w2 (w2.alloc (.cells (madeCells #[.slice none 0 0] n) 22)) := (Below.refl _ _).alloc (Nat.le_refl _) _
          have Hpos : Hid (∀ j v, (hdrs n A L C)[j]? = some v → (w2.alloc (.cells (madeCells #[.slice none 0 0] n) 22)).cell? ⟨b, off + j, none⟩ = some v) := by
            intro j v hv
            obtain ⟨hj, rfl⟩ := hdrs_some hv
            have hc := (HH2.out j hj).1
            rw [hbm.cell (by exact cell_lt hc)]; exact hc
          go_wp2_with (refine wpList_copy_splice rfl (.tmp 70) (.tmp 71) 23 23 rfl 22 Try.underlying23 size22 _ _ _ _ _ _ rfl rfl w2.heap.size 0 (madeCells #[.slice none 0 0] n).toList 22 ?c1 (hdrs n A L C) ?c2 ?c5 ?c3 (hdrs_one n A L C) w2.heap.size w2 hbm (Nat.le_refl _) ?c4)
          case c1 => simpa using heap_alloc_new w2 _
          case c5 => exact fun _ => Hpos.out
          case c2 => rw [hdrs_len]; exact (Nat.min_self n).symm
          case c3 => rw [hdrs_len, Array.length_toList, size_madeCells]; omega
          case c4 =>
            intro w3 HG3 hB3
            have h3 : Hid (w3.heap[w2.heap.size]? = some (.cells (hdrs n A L C).toArray 22 (0, 0))) := by
              have := HG3.out
              rw [splice_all _ _ (by rw [hdrs_len, Array.length_toList, size_madeCells])] at this
              exact this
            have HB3 : Hid (Below w2.heap.size w2 w3) := hB3
            have e3 : w3.cell? ⟨b, off + q0, none⟩ = some (.slice (A q0) (L q0) (C q0)) := by
              have hc := (HH2.out q0 hq).1
              rw [hB3.cell (by exact cell_lt hc)]; exact hc
            have hb3 : b < w3.heap.size := cell_lt e3
            have hlt3 : w2.heap.size < w3.heap.size := by
              rcases Nat.lt_or_ge w2.heap.size w3.heap.size with h | h
              · exact h
              · have := h3.out; rw [Array.getElem?_eq_none h] at this; cases this
            have own4 := World.ownsRow_made (base := w2.heap.size + 1) (e := 3) (size := 1) w3 (madeCells #[.int .i64 0] (L q0 + 1)) (L q0 + 1) (by omega) (by unfold maxLen; omega) (by rw [size_madeCells]; omega)
            have hnews : Hid (∀ ad, A q0 = some ad → ∀ j u, (ints (L q0) (Z q0))[j]? = some u → (w3.alloc (.cells (madeCells #[.int .i64 0] (L q0 + 1)) 3)).cell? (ad.add j) = some u) :=
              ((((HH2.out q0 hq).2).below hB3).below ((Below.refl _ _).alloc (Nat.le_refl _) _)).news
            clear HG3 hB3 hmk hbm Hpos
            go_wp2_with (at_builtin; refine wpList_append_fits_any _ rfl (.tmp 80) (.tmp 84) 22 rfl (w2.heap.size + 1) 3 i0 1 Try.underlying22 hi hz1 w3.heap.size 0 (L q0 + 1) [] rfl own4 (A q0) (L q0) (C q0) (ints (L q0) (Z q0)) rfl ?d1 Hnil.out hnews.out (ints_one _ _) ?d2 ?d3)
            case d1 => rw [ints_len]; omega
            case d2 => omega
            case d3 =>
              intro w5 own5 gr4
              have Gr4 : Hid ((w3.alloc (.cells (madeCells #[.int .i64 0] (L q0 + 1)) 3)).grownBy w5 (some w3.heap.size)) := gr4
              clear gr4 own4 hnews e3 hb3 hmk0
              go_wp2_with (at_builtin; refine wpList_append_fits _ rfl (.tmp 86) (.tmp 88) 22 rfl (w2.heap.size + 1) 3 i0 1 Try.underlying22 hi hz1 w3.heap.size (L q0) (L q0 + 1) (ints (L q0) (Z q0)) rfl (own5.alloc _) ⟨w5.heap.size, 0, none⟩ 1 1 [.int .i64 (p0 : Int)] rfl rfl ?f1 ?f2 ?f3 ?f4)
              case f1 =>
                intro i u hu
                match i, hu with
                | 0, hu => simp at hu; subst hu; simp [Addr.add]
              case f2 => intro u hu; simp at hu; subst hu; rfl
              case f3 => omega
              case f4 =>
                intro w6 own6 gr5
                obtain ⟨H7, hb7, k1, k2⟩ := rows7 (p0 := (p0 : Int)) hq _ _ HH2.out h3.out HB3.out Gr4.out own6 gr5
                clear own5 own6 gr5
                go_wp2_with fail
                generalize w6.setCell ⟨w2.heap.size, q0, none⟩ (.slice (some ⟨w3.heap.size, 0, none⟩) (L q0 + 1) (L q0 + 1)) = w7 at H7 hb7 ⊢
                have HH7 : Hid (RowsIn w7 w2.heap.size 0 n (A2 A q0 w3.heap.size) (L2 L q0) (C2 L C q0) (Z2 L Z q0 p0)) := H7
                clear H7 k1 k2 h3 HB3 Gr4
                refine (auto18 w2.heap.size 0 n n s f w7 (A2 A q0 w3.heap.size) (L2 L q0) (C2 L C q0) hn (fun r hr => (HH7.out r hr).1)).mono ?_
                rintro e w8 ⟨rfl, HA8, hb8⟩
                go_wp2_with fail
                refine (end17 (w7.heap.size + 1) w7.heap.size n f (A2 A q0 w3.heap.size) (L2 L q0) (C2 L C q0) (Z2 L Z q0 p0) (E2 L E q0 p0) w8 hn hf (fun r hr => by have h8 := HL8.out r hr; unfold L2; split <;> omega) HA8 (fun r hr => ((HH7.out r hr).2).below hb8) (nums2 hp HHZ.out)).mono ?_
                rintro e w9 ⟨g2, p2, rfl, hE2, hc2, hb9⟩
                have hb29 : Below w2.heap.size w2 w9 := hb7.trans ((hb8.mono hb7.size).trans (hb9.mono (Nat.le_trans hb7.size hb8.size)))
                have hend : Below w.heap.size w w9 := hb02.trans (hb29.mono hb02.size)
                have Hc9 : Hid (∀ i, i < n → w9.cell? ⟨g1, i, none⟩ = some (.bool (p1 i))) := fun i hi => by
                  have := Hc1.out i hi
                  rw [hb29.cell (by exact cell_lt this)]; exact this
                have Hd9 : Hid (∀ i, i < n → w9.cell? ⟨g2, i, none⟩ = some (.bool (p2 i))) := hc2
                have m1 : Hid (∀ q, q < n → p1 q = true → p2 q = true) := more_sub HE1.out hE2
                have m2 := more_q0 HE1.out hE2 hq hp
                have m3 := more_p0 HE1.out hE2 hp
                have m4 : Hid (p1 p0 = false → ∀ q, q < n → p2 q = p1 q) := fun h => more_same HE1.out hE2 h
                have x1 := Hc9.out q0 hq
                have x2 := Hc9.out p0 hp
                have x3 := Hd9.out q0 hq
                have x4 := Hd9.out p0 hp
                have x5 := Hc9.out f hf
                rw [HE1.out.start] at x5
                rw [m2] at x3
                rw [m3] at x4
                clear m2 m3 hE2 hc2 hb9 hb8 HA8 HH7 hb7 hb29 HE1 Hc1 HH2 HHZ HL8 Hnil hb02 hlt3 hLq
                go_wp2_with fail
                go_loop [16] (fun i => ∃ k : Nat, k ≤ n ∧ i = .int .i64 k) (fun i => n - (intOf i).toNat)
                case atStart => exact ⟨0, Nat.zero_le _, rfl⟩
                case round =>
                  obtain ⟨k, hk, rfl⟩ := hrel
                  by_cases hlt : k < n
                  · have y1 := Hc9.out k hlt
                    have y2 := Hd9.out k hlt
                    have hm := m1.out k hlt
                    clear x1 x2 x3 x4 x5
                    cases hb : p1 k with
                    | true =>
                      rw [hb] at y1
                      rw [hm hb] at y2
                      clear hm hb
                      go_wp2
                      go_round
                      case rel => exact ⟨k + 1, by omega, by go_num⟩
                      case measure => simp [intOf]; omega
                    | false =>
                      rw [hb] at y1
                      clear hm hb y2
                      go_wp2
                      go_round
                      case rel => exact ⟨k + 1, by omega, by go_num⟩
                      case measure => simp [intOf]; omega
                  · obtain rfl : k = n := by omega
                    have b1 : (0 : Int) ≤ (q0 : Int) := by omega
                    have b2 : (q0 : Int) < (k : Int) := by omega
                    have b3 : (0 : Int) ≤ (p0 : Int) := by omega
                    have b4 : (p0 : Int) < (k : Int) := by omega
                    clear m1 x5 hk hlt
                    cases hv2 : p1 p0 with
                    | true =>
                      rw [hv2] at x2 x3 x4
                      clear m4 Hc9 Hd9
                      cases hv1 : p1 q0 with
                      | true =>
                        rw [hv1] at x1 x3
                        clear hv1 hv2
                        simp only [Bool.or_true] at x3
                        go_wp2
                        go_quiet (fail)
                        go_wp2
                        go_ret
                        exact ⟨rfl, hend.os, hend.tape, hend.output, hend.size, hend.block⟩
                      | false =>
                        rw [hv1] at x1 x3
                        clear hv1 hv2
                        simp only [Bool.or_true] at x3
                        go_wp2
                        go_quiet (fail)
                        go_wp2
                        go_ret
                        exact ⟨rfl, hend.os, hend.tape, hend.output, hend.size, hend.block⟩
                    | false =>
                      have HE : Hid (∀ q, q < k → p2 q = p1 q) := m4.out hv2
                      rw [hv2] at x2 x3 x4
                      clear m4
                      cases hv1 : p1 q0 with
                      | true =>
                        rw [hv1] at x1 x3
                        clear hv1 hv2
                        simp only [Bool.or_false] at x3
                        go_wp2
                        go_quiet (fail)
                        go_wp2_with fail
                        refine (same15 g2 g1 k k k p2 p1 (w9.drewN nq) hn (by exact Hd9.out) (by exact Hc9.out) HE.out).mono ?_
                        rintro e w' ⟨rfl, m, rfl⟩
                        go_wp2
                        go_ret
                        exact ⟨rfl, hend.os, hend.tape, hend.output, hend.size, hend.block⟩
                      | false =>
                        rw [hv1] at x1 x3
                        clear hv1 hv2
                        simp only [Bool.or_false] at x3
                        go_wp2
                        go_quiet (fail)
                        go_wp2_with fail
                        refine (same15 g2 g1 k k k p2 p1 (w9.drewN nq) hn (by exact Hd9.out) (by exact Hc9.out) HE.out).mono ?_
                        rintro e w' ⟨rfl, m, rfl⟩
                        go_wp2
                        go_ret
                        exact ⟨rfl, hend.os, hend.tape, hend.output, hend.size, hend.block⟩
      · clear ht H hnil
        go_wp2
        go_ret
        exact ⟨rfl, Below.refl _ _⟩
    · clear H hL20 hnil
      go_wp2
      go_ret
      exact ⟨rfl, Below.refl _ _⟩

theorem walk6 (a0 : Option Addr) (n cap : Nat) (s f x y : Int) (w : World) (A : Nat → Option Addr) (L C : Nat → Nat) (Z : Nat → Nat → Int)
    (hl : n ≤ maxLen) (hL : ∀ r, r < n → L r ≤ maxLen) (hnil : ∀ r, r < n → A r = none → L r = 0 ∧ C r = 0)
    (H : n = 0 ∨ ∃ b off, a0 = some ⟨b, off, none⟩ ∧ RowsIn w b off n A L C Z) :
    Calls Try.prog 6 #[.slice a0 n cap, .int .i64 s, .int .i64 f, .int .i64 x, .int .i64 y] w fun e w' => e = .returned (.bool true) ∧ Below w.heap.size w w' := by
  rcases H with rfl | ⟨b, off, rfl, H⟩
  · exact (zero6 a0 cap s f x y w).mono fun e w' ⟨he, hw⟩ => ⟨he, hw ▸ Below.refl _ _⟩
  · by_cases hearly : f < 0 ∨ (n : Int) ≤ f ∨ x < 0 ∨ (n : Int) ≤ x ∨ y < 0 ∨ (n : Int) ≤ y
    · exact (early6 b off n cap s f x y w A L C Z hl hL H hearly).mono fun e w' ⟨he, hw⟩ => ⟨he, hw ▸ Below.refl _ _⟩
    · obtain ⟨f', rfl⟩ : ∃ i : Nat, f = (i : Int) := ⟨f.toNat, by omega⟩
      obtain ⟨q0, rfl⟩ : ∃ i : Nat, x = (i : Int) := ⟨x.toNat, by omega⟩
      obtain ⟨p0, rfl⟩ : ∃ i : Nat, y = (i : Int) := ⟨y.toNat, by omega⟩
      exact inside6 b off n cap s f' q0 p0 w A L C Z hl hL H (by omega) (by omega) (by omega) (hnil q0 (by omega))

end Go.Proofs.Qxb6614484a
