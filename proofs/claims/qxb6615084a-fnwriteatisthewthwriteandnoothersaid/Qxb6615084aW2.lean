/-
  The walk of 'FnWriteAtIsTheWthWriteAndNoOther'.
-/
import Derived.Test.Qxb6615084aCl
import Derived.Test.Qxb6615084aPq
import Derived.Deep.Matrix
import Derived.Deep.RegionWith
import Derived.OpenShut
namespace Go.Proofs.Qxb6615084a
open Go.RowKit

theorem writer_q (w : World) (g j : Nat) (x : Int) (hc : w.cell? ⟨g, j, none⟩ = some (.int .i64 x)) :
    Calls Try.prog 12 #[.pointer (some ⟨g, j, none⟩)] w fun e w' => e = .returned (.int .i64 x) ∧ w' = w :=
  (writer_any w g j x hc).mono fun _ _ h => ⟨h.1, h.2.symm⟩
theorem readers_q (w : World) (g j : Nat) (ao : Option Addr) (l c : Nat) (hc : w.cell? ⟨g, j + 1, none⟩ = some (.slice ao l c)) :
    Calls Try.prog 14 #[.pointer (some ⟨g, j, none⟩)] w fun e w' => e = .returned (.slice ao l c) ∧ w' = w :=
  (readers_any w g j ao l c hc).mono fun _ _ h => ⟨h.1, h.2.symm⟩

theorem Srch.drew {w : World} {sb : Nat} {ao : Option Addr} {n cap : Nat} {xs : List Value} (h : Srch w sb ao n cap xs) : Srch w.drew sb ao n cap xs := ⟨h.lt, h.cell, h.fro, h.own⟩

set_option maxHeartbeats 400000 in
theorem early3 (a0 : Option Addr) (len0 cap0 : Nat) (ao : Option Addr) (len cap : Nat) (x y : Int) (w : World) (N : Nat → Bool) (L : Nat → Nat) (Z : Nat → Nat → Int)
    (hl0 : len0 ≤ maxLen) (hl : len ≤ maxLen) (hL : ∀ r, r < len → L r ≤ maxLen) (H : RowsAt w ao len N L Z)
    (h : len ≠ len0 ∨ x < 0 ∨ (len0 : Int) ≤ x ∨ y < 0 ∨ (len0 : Int) ≤ y) :
    Calls Try.prog 3 #[.slice a0 len0 cap0, .slice ao len cap, .int .i64 x, .int .i64 y] w fun e w' => e = .returned (.bool true) ∧ w = w' := by
  have HH : Hid (len ≠ len0 ∨ x < 0 ∨ (len0 : Int) ≤ x ∨ y < 0 ∨ (len0 : Int) ≤ y) := h
  clear h
  go_enter Try.func3, Try.ntmps3
  go_wp2_with fail
  refine (bytes5 _ _ _ _ _ _ _ _ _ N L Z hl0 hl hL H).mono ?_
  rintro e w' ⟨β, rfl, hβ, rfl⟩
  cases β with
  | false =>
    go_wp2
    go_ret
    exact ⟨rfl, rfl⟩
  | true =>
    obtain ⟨h0, h1⟩ := hβ rfl
    clear hβ
    go_wp2_with fail
    refine (fixed6 len0 _ h0).mono ?_
    rintro e w' ⟨rfl, rfl⟩
    go_wp2_with fail
    refine (rows7 (len0 * 8) _ _ _ _ N L Z (by omega) h1 hL H).mono ?_
    rintro e w' ⟨t, rfl, ht, rfl⟩
    clear ht hL H
    by_cases h3 : t ≤ 1048576
    · by_cases h4 : len = len0
      · subst h4
        by_cases h5 : x < 0
        · clear HH
          go_wp2
          go_ret
          exact ⟨rfl, rfl⟩
        · by_cases h6 : (len : Int) ≤ x
          · clear HH
            go_wp2
            go_ret
            exact ⟨rfl, rfl⟩
          · by_cases h7 : y < 0
            · clear HH
              go_wp2
              go_ret
              exact ⟨rfl, rfl⟩
            · have h8 : (len : Int) ≤ y := by rcases HH.out with h | h | h | h | h <;> first | omega | exact absurd rfl h
              clear HH
              go_wp2
              go_ret
              exact ⟨rfl, rfl⟩
      · have h4' : ((len : Int) != (len0 : Int)) = true := by simp; omega
        go_wp2
        go_ret
        exact ⟨rfl, rfl⟩
    · go_wp2
      go_ret
      exact ⟨rfl, rfl⟩

/-- The cells of the first k writes. -/
def flat2 (zs : List Int) (A : Nat → Option Addr) (L C : Nat → Nat) : Nat → List Value
  | 0 => []
  | k + 1 => flat2 zs A L C k ++ [.int .i64 (zs.getD k 0), .slice (A k) (L k) (C k)]

theorem flat2_len (zs : List Int) (A : Nat → Option Addr) (L C : Nat → Nat) : ∀ k, (flat2 zs A L C k).length = k * 2
  | 0 => rfl
  | k + 1 => by simp [flat2, flat2_len zs A L C k]; omega

theorem flat2_at (zs : List Int) (A : Nat → Option Addr) (L C : Nat → Nat) (i : Nat) : ∀ k, i < k →
    (flat2 zs A L C k)[i * 2]? = some (.int .i64 (zs.getD i 0)) ∧ (flat2 zs A L C k)[i * 2 + 1]? = some (.slice (A i) (L i) (C i))
  | 0, h => by omega
  | k + 1, h => by
    have hl := flat2_len zs A L C k
    unfold flat2
    rcases Nat.lt_or_ge i k with h1 | h1
    · rw [List.getElem?_append_left (by omega), List.getElem?_append_left (by omega)]
      exact flat2_at zs A L C i k h1
    · obtain rfl : i = k := by omega
      rw [List.getElem?_append_right (by omega), List.getElem?_append_right (by omega), hl]
      rw [show i * 2 - i * 2 = 0 by omega, show i * 2 + 1 - i * 2 = 1 by omega]
      exact ⟨rfl, rfl⟩

set_option maxHeartbeats 1000000 in
theorem inside3 (b0 off0 cap0 : Nat) (zs : List Int) (b1 off1 n cap : Nat) (i1 i2 : Nat) (w : World) (N : Nat → Bool) (L : Nat → Nat) (Z : Nat → Nat → Int)
    (hlz : n ≤ zs.length) (hc : ∀ j, j < zs.length → w.cell? ⟨b0, off0 + j, none⟩ = some (.int .i64 (zs.getD j 0)))
    (hl : n ≤ maxLen) (hL : ∀ r, r < n → L r ≤ maxLen) (H : RowsIn w b1 off1 n N L Z) (h1 : i1 < n) (h2 : i2 < n) :
    Calls Try.prog 3 #[.slice (some ⟨b0, off0, none⟩) n cap0, .slice (some ⟨b1, off1, none⟩) n cap, .int .i64 i1, .int .i64 i2] w fun e w' => e = .returned (.bool true) ∧ Below w.heap.size w w' := by
  have H' : RowsAt w (some ⟨b1, off1, none⟩) n N L Z := .inr ⟨b1, off1, rfl, H⟩
  go_enter Try.func3, Try.ntmps3
  go_wp2_with fail
  refine (bytes5 _ _ _ _ _ _ _ _ _ N L Z hl hl hL H').mono ?_
  rintro e w' ⟨β, rfl, hβ, rfl⟩
  cases β with
  | false =>
    go_wp2
    go_ret
    exact ⟨rfl, Below.refl _ _⟩
  | true =>
    obtain ⟨h0, _⟩ := hβ rfl
    clear hβ
    go_wp2_with fail
    refine (fixed6 n _ h0).mono ?_
    rintro e w' ⟨rfl, rfl⟩
    go_wp2_with fail
    refine (rows7 (n * 8) _ _ _ _ N L Z (by omega) h0 hL H').mono ?_
    rintro e w' ⟨t, rfl, ht, rfl⟩
    clear hL H'
    by_cases h3 : t ≤ 1048576
    · have hL8 := ht h3
      clear ht
      go_wp2_with fail
      refine (clone8 b1 off1 n cap w N L Z H h0 hL8).mono ?_
      rintro e w1 ⟨rfl, HA, hb1⟩
      go_wp2_with fail
      refine (clone8 w.heap.size 0 n n w1 N L Z HA h0 hL8).mono ?_
      rintro e w2 ⟨rfl, HB, hb2⟩
      go_wp2_with fail
      refine (new_any w2).mono ?_
      rintro e w3 ⟨rfl, hs3, hb3⟩
      have HA2 := HA.below hb2
      have hb02 : Below w.heap.size w w2 := hb1.trans (hb2.mono hb1.size)
      obtain ⟨AC, hAC⟩ := Deep.choose_lt (α := Option Addr × Nat) (n := n) (p := fun r x => w2.cell? ⟨w1.heap.size, 0 + r, none⟩ = some (.slice x.1 (L r) x.2) ∧ x.1.isNone = N r ∧ RowAt w2 x.1 (L r) (Z r))
        (fun r hr => by obtain ⟨a, c, e1, e2, e3⟩ := HB r hr; exact ⟨(a, c), e1, e2, e3⟩)
      obtain ⟨A, C, hAC⟩ : ∃ (A : Nat → Option Addr) (C : Nat → Nat), ∀ r, r < n → w2.cell? ⟨w1.heap.size, r, none⟩ = some (.slice (A r) (L r) (C r)) ∧ (A r).isNone = N r ∧ RowAt w2 (A r) (L r) (Z r) :=
        ⟨fun r => (AC r).1, fun r => (AC r).2, fun r hr => by have := hAC r hr; rw [Nat.zero_add] at this; exact this⟩
      clear HB HA H
      have hc2 : ∀ j, j < n → w2.cell? ⟨b0, off0 + j, none⟩ = some (.int .i64 (zs.getD j 0)) := fun j hj => by
        have := hc j (by omega)
        rw [hb02.cell (by exact cell_lt this)]; exact this
      clear hc
      go_wp2_with fail
      go_loopw [60] (fun i wr => ∃ k ao cp, k ≤ n ∧ i = .int .i64 (k : Nat) ∧ Srch wr w2.heap.size ao k cp (flat2 zs A L C k) ∧ Below w2.heap.size w2 wr) (fun i _ => n - (intOf i).toNat)
      case atStart => exact ⟨0, none, 0, Nat.zero_le _, rfl, hs3, hb3⟩
      case round =>
        obtain ⟨k, ao, cp, hk, rfl, hs, hbel⟩ := hrel
        by_cases hlt : k < n
        · have g1 : wr.cell? ⟨b0, off0 + k, none⟩ = some (.int .i64 (zs.getD k 0)) := by rw [hbel.cell (by exact cell_lt (hc2 k hlt))]; exact hc2 k hlt
          have g2 : wr.cell? ⟨w1.heap.size, k, none⟩ = some (.slice (A k) (L k) (C k)) := by rw [hbel.cell (by exact cell_lt (hAC k hlt).1)]; exact (hAC k hlt).1
          have Hc2 : Hid _ := hc2
          have HHAC : Hid _ := hAC
          have HHA2 : Hid _ := HA2
          clear hc2 hAC HA2 hL8
          have hlt0 : (0 : Int) ≤ (k : Int) := by omega
          have hlt1 : (k : Int) < (n : Int) := by omega
          go_wp2_with fail
          go_region_with (go_at_call 10; refine (add_any _ _ _ _ _ _ _ _ _ _ hs.drew (by omega)).mono ?_; rintro e w4 ⟨rfl, hb4, g, cp', hs4⟩)
          all_goals
            go_wp2
            go_roundw
            case rel => exact ⟨k + 1, some ⟨g, 0, none⟩, cp', by omega, by go_num, hs4, hbel.drew.trans hb4⟩
            case measure => simp [intOf]; omega
        · obtain rfl : k = n := by omega
          obtain ⟨g, rfl, hsbg, hglt, hcells⟩ := hs.lies (by omega)
          have hcs := hs.cell
          have p1 : wr.cell? ⟨g, i1 * 2, none⟩ = some (.int .i64 (zs.getD i1 0)) := by rw [(hcells _).2 (by omega)]; exact (flat2_at zs A L C i1 k h1).1
          have p2 : wr.cell? ⟨g, i2 * 2, none⟩ = some (.int .i64 (zs.getD i2 0)) := by rw [(hcells _).2 (by omega)]; exact (flat2_at zs A L C i2 k h2).1
          have r1 : wr.cell? ⟨g, i1 * 2 + 1, none⟩ = some (.slice (A i1) (L i1) (C i1)) := by rw [(hcells _).2 (by omega)]; exact (flat2_at zs A L C i1 k h1).2
          have r2 : wr.cell? ⟨g, i2 * 2 + 1, none⟩ = some (.slice (A i2) (L i2) (C i2)) := by rw [(hcells _).2 (by omega)]; exact (flat2_at zs A L C i2 k h2).2
          have v1 : wr.cell? ⟨b0, off0 + i1, none⟩ = some (.int .i64 (zs.getD i1 0)) := by rw [hbel.cell (by exact cell_lt (hc2 i1 h1))]; exact hc2 i1 h1
          have v2 : wr.cell? ⟨b0, off0 + i2, none⟩ = some (.int .i64 (zs.getD i2 0)) := by rw [hbel.cell (by exact cell_lt (hc2 i2 h2))]; exact hc2 i2 h2
          have HAr := HA2.below hbel
          obtain ⟨x1, y1, u1, nn1, ra1⟩ := HAr i1 h1
          obtain ⟨x2, y2, u2, nn2, ra2⟩ := HAr i2 h2
          rw [Nat.zero_add] at u1 u2
          have L1 := hL8 i1 h1
          have L2 := hL8 i2 h2
          have k1 := (hAC i1 h1).2.2.below hbel
          have k2 := (hAC i2 h2).2.2.below hbel
          have nm1 : (A i1).isNone = x1.isNone := by rw [(hAC i1 h1).2.1, nn1]
          have nm2 : (A i2).isNone = x2.isNone := by rw [(hAC i2 h2).2.1, nn2]
          have FIN : Hid (∀ m, RowAt (wr.drewN m) (A i1) (L i1) (Z i1) ∧ RowAt (wr.drewN m) (A i2) (L i2) (Z i2) ∧ RowAt (wr.drewN m) x1 (L i1) (Z i1) ∧ RowAt (wr.drewN m) x2 (L i2) (Z i2) ∧ (A i1).isNone = x1.isNone ∧ (A i2).isNone = x2.isNone) :=
            fun m => ⟨k1, k2, ra1, ra2, nm1, nm2⟩
          have hend : Below w.heap.size w wr := hb02.trans (hbel.mono hb02.size)
          clear hcells hs hbel hAC hc2 HA2 HAr ra1 ra2 k1 k2 nn1 nn2 nm1 nm2 hL8 hb02 hb1 hb2 hb3 hs3
          go_wp2_with fail
          refine (zzWriteAt_any _ _ _ _ _ _ hcs h1).mono ?_
          rintro e w' ⟨rfl, rfl⟩
          go_wp2_with fail
          refine (zzWriteAt_any _ _ _ _ _ _ hcs h2).mono ?_
          rintro e w' ⟨rfl, rfl⟩
          go_wp2_with fail
          refine (zzWriteAt_any _ _ _ _ _ _ hcs h1).mono ?_
          rintro e w' ⟨rfl, rfl⟩
          have e31 := run_eql31
          have n31 := run_neq31
          by_cases he : i1 = i2
          · subst he
            have b1 : (0 : Int) ≤ (i1 : Int) := by omega
            have b2 : (i1 : Int) < (k : Int) := by omega
            go_wp2_with fail
            go_quiet ((go_at_call 12; exact Calls.quiet_of_same (writer_q _ _ _ _ (by exact p1))))
            go_wp2_with fail
            obtain ⟨k1, _, ra1, _, nm1, _⟩ := FIN.out nq
            have hend' : Below w.heap.size w (wr.drewN nq) := ⟨hend.os, hend.tape, hend.output, hend.size, hend.block⟩
            have r1' : (wr.drewN nq).cell? ⟨g, i1 * 2 + 1, none⟩ = some (.slice (A i1) (L i1) (C i1)) := r1
            have u1' : (wr.drewN nq).cell? ⟨w.heap.size, i1, none⟩ = some (.slice x1 (L i1) y1) := u1
            clear FIN
            generalize wr.drewN nq = wx at k1 ra1 hend' r1' u1' ⊢
            have E1 : Hid (∀ m, Calls Try.prog 13 #[.slice (A i1) (L i1) (C i1), .slice x1 (L i1) y1] (wx.drewN m) fun e w' => e = .returned (.bool true) ∧ ∃ n, w' = (wx.drewN m).drewN n) := fun m => same13 _ _ _ _ _ (Z i1) (Z i1) (wx.drewN m) (by omega) (by exact k1) (by exact ra1) (fun _ _ => rfl) nm1
            clear k1 ra1 nm1 hend r1 r2 u1 u2 p1 p2 v1 v2 hcs hglt
            go_quiet (first | (go_at_call 14; exact Calls.quiet_of_same (readers_q _ _ _ _ _ _ (by exact r1'))) | (go_at_call 13; exact Calls.quiet_of (E1.out _)))
            go_wp2
            go_ret
            exact ⟨rfl, hend'.os, hend'.tape, hend'.output, hend'.size, hend'.block⟩
          · have he1 : decide (i1 * 2 = i2 * 2) = false := by simp; omega
            have he2 : ((i1 : Int) == (i2 : Int)) = false := by simp; omega
            have b1 : (0 : Int) ≤ (i1 : Int) := by omega
            have b2 : (i1 : Int) < (k : Int) := by omega
            have b3 : (0 : Int) ≤ (i2 : Int) := by omega
            have b4 : (i2 : Int) < (k : Int) := by omega
            go_wp2_with fail
            clear e31 n31 he1 he2 hcs
            generalize i1 * 2 = o1 at p1 r1 ⊢
            generalize i2 * 2 = o2 at p2 r2 ⊢
            go_quiet (first | (go_at_call_of 12 o1; exact Calls.quiet_of_same (writer_q _ _ _ _ (by exact p1))) | (go_at_call_of 12 o2; exact Calls.quiet_of_same (writer_q _ _ _ _ (by exact p2))))
            go_wp2_with fail
            obtain ⟨k1, k2, ra1, ra2, nm1, nm2⟩ := FIN.out nq
            have hend' : Below w.heap.size w (wr.drewN nq) := ⟨hend.os, hend.tape, hend.output, hend.size, hend.block⟩
            have r1' : (wr.drewN nq).cell? ⟨g, o1 + 1, none⟩ = some (.slice (A i1) (L i1) (C i1)) := r1
            have u1' : (wr.drewN nq).cell? ⟨w.heap.size, i1, none⟩ = some (.slice x1 (L i1) y1) := u1
            have r2' : (wr.drewN nq).cell? ⟨g, o2 + 1, none⟩ = some (.slice (A i2) (L i2) (C i2)) := r2
            have u2' : (wr.drewN nq).cell? ⟨w.heap.size, i2, none⟩ = some (.slice x2 (L i2) y2) := u2
            clear FIN
            generalize wr.drewN nq = wx at k1 k2 ra1 ra2 hend' r1' r2' u1' u2' ⊢
            have E1 : Hid (∀ m, Calls Try.prog 13 #[.slice (A i1) (L i1) (C i1), .slice x1 (L i1) y1] (wx.drewN m) fun e w' => e = .returned (.bool true) ∧ ∃ n, w' = (wx.drewN m).drewN n) := fun m => same13 _ _ _ _ _ (Z i1) (Z i1) (wx.drewN m) (by omega) (by exact k1) (by exact ra1) (fun _ _ => rfl) nm1
            have E2 : Hid (∀ m, Calls Try.prog 13 #[.slice (A i2) (L i2) (C i2), .slice x2 (L i2) y2] (wx.drewN m) fun e w' => e = .returned (.bool true) ∧ ∃ n, w' = (wx.drewN m).drewN n) := fun m => same13 _ _ _ _ _ (Z i2) (Z i2) (wx.drewN m) (by omega) (by exact k2) (by exact ra2) (fun _ _ => rfl) nm2
            clear k1 ra1 nm1 k2 ra2 nm2 hend r1 r2 u1 u2 p1 p2 v1 v2 hglt
            go_quiet (first | (go_at_call_of 14 o1; exact Calls.quiet_of_same (readers_q _ _ _ _ _ _ (by exact r1'))) | (go_at_call_of 14 o2; exact Calls.quiet_of_same (readers_q _ _ _ _ _ _ (by exact r2'))) | (go_at_call_of 13 (A i1); exact Calls.quiet_of (E1.out _)) | (go_at_call_of 13 (A i2); exact Calls.quiet_of (E2.out _)))
            go_wp2
            go_ret
            exact ⟨rfl, hend'.os, hend'.tape, hend'.output, hend'.size, hend'.block⟩
    · clear ht
      go_wp2
      go_ret
      exact ⟨rfl, Below.refl _ _⟩

theorem walk3 (a0 : Option Addr) (len0 cap0 : Nat) (zs : List Int) (ao : Option Addr) (len cap : Nat) (x y : Int) (w : World) (N : Nat → Bool) (L : Nat → Nat) (Z : Nat → Nat → Int)
    (h0 : (a0 = none ∧ len0 = 0) ∨ ∃ x, a0 = some x ∧ len0 ≤ cap0 ∧ cap0 ≤ maxLen ∧ zs.length = cap0 ∧ ∀ i, i < zs.length → w.cell? (x.add i) = some (.int .i64 (zs.getD i 0)))
    (hl : len ≤ maxLen) (hL : ∀ r, r < len → L r ≤ maxLen) (H : RowsAt w ao len N L Z) :
    Calls Try.prog 3 #[.slice a0 len0 cap0, .slice ao len cap, .int .i64 x, .int .i64 y] w fun e w' => e = .returned (.bool true) ∧ Below w.heap.size w w' := by
  have hl0 : len0 ≤ maxLen := by
    rcases h0 with ⟨_, rfl⟩ | ⟨x, _, h1, h2, _⟩
    · exact Nat.zero_le _
    · omega
  by_cases hearly : len ≠ len0 ∨ x < 0 ∨ (len0 : Int) ≤ x ∨ y < 0 ∨ (len0 : Int) ≤ y
  · exact (early3 a0 len0 cap0 ao len cap x y w N L Z hl0 hl hL H hearly).mono fun e w' ⟨he, hw⟩ => ⟨he, hw ▸ Below.refl _ _⟩
  · obtain rfl : len = len0 := by omega
    obtain ⟨i1, rfl⟩ : ∃ i : Nat, x = (i : Int) := ⟨x.toNat, by omega⟩
    obtain ⟨i2, rfl⟩ : ∃ i : Nat, y = (i : Int) := ⟨y.toNat, by omega⟩
    rcases h0 with ⟨_, rfl⟩ | ⟨x, rfl, h1, h2, h3, hc⟩
    · omega
    · obtain ⟨b0, off0, rfl, hc'⟩ := ints_at hc (by omega)
      rcases H with rfl | ⟨b, off, rfl, H⟩
      · omega
      · exact inside3 b0 off0 cap0 zs b off len cap i1 i2 w N L Z (by omega) hc' hl hL H (by omega) (by omega)

end Go.Proofs.Qxb6615084a
