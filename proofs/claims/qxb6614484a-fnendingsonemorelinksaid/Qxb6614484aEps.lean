/-
  The walk of 'epsInto'.
-/
import Derived.Test.Qxb6614484aInto
import Derived.Test.Qxb6614484aAut
namespace Go.Proofs.Qxb6614484a
open Go.RowKit

theorem info22 : (Try.prog.info? 22).map (fun i => (i.zero, i.size, i.bytes)) = some (some (.slice none 0 0), 1, 24) := by kernel_rfl
theorem info3 : (Try.prog.info? 3).map (fun i => (i.zero, i.size, i.bytes)) = some (some (.int .i64 0), 1, 8) := by kernel_rfl

/-- The outer loop's relation, and the inner one's. -/
def RelI (w : World) (n : Nat) (L : Nat → Nat) (E : Nat → Nat → Nat) (q j : Nat) (wr : World) : Prop := ∃ X K I, Into w n X K I wr ∧ Mem n L E q j I

set_option maxHeartbeats 1000000 in
theorem eps23 (ab sb n f : Nat) (A : Nat → Option Addr) (L C : Nat → Nat) (Z : Nat → Nat → Int) (E : Nat → Nat → Nat) (w : World) (hn : n ≤ 65536) (hL : ∀ r, r < n → L r ≤ 131073)
    (HA : Aut w ab sb n A L C f) (HR : ∀ r, r < n → RowAt w (A r) (L r) (Z r)) (HZ : ∀ r, r < n → ∀ j, j < L r → Z r j = (E r j : Int) ∧ E r j < n) :
    Calls Try.prog 23 #[.pointer (some ⟨ab, 0, none⟩)] w fun e w' => e = .returned (.slice (some ⟨w.heap.size, 0, none⟩) n n) ∧ RelI w n L E n 0 w' := by
  obtain ⟨i0, hi, hz0, hz1, hz2⟩ := info_parts info3
  have hmk := run_make_row' (P := Try.prog) 23 22 (.slice none 0 0) 24 Try.underlying23 info22 rfl .i64 .i64 n (by omega) (by omega)
  have hs := HA.states
  have hab := cell_lt hs
  go_enter Try.func23, Try.ntmps23
  go_wp2
  go_loopw [19] (fun i wr => ∃ q : Nat, q ≤ n ∧ i = .int .i64 q ∧ RelI w n L E q 0 wr) (fun i _ => n - (intOf i).toNat)
  case atStart => exact ⟨0, Nat.zero_le _, rfl, _, _, _, Into.start w n, Mem.start⟩
  case round =>
    obtain ⟨q, hq, rfl, X, K, I, hI, hM⟩ := hrel
    by_cases hlt : q < n
    · have c1 : wr.cell? ⟨sb, q * 2, none⟩ = some (.slice (A q) (L q) (C q)) := by rw [hI.bel.cell (by exact cell_lt (HA.eps q hlt))]; exact HA.eps q hlt
      have c2 : wr.cell? ⟨sb, q * 2 + 1, none⟩ = some (.slice none 0 0) := by rw [hI.bel.cell (by exact cell_lt (HA.steps q hlt))]; exact HA.steps q hlt
      have hsb : sb < wr.heap.size := cell_lt c1
      have hrow := HR q hlt
      have hlq := hL q hlt
      have hZq := HZ q hlt
      obtain ⟨aq, haq⟩ : ∃ aq, aq = A q := ⟨_, rfl⟩
      rw [← haq] at c1 hrow
      have HM : Hid (Mem n L E q 0 I) := hM
      clear haq hM HA HR hL HZ hmk
      rcases Nat.eq_zero_or_pos (L q) with h0 | hpos
      · clear hrow hZq
        obtain ⟨wo, rfl⟩ : ∃ wo : World, wo = wr := ⟨_, rfl⟩
        rw [h0] at c1
        have HM' : Hid (Mem n L E (q + 1) 0 I) := (show Mem n L E q (L q) I by rw [h0]; exact HM.out).next (by unfold bigM; omega)
        have H0 : Hid (L q = 0) := h0
        clear h0 hlq
        go_wp2
        go_loopw [27] (fun i wr => i = .int .i64 0 ∧ Into w n X K I wr) (fun _ _ => 0)
        case atStart => exact ⟨rfl, hI.alloc _⟩
        case round =>
          obtain ⟨rfl, hI2⟩ := hrel
          go_wp2
          go_roundw
          case rel => exact ⟨q + 1, by omega, by go_num, X, K, I, hI2, HM'.out⟩
          case measure => simp [intOf]; omega
      · rcases hrow with h | ⟨rb, ro, rfl, hrow⟩
        · omega
        obtain ⟨wo, rfl⟩ : ∃ wo : World, wo = wr := ⟨_, rfl⟩
        go_wp2
        go_loopw [27] (fun i wr => ∃ j : Nat, j ≤ L q ∧ i = .int .i64 j ∧ RelI w n L E q j wr) (fun i _ => L q - (intOf i).toNat)
        case atStart => exact ⟨0, Nat.zero_le _, rfl, X, K, I, hI.alloc _, HM.out⟩
        case round =>
          obtain ⟨j, hj, rfl, X2, K2, I2, hI2, hM2⟩ := hrel
          clear hI HM c1 c2
          by_cases hjl : j < L q
          · obtain ⟨hz, hE⟩ := hZq j hjl
            have d1 : wr.cell? ⟨rb, ro + j, none⟩ = some (.int .i64 (E q j : Int)) := by
              rw [hI2.bel.cell (by exact cell_lt (hrow j hjl)), hrow j hjl, hz]
            have hlen := hM2.len (E q j) hE
            have hqb : q * bigM ≤ 65536 * bigM := Nat.mul_le_mul_right _ (by omega)
            have HM2 : Hid (Mem n L E q j I2) := hM2
            obtain ⟨t, ht⟩ : ∃ t, t = E q j := ⟨_, rfl⟩
            have HT : Hid (E q j = t) := ht.symm
            rw [← ht] at d1 hE hlen
            clear ht hz hM2 hrow hZq
            obtain ⟨d2, d3⟩ := hI2.cell hE
            have hown := hI2.own t hE
            have hlb : (I2 t).length ≤ 20000000000 := by unfold bigM at hlen hqb; omega
            clear hlen hqb
            go_wp2_with (at_builtin; refine wpList_append_lies _ rfl _ _ 22 rfl (w.heap.size + 1) 3 i0 _ 1 8 Try.underlying22 hi hz0 hz1 hz2 rfl (by decide) _ (I2 t).length (ids (I2 t)) rfl (hown.alloc _) ⟨wr.heap.size, 0, none⟩ 1 1 [.int .i64 (q : Int)] rfl rfl ?c1 ?c2 (by decide) ?c3 ?c4 ?c5 (wr.heap.size + 1) (by simp) ?c6)
            case c1 =>
              intro i u hu
              match i, hu with
              | 0, hu => simp at hu; subst hu; simp [Addr.add]
            case c2 => intro u hu; simp at hu; subst hu; rfl
            case c3 => unfold maxLen; omega
            case c4 => omega
            case c5 => have := hI2.row.lt; simp; omega
            case c6 =>
              intro g cap w1 hown1 hgrow hat hltg
              have hne : some w.heap.size ≠ (Value.slice (X2 t) (I2 t).length (K2 t)).ownBlock := fun e => by have := (hown.lt _ e.symm).1; omega
              have hBl := hI2.row.lt
              have e1 : w1.cell? ⟨w.heap.size, t, none⟩ = some (.slice (X2 t) (I2 t).length (K2 t)) := by
                rw [hgrow.cell_far ⟨w.heap.size, t, none⟩ (by simp; omega) hne, World.cell?_alloc_past _ _ _ (by omega)]; exact d2
              have e2 : w1.frozen? ⟨w.heap.size, t, none⟩ = false := by
                rw [hgrow.frozen_far ⟨w.heap.size, t, none⟩ (by simp; omega) hne, World.frozen?_alloc_past _ _ _ (by omega)]; exact d3
              have R := hI2.push (q := q) hE hown1 hgrow hat
              have RM := HM2.out.step HT.out
              have HR2 : Hid (RelI w n L E q (j + 1) (w1.setCell ⟨w.heap.size, t, none⟩ (.slice (some ⟨g, 0, none⟩) ((I2 t).length + 1) cap))) := ⟨_, _, _, R, RM⟩
              clear hown1 hgrow hat hown d1 d2 d3 R RM HM2 hI2
              go_wp2
              go_roundw
              case rel => exact ⟨j + 1, by omega, by go_num, HR2.out⟩
              case measure => simp [intOf]; omega
          · obtain rfl : j = L q := by omega
            have HM' : Hid (Mem n L E (q + 1) 0 I2) := hM2.next (by unfold bigM; omega)
            clear hM2 hrow hZq
            go_wp2
            go_roundw
            case rel => exact ⟨q + 1, by omega, by go_num, X2, K2, I2, hI2, HM'.out⟩
            case measure => simp [intOf]; omega
    · obtain rfl : q = n := by omega
      go_wp2
      go_ret
      exact ⟨rfl, X, K, I, hI, hM⟩

end Go.Proofs.Qxb6614484a
