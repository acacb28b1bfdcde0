/-
  The walk of 'zzLastInt' over a line whose last field is a numeral.
-/
import Derived.Test.Qxb6614453aFmtProg
import Derived.Test.Qxb6614453aFmtPlain
import Derived.WalkKit
import Derived.WalkSpells
namespace Go.Proofs.Qxb6614453aFmt
open Go.RowKit

/-- What the second loop is told: the digits from j0 on, the number that the first of them say. -/
structure Digs (t : ByteArray) (j0 : Nat) (ds : List UInt8) (u : Nat) : Prop where
  size : t.size = j0 + ds.length
  one : 1 ≤ ds.length
  get : ∀ j (h : j < t.size) (_ : j0 ≤ j), ∃ h' : j - j0 < ds.length, t[j] = ds[j - j0]
  dig : ∀ c ∈ ds, 48 ≤ c.toNat ∧ c.toNat ≤ 57
  num : num ds = u

theorem Digs.step {t : ByteArray} {j0 : Nat} {ds : List UInt8} {u : Nat} (D : Digs t j0 ds u) (j : Nat) (h : j < t.size) (h0 : j0 ≤ j) :
    48 ≤ t[j].toNat ∧ t[j].toNat ≤ 57 ∧ Qxb6614453aFmt.num (ds.take (j + 1 - j0)) = Qxb6614453aFmt.num (ds.take (j - j0)) * 10 + (t[j].toNat - 48) ∧ Qxb6614453aFmt.num (ds.take (j + 1 - j0)) ≤ u := by
  obtain ⟨h', e⟩ := D.get j h h0
  have hd := D.dig _ (List.getElem_mem h')
  have hs := num_step ds (j - j0) h'
  rw [show j - j0 + 1 = j + 1 - j0 by omega] at hs
  refine ⟨by rw [e]; exact hd.1, by rw [e]; exact hd.2, by rw [hs, e], ?_⟩
  rw [← D.num]
  exact num_take_le _ _

theorem Digs.all {t : ByteArray} {j0 : Nat} {ds : List UInt8} {u : Nat} (D : Digs t j0 ds u) : Qxb6614453aFmt.num (ds.take (t.size - j0)) = u := by
  rw [D.size, List.take_of_length_le (by omega)]; exact D.num

theorem digs_of {t : ByteArray} {pre : List UInt8} {u : Nat} (h : t.data.toList = pre ++ Lib.decDigits u) : Digs t pre.length (Lib.decDigits u) u := by
  have hs : t.size = pre.length + (Lib.decDigits u).length := by
    have := congrArg List.length h
    simpa using this
  refine ⟨hs, dec_pos u, fun j hj h0 => ⟨by omega, ?_⟩, dec_dig u, dec_num u⟩
  have e : t[j] = t.data.toList[j]'(by simpa using hj) := rfl
  rw [e, List.getElem_of_eq h, List.getElem_append_right h0]

theorem first_of {t : ByteArray} {c : UInt8} {l : List UInt8} (h : t.data.toList = c :: l) (hp : 0 < t.size) : t[0] = c := by
  have e : t[0] = t.data.toList[0]'(by simpa using hp) := rfl
  rw [e, List.getElem_of_eq h]; rfl

set_option maxHeartbeats 400000 in
theorem last8 (x t : ByteArray) (k0 : Nat) (n : Int) (w : World) (hx : x.size ≤ 2000000) (h0 : 0 < k0) (hk : k0 ≤ x.size)
    (hsp : ∀ h : k0 - 1 < x.size, x[k0 - 1].toNat = 32) (hns : ∀ i, k0 ≤ i → ∀ h : i < x.size, x[i].toNat ≠ 32)
    (ht : x.extract k0 x.size = t) (htl : t.data.toList = Lib.itoa n) (h1 : -9223372036854775808 ≤ n) (h2 : n ≤ 9223372036854775807) :
    Calls Tryf.prog 8 #[.string x] w fun e w' => e = .returned (.tuple #[.int .i64 n, .bool true]) ∧ w = w' := by
  have Hsp : Hid (∀ h : k0 - 1 < x.size, x[k0 - 1].toNat = 32) := hsp
  have Hns : Hid (∀ i, k0 ≤ i → ∀ h : i < x.size, x[i].toNat ≠ 32) := hns
  have htb : t.size ≤ 2000000 := by rw [← ht, ByteArray.size_extract]; omega
  clear hsp hns
  go_enter Tryf.func8, Tryf.ntmps8
  go_wp2
  go_loop [4] (fun i => ∃ k : Nat, k0 ≤ k ∧ k ≤ x.size ∧ i = .int .i64 k) (fun i => (intOf i).toNat)
  case atStart => exact ⟨x.size, hk, Nat.le_refl _, rfl⟩
  case round =>
    obtain ⟨k, g1, g2, rfl⟩ := hrel
    by_cases hlt : k0 < k
    · have hb : k - 1 < x.size := by omega
      have hne := Hns.out (k - 1) (by omega) hb
      clear htl
      go_wp2
      go_round
      case rel => exact ⟨k - 1, by omega, by omega, by go_num⟩
      case measure => simp [intOf]; omega
    · obtain rfl : k = k0 := by omega
      have hb : k - 1 < x.size := by omega
      have heq := Hsp.out hb
      clear Hsp Hns g1 hlt
      rcases itoa_forms n with ⟨hn, en⟩ | ⟨hn, en⟩
      · have D : Hid (Digs t 0 (Lib.decDigits n.toNat) n.toNat) := digs_of (pre := []) (by rw [htl, en]; rfl)
        have hp : 0 < t.size := by have := D.out.size; have := D.out.one; omega
        have hd0 := (D.out.step 0 hp (Nat.le_refl _)).1
        clear htl en
        go_wp2
        go_loop [6, 8] (fun J V => ∃ j N : Nat, 0 ≤ j ∧ j ≤ t.size ∧ J = .int .i64 j ∧ V = .int .i64 (-(N : Int)) ∧ Hid (N = num ((Lib.decDigits n.toNat).take (j - 0)))) (fun J _ => t.size - (intOf J).toNat)
        case atStart => exact ⟨0, 0, Nat.le_refl _, by omega, rfl, rfl, rfl⟩
        case round =>
          obtain ⟨j, N, e0, e1, rfl, rfl, HN⟩ := hrel
          by_cases hj : j < t.size
          · obtain ⟨d1, d2, d3, d4⟩ := D.out.step j hj e0
            rw [← HN.out] at d3
            have d5 : (N : Int) * 10 + ((t[j].toNat : Int) - 48) ≤ 9223372036854775808 := by omega
            have HS : Hid (num ((Lib.decDigits n.toNat).take (j + 1 - 0)) = N * 10 + (t[j].toNat - 48)) := d3
            clear d3 d4 HN
            go_wp2
            go_round
            case rel => exact ⟨j + 1, N * 10 + (t[j].toNat - 48), by omega, by omega, by go_num, by go_num, HS.out.symm⟩
            case measure => simp [intOf]; omega
          · obtain rfl : j = t.size := by omega
            have hN : N = n.toNat := by rw [HN.out]; exact D.out.all
            have hNb : (N : Int) ≤ 9223372036854775808 := by omega
            have HNn : Hid (N = n.toNat) := hN
            clear hN HN
            have hNb' : (N : Int) ≤ 9223372036854775807 := by have := HNn.out; omega
            go_wp2
            go_ret2
            exact ⟨by rw [HNn.out]; congr 3; go_num, rfl⟩
      · have D : Hid (Digs t 1 (Lib.decDigits n.natAbs) n.natAbs) := digs_of (pre := [45]) (by rw [htl, en]; rfl)
        have hp : 1 < t.size := by have := D.out.size; have := D.out.one; omega
        have hd0 : t[0].toNat = 45 := by rw [first_of (c := 45) (by rw [htl, en]) (by omega)]; rfl
        clear htl en
        go_wp2
        go_loop [6, 8] (fun J V => ∃ j N : Nat, 1 ≤ j ∧ j ≤ t.size ∧ J = .int .i64 j ∧ V = .int .i64 (-(N : Int)) ∧ Hid (N = num ((Lib.decDigits n.natAbs).take (j - 1)))) (fun J _ => t.size - (intOf J).toNat)
        case atStart => exact ⟨1, 0, Nat.le_refl _, by omega, rfl, rfl, rfl⟩
        case round =>
          obtain ⟨j, N, e0, e1, rfl, rfl, HN⟩ := hrel
          by_cases hj : j < t.size
          · obtain ⟨d1, d2, d3, d4⟩ := D.out.step j hj e0
            rw [← HN.out] at d3
            have d5 : (N : Int) * 10 + ((t[j].toNat : Int) - 48) ≤ 9223372036854775808 := by omega
            have HS : Hid (num ((Lib.decDigits n.natAbs).take (j + 1 - 1)) = N * 10 + (t[j].toNat - 48)) := d3
            clear d3 d4 HN
            go_wp2
            go_round
            case rel => exact ⟨j + 1, N * 10 + (t[j].toNat - 48), by omega, by omega, by go_num, by go_num, HS.out.symm⟩
            case measure => simp [intOf]; omega
          · obtain rfl : j = t.size := by omega
            have hN : N = n.natAbs := by rw [HN.out]; exact D.out.all
            have hNb : (N : Int) ≤ 9223372036854775808 := by omega
            have HNn : Hid (N = n.natAbs) := hN
            clear hN HN
            go_wp2
            go_ret2
            exact ⟨by rw [HNn.out]; congr 3; go_num, rfl⟩

end Go.Proofs.Qxb6614453aFmt
