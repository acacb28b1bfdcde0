/-
  THE PROOF of Rows.FnWriteAtIsTheWthWriteAndNoOtherSaid: the frame is the shell that the seat was given, the walk is walk3 of Qxb6615084aW2.
-/
import Derived.Test.Qxb6615084aRows
import Derived.Test.Qxb6615084aW2
import Derived.Deep.Matrix
import Derived.WalkKit
import Derived.ProofKit
import Derived.OpenShut
import Derived.ShutString
import Derived.ChangeOld
import Derived.Below
namespace Go.Proofs.Qxb6615084a.fnWriteAtIsTheWthWriteAndNoOther
open Go.ChangeShapes Go.WideShapes Go.ChangeAt Go.RowKit
open Go.ChangeMaps (open_string shut_string)
set_option linter.unusedVariables false

theorem own : ownKnob Try.prog.godebug = none := by kernel_rfl
theorem laidOut : laidOutB Try.prog = true := by kernel_rfl

/-- The opened reading of a slice of slices of ints, as the walk asks it. -/
theorem rows_of_open {w : World} {a : Addr} {len cap base : Nat} {A : Nat → Option Addr} {L C : Nat → Nat} {Z : Nat → List Int} (hl : len ≤ cap)
    (h : ∀ r, r < cap → w.cell? (a.add r) = some (.slice (A r) (L r) (C r)) ∧ L r ≤ C r ∧ C r ≤ maxLen ∧ (Z r).length = C r ∧ (∀ n ∈ Z r, (Lit.int .i64 n).wf = true) ∧ (A r = none → C r = 0) ∧
        ∀ a', A r = some a' → base ≤ a'.block ∧ ∀ c, c < C r → w.cell? (a'.add c) = some (.int .i64 ((Z r).getD c 0))) :
    RowsAt w (some a) len (fun r => (A r).isNone) L (fun r j => (Z r).getD j 0) := by
  rcases Nat.eq_zero_or_pos len with h0 | hpos
  · exact .inl h0
  obtain ⟨b, off, spot⟩ := a
  have hspot : spot = none := by simpa [Addr.add] using World.cell?_spot (h 0 (by omega)).1
  subst hspot
  refine .inr ⟨b, off, rfl, fun r hr => ⟨A r, C r, ?_, rfl, ?_⟩⟩
  · rw [← Go.WideShapes.add_plain]; exact (h r (by omega)).1
  · obtain ⟨_, h2, _, _, _, h6, h7⟩ := h r (by omega)
    rcases Nat.eq_zero_or_pos (L r) with l0 | lpos
    · exact .inl l0
    cases hA : A r with
    | none => have := h6 hA; omega
    | some a' =>
      obtain ⟨_, hc⟩ := h7 a' hA
      obtain ⟨b', off', spot'⟩ := a'
      have hspot' : spot' = none := by simpa [Addr.add] using World.cell?_spot (hc 0 (by omega))
      subst hspot'
      exact .inr ⟨b', off', rfl, fun j hj => by rw [← Go.WideShapes.add_plain]; exact hc j (by omega)⟩

/-! ### THE ROW's STEP: WRITTEN OUT: LEAVE IT -/
set_option maxRecDepth 100000 in
theorem lifted (os : Os) (started : os.Started) (H : Type) (enc : TypeId × Value → H) :
    ReturnsInHanded {} Try.checked os 3 .any (Rows.fnWriteAtIsTheWthWriteAndNoOtherSpec.pre6 enc Try.prog Try.f3 Rows.fnWriteAtIsTheWthWriteAndNoOtherRow.domain false) (Rows.fnWriteAtIsTheWthWriteAndNoOtherSpec.post enc Try.prog Try.f3 false true false false) := by
  refine returnsInHanded_of_change (C := Try.checked) own started (by kernel_rfl) Try.func3
    (ChangeSpec.witness6 (enc := enc) (C := Try.checked) false ⟨#[], #[.slice none 0 0, .slice none 0 0, .int .i64 0, .int .i64 0], []⟩ 8 (by kernel_rfl) (by kernel_rfl) (by kernel_rfl) (by kernel_rfl)) ?_
  intro W base args ds gs before hval0 hW hcnd _
  have hval : ∀ (j : Nat) t v, Try.f3.params[j]? = some t → args[j]? = some v → Value.okWide Try.prog W .any base t v := hval0
  have hW' := hW
  obtain ⟨p, q, hA0, hV, rfl, hfz, hnd⟩ := hW
  have hA : DataW.TrodAll enc Try.prog W 0 (fun _ => true) true Try.f3.params.toList args.toList ds p := hA0
  rw [Try.params3] at hA hval
  obtain ⟨v0, vs0, d0, ds0, p0, q0, hargs, rfl, rfl, h0, r0⟩ := trodAll_cons hA
  obtain ⟨v1, vs1, d1, ds1, p1, q1, rfl, rfl, rfl, h1, r1⟩ := trodAll_cons r0
  obtain ⟨v2, vs2, d2, ds2, p2, q2, rfl, rfl, rfl, h2, r2⟩ := trodAll_cons r1
  obtain ⟨v3, vs3, d3, ds3, p3, q3, rfl, rfl, rfl, h3, r3⟩ := trodAll_cons r2
  obtain ⟨rfl, rfl, rfl⟩ := trodAll_nil r3
  obtain rfl : args = #[v0, v1, v2, v3] := by cases args; simp_all
  obtain ⟨rfl, rfl⟩ := trodVars_none hV
  obtain ⟨a0, len0, cap0, rfl⟩ := okWide_slice Try.underlying22 (hval 0 22 v0 rfl rfl)
  have k0 := h0
  have lt0 : ∀ x ∈ p0, x.block < W.heap.size := by obtain ⟨m, hm⟩ := k0; exact DataW.trod_lt m _ _ _ hm
  obtain ⟨z0, w0⟩ : ∃ zs : List Int, (a0 = none ∧ len0 = 0) ∨ ∃ x, a0 = some x ∧ len0 ≤ cap0 ∧ cap0 ≤ maxLen ∧ zs.length = cap0 ∧ ∀ i, i < zs.length → W.cell? (x.add i) = some (.int .i64 (zs.getD i 0)) := by
    obtain ⟨fuel, hf⟩ := h0
    rcases open_ints Try.underlying22 Try.underlying3 (by kernel_rfl) hf with ⟨hcs, _⟩ | ⟨x, l, c, zs, hcs, _, hl, hm, hz, _, hcell, _⟩
    · simp [Value.cells] at hcs
      obtain ⟨rfl, rfl, rfl⟩ := hcs
      exact ⟨[], .inl ⟨rfl, rfl⟩⟩
    · simp [Value.cells] at hcs
      obtain ⟨rfl, rfl, rfl⟩ := hcs
      exact ⟨zs, .inr ⟨_, rfl, hl, hm, by simpa using hz, hcell⟩⟩
  obtain ⟨a1, len1, cap1, rfl⟩ := okWide_slice Try.underlying23 (hval 1 23 v1 rfl rfl)
  have k1 := h1
  have lt1 : ∀ x ∈ p1, x.block < W.heap.size := by obtain ⟨m, hm⟩ := k1; exact DataW.trod_lt m _ _ _ hm
  obtain ⟨N1, L1, Z1, ml1, mL1, w1⟩ : ∃ (N : Nat → Bool) (L : Nat → Nat) (Z : Nat → Nat → Int), len1 ≤ maxLen ∧ (∀ r, r < len1 → L r ≤ maxLen) ∧ RowsAt W a1 len1 N L Z := by
    obtain ⟨fuel, hf⟩ := h1
    rcases Deep.open_int_rows Try.underlying23 Try.underlying22 Try.underlying3 (by kernel_rfl) (by kernel_rfl) hf with ⟨hcs, _⟩ | ⟨x, l, c, A, L, C, Z, hcs, _, hl, hm, _, hr⟩
    · simp [Value.cells] at hcs
      obtain ⟨rfl, rfl, rfl⟩ := hcs
      exact ⟨fun _ => true, fun _ => 0, fun _ _ => 0, Nat.zero_le _, fun _ _ => Nat.zero_le _, .inl rfl⟩
    · simp [Value.cells] at hcs
      obtain ⟨rfl, rfl, rfl⟩ := hcs
      exact ⟨fun r => (A r).isNone, L, fun r j => (Z r).getD j 0, Nat.le_trans hl hm, fun r hr' => Nat.le_trans (hr r (by omega)).2.1 (hr r (by omega)).2.2.1, rows_of_open hl hr⟩
  obtain ⟨a2, rfl, rfl, rfl, w2⟩ := open_int Try.underlying3 (hval 2 3 v2 rfl rfl) h2
  obtain ⟨a3, rfl, rfl, rfl, w3⟩ := open_int Try.underlying3 (hval 3 3 v3 rfl rfl) h3
  clear hA0 hval0
  refine (walk3 a0 len0 cap0 z0 a1 len1 cap1 a2 a3 W N1 L1 Z1 w0 ml1 mL1 w1).mono fun e W' ⟨he, bel⟩ => ?_
  subst he
  exact ⟨_, rfl, _, _, _, [], _, [], hW', trodAll_mk1 (shut_bool Try.underlying4 _), (trodAll_cons_mk (Below.trod laidOut (by kernel_rfl) (of_decide_eq_true (by kernel_rfl)) k0 bel lt0) (trodAll_cons_mk (Below.trod laidOut (by kernel_rfl) (of_decide_eq_true (by kernel_rfl)) k1 bel lt1) (trodAll_cons_mk (shut_int Try.underlying3 w2) (trodAll_cons_mk (shut_int Try.underlying3 w3) trodAll_mk0)))), rfl, bel.frame _, fun h => by cases h⟩

theorem over : Rows.fnWriteAtIsTheWthWriteAndNoOtherRow.holds Try.pinned (OpenSpec.ofChange Rows.fnWriteAtIsTheWthWriteAndNoOtherSpec) :=
  OpenClaim.holds_of_wide 3 Try.f3 rfl rfl rfl rfl rfl rfl rfl ⟨rfl, rfl, rfl, rfl, rfl⟩ rfl rfl rfl rfl rfl (by kernel_rfl) Try.func3 (by kernel_rfl)
    (of_decide_eq_true (by kernel_rfl)) (by unfold Func.isWrapper; first | (rw [if_pos (by decide +kernel)]; kernel_rfl) | (rw [if_neg (by decide +kernel)]; exact ⟨rfl, rfl⟩))
    (fun os started H enc _ => lifted os started H enc)

/-- ████ THE STATEMENT ████ -/
theorem proved : Rows.FnWriteAtIsTheWthWriteAndNoOtherSaid := over
#print axioms proved
end Go.Proofs.Qxb6615084a.fnWriteAtIsTheWthWriteAndNoOther
