/-
  Two pointers into one row compared.
-/
import Derived.Test.Qxb6615084aProg
import Derived.WalkKit
import Derived.LaidEqlPtr
namespace Go.Proofs.Qxb6615084a

theorem info64s : (Try.prog.info? 64).map (·.size) = some 2 := by kernel_rfl

theorem run_sameAddr_row {P : Program} (w : World) (g i j : Nat) : (sameAddr ⟨g, i, none⟩ ⟨g, j, none⟩).run P w = .ok (decide (i = j)) w := by
  by_cases h : i = j
  · subst h; simp [sameAddr]
  · simp [sameAddr, h]

theorem run_equalIn31 (w : World) (g i j d : Nat) : (Op.equalIn (d + 1) 31 (.pointer (some ⟨g, i, none⟩)) (.pointer (some ⟨g, j, none⟩))).run Try.prog w = .ok (decide (i = j)) w := by
  obtain ⟨ie, hte, hsz⟩ := Option.map_eq_some_iff.1 info64s
  simp [Op.equalIn, run_underlying Try.underlying31, sizeOf, typeInfo, hte, hsz, run_sameAddr_row]

theorem run_eql31 (w : World) (g i j : Nat) : (binOp .eql 31 (.pointer (some ⟨g, i, none⟩)) (.pointer (some ⟨g, j, none⟩))).run Try.prog w = .ok (.bool (decide (i = j))) w := by
  have h := fun d => run_equalIn31 w g i j d
  simp only [binOp]
  simp [Op.equal, Op.maxDepth, h 9999]

theorem run_neq31 (w : World) (g i j : Nat) : (binOp .neq 31 (.pointer (some ⟨g, i, none⟩)) (.pointer (some ⟨g, j, none⟩))).run Try.prog w = .ok (.bool (!decide (i = j))) w := by
  have h := fun d => run_equalIn31 w g i j d
  simp only [binOp]
  simp [Op.equal, Op.maxDepth, h 9999]

end Go.Proofs.Qxb6615084a
