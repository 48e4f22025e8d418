import Derived.Test.YbulkdogoDoorRows
import Derived.WalkKit
namespace Go.Proofs.YbulkdogoDoor
open Go.RowKit
def isF : Value → Bool | .bool false => true | _ => false
theorem isF_eq {v : Value} (h : isF v = true) : v = .bool false := by
  unfold isF at h
  split at h
  · rfl
  · cases h
def isZ : Option Value → Bool | some (.agg Z) => Nat.beq Z.size 16384 && Z.toList.all isF | _ => false
theorem isZ_out {o : Option Value} (h : isZ o = true) : ∃ Z : Array Value, o = some (.agg Z) ∧ Z.size = 16384 ∧ ∀ i, i < 16384 → Z[i]? = some (.bool false) := by
  unfold isZ at h
  split at h
  · rename_i Z
    simp only [Bool.and_eq_true] at h
    have hs : Z.size = 16384 := Nat.eq_of_beq_eq_true h.1
    refine ⟨Z, rfl, hs, fun i hi => ?_⟩
    have hi' : i < Z.size := by omega
    rw [Array.getElem?_eq_getElem hi']
    congr 1
    exact isF_eq (List.all_eq_true.1 h.2 _ (by rw [← Array.getElem_toList]; exact List.getElem_mem _))
  · cases h
/-- The zero cells of a matrix. -/
theorem zero25 : ∃ Z : Array Value, Ybad.t25.zero = some (.agg Z) ∧ Z.size = 16384 ∧ ∀ i, i < 16384 → Z[i]? = some (.bool false) := isZ_out (by kernel_rfl)
end Go.Proofs.YbulkdogoDoor
