import Derived.Test.YbulkrhaDoorRows
import Derived.WalkKit
namespace Go.Proofs.YbulkrhaDoor
open Go.RowKit

def isZero : Option Value → Bool
  | some (.int .i32 n) => n == 0
  | _ => false
def zeroCheck : Option (Option Value) → Bool
  | some (some (.agg Z)) => Z.size == 8224 && isZero (Z[8218]? : Option Value)
  | _ => false
theorem zero_check : zeroCheck ((Ybad.prog.info? 59).map (·.zero)) = true := by kernel_rfl
theorem store_zero : ∃ Z : Array Value, Z.size = 8224 ∧ Z[8218]? = some (.int .i32 0) ∧ ∀ w, (zeroValue 59).run Ybad.prog w = .ok (.agg Z) w := by
  have h := zero_check
  cases hi : Ybad.prog.info? 59 with
  | none => rw [hi] at h; simp [zeroCheck] at h
  | some i =>
    rw [hi] at h
    simp only [Option.map_some] at h
    cases hz : i.zero with
    | none => rw [hz] at h; simp [zeroCheck] at h
    | some v =>
      rw [hz] at h
      have hr : ∀ w, (zeroValue 59).run Ybad.prog w = .ok v w := fun w => by simp [zeroValue, typeInfo, hi, hz]
      cases v with
      | agg Z =>
        simp only [zeroCheck, Bool.and_eq_true, beq_iff_eq] at h
        refine ⟨Z, h.1, ?_, hr⟩
        have h2 := h.2
        cases e : (Z[8218]? : Option Value) with
        | none => rw [e] at h2; simp [isZero] at h2
        | some x =>
          rw [e] at h2
          unfold isZero at h2
          split at h2
          · rename_i n e2
            have : n = 0 := by simpa using h2
            rw [e2, this]
          · simp at h2
      | _ => simp [zeroCheck] at h
theorem store_build : ∃ Z : Array Value, Z.size = 8224 ∧ Z[8218]? = some (.int .i32 0) ∧ ∀ m w, (Instr.build 59 #[(9, .map m)]).run Ybad.prog w = .ok (.agg (Z.setIfInBounds 8220 (.map m))) w := by
  obtain ⟨Z, hs, h18, hz⟩ := store_zero
  refine ⟨Z, hs, h18, fun m w => ?_⟩
  simp [Instr.build, hz, run_underlying Ybad.underlying59, Ybad.sizeOf9, Ybad.sizeOf31, Ybad.sizeOf39, Ybad.sizeOf38, Ybad.sizeOf40, Ybad.sizeOf41, Ybad.sizeOf44, Ybad.sizeOf54, Ybad.sizeOf30, Ybad.sizeOf57, Instr.fill, Value.cells, hs]
end Go.Proofs.YbulkrhaDoor
