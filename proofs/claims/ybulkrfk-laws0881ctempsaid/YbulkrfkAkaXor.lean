import Derived.Test.YbulkrfkAkaEnc
import Derived.Deep.QuietTactic
import Derived.BigQuiet
namespace Go.Proofs.Ybulkrfk
open Go.RowKit
set_option linter.unusedVariables false
attribute [local go_sem ↓] Go.wp_at_zero Go.wp_at_succ

theorem info5 : ∃ j, Yba.prog.info? 5 = some j ∧ j.size ≠ 0 := by
  have h := size5
  cases e : Yba.prog.info? 5 with
  | none => rw [e] at h; simp at h
  | some j => rw [e] at h; simp at h; exact ⟨j, rfl, by omega⟩
theorem ptr_same (w : World) (a : Addr) : (binOp .eql 71 (.pointer (some a)) (.pointer (some a))).run Yba.prog w = .ok (.bool true) w := by
  obtain ⟨j, hj, _⟩ := info5
  exact run_eql_ptr_same w a Yba.underlying71 hj
theorem ptr_other (w : World) {a b : Nat} (oa ob : Nat) {ca cb : Array Value} {ta tb : TypeId} (hab : a ≠ b) (ha : w.heap[a]? = some (.cells ca ta (0, 0))) (hb : w.heap[b]? = some (.cells cb tb (0, 0))) :
    (binOp .eql 71 (.pointer (some ⟨a, oa, none⟩)) (.pointer (some ⟨b, ob, none⟩))).run Yba.prog w = .ok (.bool false) w := by
  obtain ⟨j, hj, hs⟩ := info5
  exact run_eql_ptr_other w Yba.underlying71 hj hs (by intro e; exact hab (congrArg Addr.block e)) ha hb

theorem inexact_same (a oa : Nat) (w : World) :
    Calls Yba.prog 15 #[.slice (some ⟨a, oa, none⟩) 16 16, .slice (some ⟨a, oa, none⟩) 16 16] w fun r w' => r = .returned (.bool false) ∧ w' = w.drew := by
  have hq := fun w => ptr_same w ⟨a, oa, none⟩
  go_enter Yba.func15, Yba.ntmps15
  go_wp2
  go_region_held3 (fun _ => True) (trivial) (fail)
  go_wp2
  go_ret
  exact ⟨rfl, rfl⟩
theorem inexact_other (a b oa ob : Nat) (w : World) (ca cb : Array Value) (ta tb : TypeId) (hab : a ≠ b) (ha : w.heap[a]? = some (.cells ca ta (0, 0))) (hb : w.heap[b]? = some (.cells cb tb (0, 0))) :
    Calls Yba.prog 15 #[.slice (some ⟨a, oa, none⟩) 16 16, .slice (some ⟨b, ob, none⟩) 16 16] w fun r w' => r = .returned (.bool false) ∧ w' = w.drew := by
  have hq := ptr_other w.drew oa ob hab ha hb
  have hv := any_overlap_no w.drew a b oa ob ca cb ta tb hab ha hb
  clear ha hb
  go_enter Yba.func15, Yba.ntmps15
  go_wp2
  go_region_held3 (fun w' => (binOp .eql 71 (.pointer (some ⟨a, oa, none⟩)) (.pointer (some ⟨b, ob, none⟩))).run Yba.prog w' = .ok (.bool false) w') (exact hq) (fail)
  go_wp2
  go_ret
  exact ⟨rfl, rfl⟩

def xorB (f g : Nat → Int) (i : Nat) : Int := ((f i).toNat ^^^ (g i).toNat : Nat)
theorem cell_heap {w w' : World} (h : w'.heap = w.heap) (a : Addr) : w'.cell? a = w.cell? a := by simp [World.cell?, h]

set_option maxRecDepth 100000 in
theorem xor14 (D X Y ox oy : Nat) (f0 f g : Nat → Int) (w : World) (hD : w.heap[D]? = some (.cells (A16 f0) 54 (0, 0))) (hx : ∀ i, i < 16 → w.cell? ⟨X, ox + i, none⟩ = some (.int .u8 (f i))) (hy : ∀ i, i < 16 → w.cell? ⟨Y, oy + i, none⟩ = some (.int .u8 (g i)))
    (hI : ∀ w', w'.heap = w.heap → Calls Yba.prog 15 #[.slice (some ⟨D, 0, none⟩) 16 16, .slice (some ⟨X, ox, none⟩) 16 16] w' fun r w'' => r = .returned (.bool false) ∧ w'' = w'.drew)
    (hJ : ∀ w', w'.heap = w.heap → Calls Yba.prog 15 #[.slice (some ⟨D, 0, none⟩) 16 16, .slice (some ⟨Y, oy, none⟩) 16 16] w' fun r w'' => r = .returned (.bool false) ∧ w'' = w'.drew) :
    Calls Yba.prog 14 #[.slice (some ⟨D, 0, none⟩) 16 16, .slice (some ⟨X, ox, none⟩) 16 16, .slice (some ⟨Y, oy, none⟩) 16 16] w fun r w' => r = .returned (.int .i64 16) ∧
      w'.heap[D]? = some (.cells (A16 (xorB f g)) 54 (0, 0)) ∧ Step (fun b => b = D) w w' := by
  have hE : ∀ w', w'.heap = w.heap → (callFunc 16 #[.pointer (some ⟨D, 0, none⟩), .pointer (some ⟨X, ox, none⟩), .pointer (some ⟨Y, oy, none⟩), .int .i64 16]).run Yba.prog w' = .ok (.value (.tuple #[])) (w'.setCells D 0 (A16 (xorB f g)).toList) :=
    fun w' h => xor_bytes w' D X Y ox oy f g (fun i hi => (cell_heap h _).trans (hx i hi)) (fun i hi => (cell_heap h _).trans (hy i hi)) _ _ (A16_size f0) (by rw [h]; exact hD)
  have hE4 := hE w.drew.drew.drew.drew rfl
  clear hE
  have HD := hid hD
  have HI := hid hI
  have HJ := hid hJ
  clear hx hy hD hI hJ
  go_enter Yba.func14, Yba.ntmps14
  go_wp2
  go_region_held3 (fun w' => w'.heap = w.heap) (rfl)
    (first
      | (go_at_call_of 15 (Value.slice (some ⟨Y, oy, none⟩) 16 16); refine (HJ.out _ ?_).mono ?_; rfl; rintro e w' ⟨rfl, rfl⟩)
      | (go_at_call_of 15 (Value.slice (some ⟨X, ox, none⟩) 16 16); refine (HI.out _ ?_).mono ?_; rfl; rintro e w' ⟨rfl, rfl⟩))
  go_wp2
  go_region_held3 (fun _ => True) (trivial) (fail)
  go_wp2
  go_ret
  exact ⟨rfl, heap_setCells_A16 _ HD.out, Step.setCells (S := fun b => b = D) (w := w) (b := D) (Or.inl rfl) (A16 (xorB f g)).toList 0 _ (Step.refl _ w).drew.drew.drew.drew⟩

theorem xor12 (D X Y ox oy : Nat) (f0 f g : Nat → Int) (w : World) (hD : w.heap[D]? = some (.cells (A16 f0) 54 (0, 0))) (hx : ∀ i, i < 16 → w.cell? ⟨X, ox + i, none⟩ = some (.int .u8 (f i))) (hy : ∀ i, i < 16 → w.cell? ⟨Y, oy + i, none⟩ = some (.int .u8 (g i)))
    (hI : ∀ w', w'.heap = w.heap → Calls Yba.prog 15 #[.slice (some ⟨D, 0, none⟩) 16 16, .slice (some ⟨X, ox, none⟩) 16 16] w' fun r w'' => r = .returned (.bool false) ∧ w'' = w'.drew)
    (hJ : ∀ w', w'.heap = w.heap → Calls Yba.prog 15 #[.slice (some ⟨D, 0, none⟩) 16 16, .slice (some ⟨Y, oy, none⟩) 16 16] w' fun r w'' => r = .returned (.bool false) ∧ w'' = w'.drew) :
    Calls Yba.prog 12 #[.slice (some ⟨D, 0, none⟩) 16 16, .slice (some ⟨X, ox, none⟩) 16 16, .slice (some ⟨Y, oy, none⟩) 16 16] w fun r w' => r = .returned (.int .i64 16) ∧
      w'.heap[D]? = some (.cells (A16 (xorB f g)) 54 (0, 0)) ∧ Step (fun b => b = D) w w' := by
  have H := hid (xor14 D X Y ox oy f0 f g w hD hx hy hI hJ)
  clear hD hx hy hI hJ
  go_enter Yba.func12, Yba.ntmps12
  go_wp2_with (go_at_call 14; refine H.out.mono ?_; rintro e w' ⟨rfl, h1, h2⟩)
  go_ret
  exact ⟨rfl, h1, h2⟩
/-- dst is x; y lies in another block. -/
theorem xor_same (D Y oy : Nat) (f g : Nat → Int) (w : World) (cY : Array Value) (tY : TypeId) (hDY : D ≠ Y) (hD : w.heap[D]? = some (.cells (A16 f) 54 (0, 0))) (hY : w.heap[Y]? = some (.cells cY tY (0, 0)))
    (hy : ∀ i, i < 16 → cY[oy + i]? = some (.int .u8 (g i))) :
    Calls Yba.prog 12 #[.slice (some ⟨D, 0, none⟩) 16 16, .slice (some ⟨D, 0, none⟩) 16 16, .slice (some ⟨Y, oy, none⟩) 16 16] w fun r w' => r = .returned (.int .i64 16) ∧
      w'.heap[D]? = some (.cells (A16 (xorB f g)) 54 (0, 0)) ∧ Step (fun b => b = D) w w' :=
  xor12 D D Y 0 oy f f g w hD (fun i hi => by rw [cell_of_row w D _ _ _ _ hD, A16_get f _ (by omega), Nat.zero_add]) (fun i hi => by rw [cell_of_row w Y _ _ _ _ hY, hy i hi])
    (fun w' _ => inexact_same D 0 w') (fun w' h => inexact_other D Y 0 oy w' _ _ _ _ hDY (by rw [h]; exact hD) (by rw [h]; exact hY))
/-- Three blocks. -/
theorem xor_three (D X Y oy : Nat) (f0 f g : Nat → Int) (w : World) (cY : Array Value) (tY : TypeId) (hDX : D ≠ X) (hDY : D ≠ Y) (hD : w.heap[D]? = some (.cells (A16 f0) 54 (0, 0))) (hX : w.heap[X]? = some (.cells (A16 f) 54 (0, 0)))
    (hY : w.heap[Y]? = some (.cells cY tY (0, 0))) (hy : ∀ i, i < 16 → cY[oy + i]? = some (.int .u8 (g i))) :
    Calls Yba.prog 12 #[.slice (some ⟨D, 0, none⟩) 16 16, .slice (some ⟨X, 0, none⟩) 16 16, .slice (some ⟨Y, oy, none⟩) 16 16] w fun r w' => r = .returned (.int .i64 16) ∧
      w'.heap[D]? = some (.cells (A16 (xorB f g)) 54 (0, 0)) ∧ Step (fun b => b = D) w w' :=
  xor12 D X Y 0 oy f0 f g w hD (fun i hi => by rw [cell_of_row w X _ _ _ _ hX, A16_get f _ (by omega), Nat.zero_add]) (fun i hi => by rw [cell_of_row w Y _ _ _ _ hY, hy i hi])
    (fun w' h => inexact_other D X 0 0 w' _ _ _ _ hDX (by rw [h]; exact hD) (by rw [h]; exact hX)) (fun w' h => inexact_other D Y 0 oy w' _ _ _ _ hDY (by rw [h]; exact hD) (by rw [h]; exact hY))
end Go.Proofs.Ybulkrfk
