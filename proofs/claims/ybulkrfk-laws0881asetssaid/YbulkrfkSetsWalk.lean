import Derived.Test.YbulkrfkSsWalks
import Derived.LaidEqlPtr
namespace Go.Proofs.Ybulkrfk
open Go.RowKit
set_option linter.unusedVariables false
attribute [local go_sem ↓] Go.wp_at_zero Go.wp_at_succ

theorem sets_no (a b : Int) (l1 l2 l3 : ByteArray) (y z : Int) (h1 : -2147483648 ≤ a) (h2 : a ≤ 2147483647) (h3 : -2147483648 ≤ b) (h4 : b ≤ 2147483647) (w : World) :
    Calls Yba.prog 3 #[.int .i32 a, .int .i32 b, .string l1, .string l2, .int .i64 y, .bool false, .string l3, .int .i64 z] w fun e w' => e = .returned (.bool true) ∧ Grown w w' := by
  have k1 : -9223372036854775808 ≤ a * 1000000 + b := by omega
  have k2 : a * 1000000 + b ≤ 9223372036854775807 := by omega
  go_enter Yba.func3, Yba.ntmps3
  go_wp2_with (go_at_call 7; refine (due_any _ (a * 1000000 + b) y l1 l2 (.pointer none) k1 k2 _ (by simp [go_sem]) (by simp [go_sem]) (by simp [go_sem]) (by simp [go_sem])).mono ?_; rintro e w' ⟨rfl, rfl⟩)
  go_region_held3 (fun w' => w'.cell? ⟨w.heap.size + 1, 3, none⟩ = some (.int .i64 (bef (a * 1000000 + b) y))) (simp [go_sem])
    (first | (go_at_call 8; refine (expect_any (a * 1000000 + b) y k1 k2 _).mono ?_; rintro e w' ⟨rfl, rfl⟩))
  go_wp2
  go_ret
  exact ⟨rfl, by repeat (first | exact Grown.refl _ | apply Grown.drew | apply Grown.alloc)⟩

theorem cells49 : Yba.prog.cellsOf 49 = 4 := by kernel_rfl
theorem info49 : ∃ j, Yba.prog.info? 49 = some j ∧ j.size ≠ 0 := by
  have h := cells49
  unfold Program.cellsOf at h
  cases e : Yba.prog.info? 49 with
  | none => rw [e] at h; simp at h
  | some j => rw [e] at h; simp at h; exact ⟨j, rfl, by omega⟩
theorem apart (w : World) (A B C : Array Value) :
    (binOp .eql 42 (.pointer (some ⟨w.heap.size + 2, 0, none⟩)) (.pointer (some ⟨w.heap.size + 1, 0, none⟩))).run Yba.prog (((w.alloc (.cells A 47)).alloc (.cells B 49)).alloc (.cells C 49)).drew
      = .ok (.bool false) (((w.alloc (.cells A 47)).alloc (.cells B 49)).alloc (.cells C 49)).drew := by
  obtain ⟨j, hj, hs⟩ := info49
  refine run_eql_ptr_other _ (ca := C) (cb := B) (ta := 49) (tb := 49) Yba.underlying42 hj hs (by simp) ?_ ?_
  · show (((w.heap.push (.cells A 47)).push (.cells B 49)).push (.cells C 49))[w.heap.size + 2]? = _
    rw [Array.getElem?_push, if_pos (by simp)]
  · show (((w.heap.push (.cells A 47)).push (.cells B 49)).push (.cells C 49))[w.heap.size + 1]? = _
    rw [Array.getElem?_push, if_neg (by simp), Array.getElem?_push, if_pos (by simp)]

set_option maxRecDepth 100000 in
theorem sets_yes (a b : Int) (l1 l2 l3 : ByteArray) (y z : Int) (h1 : -2147483648 ≤ a) (h2 : a ≤ 2147483647) (h3 : -2147483648 ≤ b) (h4 : b ≤ 2147483647) (w : World) :
    Calls Yba.prog 3 #[.int .i32 a, .int .i32 b, .string l1, .string l2, .int .i64 y, .bool true, .string l3, .int .i64 z] w fun e w' => e = .returned (.bool true) ∧ Grown w w' := by
  have k1 : -9223372036854775808 ≤ a * 1000000 + b := by omega
  have k2 : a * 1000000 + b ≤ 9223372036854775807 := by omega
  have hap := apart w
  go_enter Yba.func3, Yba.ntmps3
  go_wp2_with (go_at_call 7; refine (due_any _ (a * 1000000 + b) y l1 l2 (.pointer (some ⟨w.heap.size + 1, 0, none⟩)) k1 k2 _ (by simp [go_sem]) (by simp [go_sem]) (by simp [go_sem]) (by simp [go_sem])).mono ?_; rintro e w' ⟨rfl, rfl⟩)
  go_region_held3 (fun w' => w'.cell? ⟨w.heap.size + 2, 3, none⟩ = some (.int .i64 (bef (a * 1000000 + b) y))) (simp [go_sem])
    (first | (go_at_call 8; refine (expect_any (a * 1000000 + b) y k1 k2 _).mono ?_; rintro e w' ⟨rfl, rfl⟩))
  go_wp2
  go_ret
  exact ⟨rfl, by repeat (first | exact Grown.refl _ | apply Grown.drew | apply Grown.alloc)⟩
end Go.Proofs.Ybulkrfk
