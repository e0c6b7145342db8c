import Derived.Test.YbulkricTime
import Derived.Laws.StructEq
import Derived.Deep.RegionHeld3
import Derived.Deep.DrawnRows
namespace Go.Proofs.Ybulkric
open Go.RowKit
set_option linter.unusedVariables false
attribute [local go_sem ↓] Go.wp_at_zero Go.wp_at_succ

theorem meqt_self (s n : Int) : eqt s n s n = true := by simp [eqt]

theorem mp0 (n s : Int) (w : World) : (part 30 #[.int .u64 n, .int .i64 s, .pointer none] 0).run Yba.prog w = .ok (.int .u64 n) w := by kernel_rfl
theorem mp1 (n s : Int) (w : World) : (part 2 #[.int .u64 n, .int .i64 s, .pointer none] 1).run Yba.prog w = .ok (.int .i64 s) w := by kernel_rfl
theorem mp2 (n s : Int) (w : World) : (part 31 #[.int .u64 n, .int .i64 s, .pointer none] 2).run Yba.prog w = .ok (.pointer none) w := by kernel_rfl
theorem me2 (w : World) : (Op.equalIn 9999 31 (.pointer none) (.pointer none)).run Yba.prog w = .ok true w := by kernel_rfl
theorem guard33 : Yba.prog.eqGuardType Yba.prog.depth 33 = false := by kernel_rfl
theorem eqlT (s1 n1 s2 n2 : Int) (w : World) : (binOp .eql 33 (T s1 n1) (T s2 n2)).run Yba.prog w = .ok (.bool (decide (n1 = n2) && decide (s1 = s2))) w := by
  have hu : Yba.prog.underlying 33 = some (.struct (Yba.prog.fieldsOf 33)) := by kernel_rfl
  have i0 := fun (a b : Int) => run_equalIn_int (P := Yba.prog) w 9998 30 .u64 _ a b Yba.underlying30
  have i1 := fun (a b : Int) => run_equalIn_int (P := Yba.prog) w 9998 2 .i64 _ a b Yba.underlying2
  rw [run_eql_struct, show (10000 : Nat) = 9999 + 1 from rfl, run_equalIn_struct w 9999 33 _ _ hu (by kernel_rfl)]
  simp [Program.fieldsOf, Yba.underlying33, Op.eqFields, mp0, mp1, mp2, me2, i0, i1]
  by_cases h1 : n1 = n2 <;> by_cases h2 : s1 = s2 <;> simp [h1, h2]

set_option maxRecDepth 100000 in
set_option maxHeartbeats 1000000 in
theorem max_lt (x y : Int) (x0 : -9223372036854775808 ≤ x) (x1 : x ≤ 9223372036854775807) (y0 : -9223372036854775808 ≤ y) (y1 : y ≤ 9223372036854775807) (hlt : x < y) (w : World) :
    Calls Yba.prog 5 #[.int .i64 x, .int .i64 y] w fun e w' => e = .returned (.bool true) ∧ Grown w w' := by
  have Q1 := hid (show aft (fl y) (fm y) (fl x) (fm x) = true by rw [aft_fl]; simpa using hlt)
  have Q4 := hid (meqt_self (fl y) (fm y))
  have Q5 := hid (show decide (x < y) = true by simpa using hlt)
  have k1 : ∀ w, (binOp .eql 33 (T (fl y) (fm y)) (T (fl x) (fm x))).run Yba.prog w = .ok (.bool false) w := fun w => (eqlT (fl y) (fm y) (fl x) (fm x) w).trans (by rw [show (decide (fm y = fm x) && decide (fl y = fl x)) = false by unfold fm fl; simp; omega])
  have k2 : ∀ w, (binOp .eql 33 (T (fl y) (fm y)) (T (fl y) (fm y))).run Yba.prog w = .ok (.bool true) w := fun w => (eqlT (fl y) (fm y) (fl y) (fm y) w).trans (by simp)
  have hm := guard33
  obtain ⟨p0, p1⟩ := fm_bd x
  obtain ⟨q0, q1⟩ := fm_bd y
  clear hlt
  go_enter Yba.func5, Yba.ntmps5
  go_wp2_with (first
    | (go_at_call_of 8 (Value.int IntKind.i64 x); refine (add_any x x0 x1 _).mono ?_; rintro e w' ⟨rfl, c1, c2, rfl⟩)
    | (go_at_call_of 8 (Value.int IntKind.i64 y); refine (add_any y y0 y1 _).mono ?_; rintro e w' ⟨rfl, c3, c4, rfl⟩))
  refine (later_any (fl x) (fm x) (fl y) (fm y) p0 p1 q0 q1 _ true Q1.out).mono ?_
  rintro e w' ⟨rfl, d1, d2, d3, d4, d5, rfl⟩
  go_wp2
  go_region_held3 (fun w' => w'.cell? ⟨w.heap.size + 1 + 1 + 1 + 1 + 1 + 1 + 1 + 1 + 1 + 1 + 1 + 1, 0, none⟩ = some (.int .u64 (fm y)) ∧ w'.cell? ⟨w.heap.size + 1 + 1 + 1 + 1 + 1 + 1 + 1 + 1 + 1 + 1 + 1 + 1, 1, none⟩ = some (.int .i64 (fl y)) ∧ w'.cell? ⟨w.heap.size + 1 + 1 + 1 + 1 + 1 + 1 + 1 + 1 + 1 + 1 + 1 + 1, 2, none⟩ = some (.pointer none) ∧ w'.cell? ⟨w.heap.size, 0, none⟩ = some (.int .u64 0) ∧ w'.cell? ⟨w.heap.size, 1, none⟩ = some (.int .i64 0) ∧ w'.cell? ⟨w.heap.size, 2, none⟩ = some (.pointer none)) (simp [go_sem, World.cell?_alloc_past])
    (first
      | (go_at_call 11; refine (max_any x y _ true Q5.out).mono ?_; rintro e w' ⟨rfl, rfl⟩)
      | (go_at_call 8; refine (add_any y y0 y1 _).mono ?_; rintro e w' ⟨rfl, e1, e2, rfl⟩)
      | (go_at_call 10; refine (equal_any (fl y) (fm y) (fl y) (fm y) q0 q1 q0 q1 _).mono ?_; rw [Q4.out]; rintro e w' ⟨rfl, e3, e4, rfl⟩))
  go_wp2
  go_ret
  refine ⟨rfl, Grown.drew ?_⟩
  repeat (refine Grown.alloc ?_ _ _)
  exact Grown.refl w

set_option maxRecDepth 100000 in
set_option maxHeartbeats 1000000 in
theorem max_ge (x y : Int) (x0 : -9223372036854775808 ≤ x) (x1 : x ≤ 9223372036854775807) (y0 : -9223372036854775808 ≤ y) (y1 : y ≤ 9223372036854775807) (hlt : y ≤ x) (w : World) :
    Calls Yba.prog 5 #[.int .i64 x, .int .i64 y] w fun e w' => e = .returned (.bool true) ∧ Grown w w' := by
  have Q1 := hid (show aft (fl y) (fm y) (fl x) (fm x) = false by rw [aft_fl]; simp; omega)
  have Q4 := hid (meqt_self (fl x) (fm x))
  have Q5 := hid (show decide (x < y) = false by simp; omega)
  have k2 : ∀ w, (binOp .eql 33 (T (fl x) (fm x)) (T (fl x) (fm x))).run Yba.prog w = .ok (.bool true) w := fun w => (eqlT (fl x) (fm x) (fl x) (fm x) w).trans (by simp)
  have hm := guard33
  obtain ⟨p0, p1⟩ := fm_bd x
  obtain ⟨q0, q1⟩ := fm_bd y
  clear hlt
  go_enter Yba.func5, Yba.ntmps5
  go_wp2_with (first
    | (go_at_call_of 8 (Value.int IntKind.i64 x); refine (add_any x x0 x1 _).mono ?_; rintro e w' ⟨rfl, c1, c2, rfl⟩)
    | (go_at_call_of 8 (Value.int IntKind.i64 y); refine (add_any y y0 y1 _).mono ?_; rintro e w' ⟨rfl, c3, c4, rfl⟩))
  refine (later_any (fl x) (fm x) (fl y) (fm y) p0 p1 q0 q1 _ false Q1.out).mono ?_
  rintro e w' ⟨rfl, d1, d2, d3, d4, d5, rfl⟩
  go_wp2
  go_region_held3 (fun w' => w'.cell? ⟨w.heap.size + 1 + 1 + 1 + 1 + 1 + 1 + 1 + 1 + 1 + 1 + 1 + 1, 0, none⟩ = some (.int .u64 (fm x)) ∧ w'.cell? ⟨w.heap.size + 1 + 1 + 1 + 1 + 1 + 1 + 1 + 1 + 1 + 1 + 1 + 1, 1, none⟩ = some (.int .i64 (fl x)) ∧ w'.cell? ⟨w.heap.size + 1 + 1 + 1 + 1 + 1 + 1 + 1 + 1 + 1 + 1 + 1 + 1, 2, none⟩ = some (.pointer none) ∧ w'.cell? ⟨w.heap.size, 0, none⟩ = some (.int .u64 0) ∧ w'.cell? ⟨w.heap.size, 1, none⟩ = some (.int .i64 0) ∧ w'.cell? ⟨w.heap.size, 2, none⟩ = some (.pointer none)) (simp [go_sem, World.cell?_alloc_past])
    (first
      | (go_at_call 11; refine (max_any x y _ false Q5.out).mono ?_; rintro e w' ⟨rfl, rfl⟩)
      | (go_at_call 8; refine (add_any x x0 x1 _).mono ?_; rintro e w' ⟨rfl, e1, e2, rfl⟩)
      | (go_at_call 10; refine (equal_any (fl x) (fm x) (fl x) (fm x) p0 p1 p0 p1 _).mono ?_; rw [Q4.out]; rintro e w' ⟨rfl, e3, e4, rfl⟩))
  go_wp2
  go_ret
  refine ⟨rfl, Grown.drew ?_⟩
  repeat (refine Grown.alloc ?_ _ _)
  exact Grown.refl w

end Go.Proofs.Ybulkric
