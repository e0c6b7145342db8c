import Derived.Test.YbulkricTime
import Derived.Deep.RegionHeld3
import Derived.Deep.DrawnRows
namespace Go.Proofs.Ybulkric
open Go.RowKit
set_option linter.unusedVariables false
attribute [local go_sem ↓] Go.wp_at_zero Go.wp_at_succ

theorem eqt_self (s n : Int) : eqt s n s n = true := by simp [eqt]
theorem aft_self (s n : Int) : aft s n s n = false := by simp [aft]

set_option maxRecDepth 100000 in
set_option maxHeartbeats 1000000 in
theorem upper_lt (x : Int) (y : Int) (x0 : -9223372036854775808 ≤ x) (x1 : x ≤ 9223372036854775807) (y0 : -9223372036854775808 ≤ y) (y1 : y ≤ 9223372036854775807) (hlt : x < y) (w : World) :
    Calls Yba.prog 6 #[.int .i64 x, .int .i64 y] w fun e w' => e = .returned (.bool true) ∧ Grown w w' := by
  have Q1 := hid (show aft (fl y) (fm y) (fl x) (fm x) = true by rw [aft_fl]; simpa using hlt)
  have Q2 := hid (show aft (fl x) (fm x) (fl y) (fm y) = false by rw [aft_fl]; simp; omega)
  have Q3 := hid (aft_self (fl y) (fm y))
  have Q4 := hid (eqt_self (fl y) (fm y))
  obtain ⟨p0, p1⟩ := fm_bd x
  obtain ⟨q0, q1⟩ := fm_bd y
  clear hlt
  go_enter Yba.func6, Yba.ntmps6
  go_wp2_with (first
    | (go_at_call_of 8 (Value.int IntKind.i64 x); refine (add_any x x0 x1 _).mono ?_; rintro e w' ⟨rfl, c1, c2, rfl⟩)
    | (go_at_call_of 8 (Value.int IntKind.i64 y); refine (add_any y y0 y1 _).mono ?_; rintro e w' ⟨rfl, c3, c4, rfl⟩))
  refine (later_any (fl x) (fm x) (fl y) (fm y) p0 p1 q0 q1 _ true Q1.out).mono ?_
  rintro e w' ⟨rfl, d1, d2, d3, d4, d5, rfl⟩
  go_wp2_with fail
  refine (later_any (fl y) (fm y) (fl x) (fm x) q0 q1 p0 p1 _ false Q2.out).mono ?_
  rintro e w' ⟨rfl, d6, d7, d8, d9, d10, rfl⟩
  go_wp2_with fail
  refine (before_any (fl y) (fm y) (fl x) (fm x) q0 q1 p0 p1 _).mono ?_
  rw [Q2.out]
  rintro e w' ⟨rfl, e1, e2, rfl⟩
  go_wp2_with fail
  refine (before_any (fl y) (fm y) (fl y) (fm y) q0 q1 q0 q1 _).mono ?_
  rw [Q3.out]
  rintro e w' ⟨rfl, e3, e4, rfl⟩
  go_wp2_with fail
  refine (equal_any (fl y) (fm y) (fl y) (fm y) q0 q1 q0 q1 _).mono ?_
  rw [Q4.out]
  rintro e w' ⟨rfl, e5, e6, rfl⟩
  go_wp2
  go_ret
  refine ⟨rfl, ?_⟩
  repeat (refine Grown.alloc ?_ _ _)
  exact Grown.refl w

set_option maxRecDepth 100000 in
set_option maxHeartbeats 1000000 in
theorem upper_gt (x : Int) (y : Int) (x0 : -9223372036854775808 ≤ x) (x1 : x ≤ 9223372036854775807) (y0 : -9223372036854775808 ≤ y) (y1 : y ≤ 9223372036854775807) (hlt : y < x) (w : World) :
    Calls Yba.prog 6 #[.int .i64 x, .int .i64 y] w fun e w' => e = .returned (.bool true) ∧ Grown w w' := by
  have Q1 := hid (show aft (fl y) (fm y) (fl x) (fm x) = false by rw [aft_fl]; simp; omega)
  have Q2 := hid (show aft (fl x) (fm x) (fl y) (fm y) = true by rw [aft_fl]; simpa using hlt)
  have Q3 := hid (aft_self (fl x) (fm x))
  have Q4 := hid (eqt_self (fl x) (fm x))
  obtain ⟨p0, p1⟩ := fm_bd x
  obtain ⟨q0, q1⟩ := fm_bd y
  clear hlt
  go_enter Yba.func6, Yba.ntmps6
  go_wp2_with (first
    | (go_at_call_of 8 (Value.int IntKind.i64 x); refine (add_any x x0 x1 _).mono ?_; rintro e w' ⟨rfl, c1, c2, rfl⟩)
    | (go_at_call_of 8 (Value.int IntKind.i64 y); refine (add_any y y0 y1 _).mono ?_; rintro e w' ⟨rfl, c3, c4, rfl⟩))
  refine (later_any (fl x) (fm x) (fl y) (fm y) p0 p1 q0 q1 _ false Q1.out).mono ?_
  rintro e w' ⟨rfl, d1, d2, d3, d4, d5, rfl⟩
  go_wp2_with fail
  refine (later_any (fl y) (fm y) (fl x) (fm x) q0 q1 p0 p1 _ true Q2.out).mono ?_
  rintro e w' ⟨rfl, d6, d7, d8, d9, d10, rfl⟩
  go_wp2_with fail
  refine (before_any (fl x) (fm x) (fl x) (fm x) p0 p1 p0 p1 _).mono ?_
  rw [Q3.out]
  rintro e w' ⟨rfl, e1, e2, rfl⟩
  go_wp2_with fail
  refine (before_any (fl x) (fm x) (fl y) (fm y) p0 p1 q0 q1 _).mono ?_
  rw [Q1.out]
  rintro e w' ⟨rfl, e3, e4, rfl⟩
  go_wp2_with fail
  refine (equal_any (fl x) (fm x) (fl x) (fm x) p0 p1 p0 p1 _).mono ?_
  rw [Q4.out]
  rintro e w' ⟨rfl, e5, e6, rfl⟩
  go_wp2
  go_ret
  refine ⟨rfl, ?_⟩
  repeat (refine Grown.alloc ?_ _ _)
  exact Grown.refl w

set_option maxRecDepth 100000 in
set_option maxHeartbeats 1000000 in
theorem upper_eq (x : Int) (x0 : -9223372036854775808 ≤ x) (x1 : x ≤ 9223372036854775807) (w : World) :
    Calls Yba.prog 6 #[.int .i64 x, .int .i64 x] w fun e w' => e = .returned (.bool true) ∧ Grown w w' := by
  have Q1 := hid (show aft (fl x) (fm x) (fl x) (fm x) = false by rw [aft_fl]; simp)
  have Q2 := hid (show aft (fl x) (fm x) (fl x) (fm x) = false by rw [aft_fl]; simp)
  have Q3 := hid (aft_self (fl x) (fm x))
  have Q4 := hid (eqt_self (fl x) (fm x))
  obtain ⟨p0, p1⟩ := fm_bd x
  skip
  go_enter Yba.func6, Yba.ntmps6
  go_wp2_with (first
    | (go_at_call_of 8 (Value.int IntKind.i64 x); refine (add_any x x0 x1 _).mono ?_; rintro e w' ⟨rfl, c1, c2, rfl⟩))
  refine (later_any (fl x) (fm x) (fl x) (fm x) p0 p1 p0 p1 _ false Q1.out).mono ?_
  rintro e w' ⟨rfl, d1, d2, d3, d4, d5, rfl⟩
  go_wp2_with fail
  refine (later_any (fl x) (fm x) (fl x) (fm x) p0 p1 p0 p1 _ false Q2.out).mono ?_
  rintro e w' ⟨rfl, d6, d7, d8, d9, d10, rfl⟩
  go_wp2_with fail
  refine (before_any (fl x) (fm x) (fl x) (fm x) p0 p1 p0 p1 _).mono ?_
  rw [Q3.out]
  rintro e w' ⟨rfl, e1, e2, rfl⟩
  go_wp2_with fail
  refine (before_any (fl x) (fm x) (fl x) (fm x) p0 p1 p0 p1 _).mono ?_
  rw [Q3.out]
  rintro e w' ⟨rfl, e3, e4, rfl⟩
  go_wp2_with fail
  refine (equal_any (fl x) (fm x) (fl x) (fm x) p0 p1 p0 p1 _).mono ?_
  rw [Q4.out]
  rintro e w' ⟨rfl, e5, e6, rfl⟩
  go_wp2
  go_ret
  refine ⟨rfl, ?_⟩
  repeat (refine Grown.alloc ?_ _ _)
  exact Grown.refl w

end Go.Proofs.Ybulkric
