import Derived.Test.YbulkrfkRows
import Derived.WalkKit
import Derived.WalkSpells
import Derived.Deep.RegionHeld3
import Derived.Deep.DrawnRows
import Derived.RowKit3
import Derived.Deep.QuietTactic
import Derived.BigQuiet
namespace Go.Proofs.Ybulkrfk
open Go.RowKit
set_option linter.unusedVariables false
attribute [local go_sem ↓] Go.wp_at_zero Go.wp_at_succ

theorem wrapEq (x : Int) : IntKind.i64.wrap x = wrap64 x := Go.IntWalk.i64_left x
def cutMs (x : Int) : Int := wrap64 (x - x.tmod 1000000)
def bef (x y : Int) : Int := wrap64 (cutMs x + y)

theorem trunc_any (x : Int) (h1 : -9223372036854775808 ≤ x) (h2 : x ≤ 9223372036854775807) (w : World) :
    Calls Yba.prog 11 #[.int .i64 x, .int .i64 1000000] w fun e w' => e = .returned (.int .i64 (cutMs x)) ∧ w' = w := by
  go_enter Yba.func11, Yba.ntmps11
  go_wp2
  go_ret
  exact ⟨rfl, rfl⟩
theorem expect_any (x y : Int) (h1 : -9223372036854775808 ≤ x) (h2 : x ≤ 9223372036854775807) (w : World) :
    Calls Yba.prog 8 #[.int .i64 x, .int .i64 y] w fun e w' => e = .returned (.int .i64 (bef x y)) ∧ w' = w := by
  go_enter Yba.func8, Yba.ntmps8
  go_wp2
  go_ret
  exact ⟨rfl, rfl⟩

theorem due_any (b : Nat) (x y : Int) (ll la : ByteArray) (old : Value) (h1 : -9223372036854775808 ≤ x) (h2 : x ≤ 9223372036854775807) (w : World)
    (c18 : w.cell? ⟨b, 18, none⟩ = some (.int .i64 x)) (c19 : w.cell? ⟨b, 19, none⟩ = some (.string ll)) (c20 : w.cell? ⟨b, 20, none⟩ = some old) (f20 : w.frozen? ⟨b, 20, none⟩ = false) :
    Calls Yba.prog 7 #[.pointer (some ⟨b, 0, none⟩), .string la, .int .i64 y] w fun e w' => e = .returned (.tuple #[]) ∧
      w' = ((w.setCell ⟨b, 20, none⟩ (.pointer (some ⟨w.heap.size, 0, none⟩))).alloc (.cells #[.string la, .string ll, .int .i64 y, .int .i64 (bef x y)] 49)).drew := by
  have hb : b < w.heap.size := World.block_lt_of_cell? w ⟨b, 18, none⟩ c18
  go_enter Yba.func7, Yba.ntmps7
  go_wp2
  go_region_held3 (fun w' => w'.cell? ⟨b, 18, none⟩ = some (.int .i64 x) ∧ w'.cell? ⟨b, 19, none⟩ = some (.string ll) ) (simp [go_sem, hb, c18, c19])
    (first | (go_at_call 11; refine (trunc_any x h1 h2 _).mono ?_; rintro e w' ⟨rfl, rfl⟩))
  go_end0
  exact ⟨rfl, by rw [wrapEq]; rfl⟩

theorem raw_any (x y : Int) (la : ByteArray) (h1 : -9223372036854775808 ≤ x) (h2 : x ≤ 9223372036854775807) (w : World) :
    Calls Yba.prog 4 #[.int .i64 x, .int .i64 y, .string la] w fun e w' => e = .returned (.bool true) ∧ Grown w w' := by
  go_enter Yba.func4, Yba.ntmps4
  go_wp2_with (go_at_call 7; refine (due_any _ x y ⟨#[120]⟩ la (.pointer none) h1 h2 _ (by simp [go_sem]) (by simp [go_sem]) (by simp [go_sem]) (by simp [go_sem])).mono ?_; rintro e w' ⟨rfl, rfl⟩)
  go_region_held3 (fun w' => w'.cell? ⟨w.heap.size, 20, none⟩ = some (.pointer (some ⟨w.heap.size + 1, 0, none⟩)) ∧ w'.cell? ⟨w.heap.size + 1, 0, none⟩ = some (.string la) ∧ w'.cell? ⟨w.heap.size + 1, 1, none⟩ = some (.string ⟨#[120]⟩) ∧ w'.cell? ⟨w.heap.size + 1, 3, none⟩ = some (.int .i64 (bef x y))) (simp [go_sem])
    (first | (go_at_call 8; refine (expect_any x y h1 h2 _).mono ?_; rintro e w' ⟨rfl, rfl⟩))
  go_wp2
  go_ret
  exact ⟨rfl, by repeat (first | exact Grown.refl _ | apply Grown.drew | apply Grown.alloc)⟩
end Go.Proofs.Ybulkrfk
