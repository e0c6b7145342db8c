import Derived.Test.YbulkricRows
import Derived.Test.YbulkricBits
import Derived.WalkKit
import Derived.WalkSpells
import Derived.RowKit3
import Derived.Laws.Pointers
import Derived.Deep.RegionWith
namespace Go.Proofs.Ybulkric
open Go.RowKit
set_option linter.unusedVariables false

theorem hid {p : Prop} (h : p) : Hid p := h
/-- A time without a monotonic part: seconds s, nanoseconds n. -/
abbrev T (s n : Int) : Value := .agg #[.int .u64 n, .int .i64 s, .pointer none]

theorem nsec_any (b : Nat) (n : Int) (h0 : 0 ≤ n) (h1 : n < 1000000000) (w : World) (c0 : w.cell? ⟨b, 0, none⟩ = some (.int .u64 n)) :
    Calls Yba.prog 15 #[.pointer (some ⟨b, 0, none⟩)] w fun e w' => e = .returned (.int .i32 n) ∧ w' = w := by
  have m1 := and_low n h0 h1
  go_enter Yba.func15, Yba.ntmps15
  go_wp2
  go_ret
  exact ⟨rfl, rfl⟩
theorem sec_any (b : Nat) (s n : Int) (h0 : 0 ≤ n) (h1 : n < 1000000000) (w : World) (c0 : w.cell? ⟨b, 0, none⟩ = some (.int .u64 n)) (c1 : w.cell? ⟨b, 1, none⟩ = some (.int .i64 s)) :
    Calls Yba.prog 19 #[.pointer (some ⟨b, 0, none⟩)] w fun e w' => e = .returned (.int .i64 s) ∧ w' = w := by
  have m2 := and_top n h0 (by omega)
  go_enter Yba.func19, Yba.ntmps19
  go_wp2
  go_ret
  exact ⟨rfl, rfl⟩
theorem addSec_any (b : Nat) (n d : Int) (h0 : 0 ≤ n) (h1 : n < 1000000000) (d0 : -10000000000 ≤ d) (d1 : d ≤ 10000000000) (w : World) (c0 : w.cell? ⟨b, 0, none⟩ = some (.int .u64 n)) (c1 : w.cell? ⟨b, 1, none⟩ = some (.int .i64 0)) (f1 : w.frozen? ⟨b, 1, none⟩ = false) :
    Calls Yba.prog 16 #[.pointer (some ⟨b, 0, none⟩), .int .i64 d] w fun e w' => e = .returned (.tuple #[]) ∧ w' = w.setCell ⟨b, 1, none⟩ (.int .i64 d) := by
  have m2 := and_top n h0 (by omega)
  by_cases hd : 0 < d
  · go_enter Yba.func16, Yba.ntmps16
    go_wp2
    go_end0
    exact ⟨rfl, rfl⟩
  · go_enter Yba.func16, Yba.ntmps16
    go_wp2
    go_end0
    exact ⟨rfl, rfl⟩

def fl (d : Int) : Int := d / 1000000000
def fm (d : Int) : Int := d % 1000000000

theorem tdm (d : Int) : (0 ≤ d.tmod 1000000000 ∧ d.tdiv 1000000000 = fl d ∧ d.tmod 1000000000 = fm d) ∨ (d.tmod 1000000000 < 0 ∧ d.tdiv 1000000000 = fl d + 1 ∧ d.tmod 1000000000 = fm d - 1000000000) := by
  unfold fl fm
  have h1 := Int.mul_tdiv_add_tmod d 1000000000
  have h2 := Int.mul_ediv_add_emod d 1000000000
  have h3 := Int.emod_nonneg d (show (1000000000 : Int) ≠ 0 by decide)
  have h4 := Int.emod_lt_of_pos d (show (0 : Int) < 1000000000 by decide)
  have h5 : d.tmod 1000000000 < 1000000000 := Int.tmod_lt_of_pos d (by decide)
  have h6 : -1000000000 < d.tmod 1000000000 := Int.lt_tmod_of_pos d (by decide)
  by_cases h : 0 ≤ d.tmod 1000000000
  · left; omega
  · right; omega
theorem fm_bd (d : Int) : 0 ≤ fm d ∧ fm d < 1000000000 := by unfold fm; omega
theorem fl_bd (d : Int) (h0 : -9223372036854775808 ≤ d) (h1 : d ≤ 9223372036854775807) : -9223372037 ≤ fl d ∧ fl d ≤ 9223372036 := by unfold fl; omega

theorem add_any (d : Int) (h0 : -9223372036854775808 ≤ d) (h1 : d ≤ 9223372036854775807) (w : World) :
    Calls Yba.prog 8 #[T 0 0, .int .i64 d] w fun e w' => e = .returned (T (fl d) (fm d)) ∧ ∃ c1 c2 : Array Value, w' = (w.alloc (.cells c1 33)).alloc (.cells c2 33) := by
  obtain ⟨a0, a1⟩ := fm_bd d
  obtain ⟨b0, b1⟩ := fl_bd d h0 h1
  have m1 := not_zero
  have m2 := or_zero (fm d) a0 a1
  have m3 := and_top (fm d) a0 (by omega)
  rcases tdm d with ⟨hr, eq, er⟩ | ⟨hr, eq, er⟩
  · rw [er] at hr
    go_enter Yba.func8, Yba.ntmps8
    go_wp2_with (first
      | (go_at_call 15; refine (nsec_any _ 0 (by decide) (by decide) _ (by simp [go_sem])).mono ?_; rintro e w' ⟨rfl, rfl⟩)
      | (go_at_call 16; refine (addSec_any _ (fm d) (fl d) a0 a1 (by omega) (by omega) _ (by simp [go_sem]) (by simp [go_sem]) (by simp [go_sem])).mono ?_; rintro e w' ⟨rfl, rfl⟩))
    exact bodyPost_ret (v := T (fl d) (fm d)) (by simp [results, Yba.results8, go_sem]) rfl ⟨rfl, _, _, rfl⟩
  · have hr' : fm d - 1000000000 < 0 := by omega
    clear hr
    go_enter Yba.func8, Yba.ntmps8
    go_wp2_with (first
      | (go_at_call 15; refine (nsec_any _ 0 (by decide) (by decide) _ (by simp [go_sem])).mono ?_; rintro e w' ⟨rfl, rfl⟩)
      | (go_at_call 16; refine (addSec_any _ (fm d) (fl d) a0 a1 (by omega) (by omega) _ (by simp [go_sem]) (by simp [go_sem]) (by simp [go_sem])).mono ?_; rintro e w' ⟨rfl, rfl⟩))
    exact bodyPost_ret (v := T (fl d) (fm d)) (by simp [results, Yba.results8, go_sem]) rfl ⟨rfl, _, _, rfl⟩

theorem ret_bool {a b : Bool} (h : a = b) : Ending.returned (.bool a) = .returned (.bool b) := by rw [h]
def aft (s1 n1 s2 n2 : Int) : Bool := decide (s2 < s1) || (decide (s1 = s2) && decide (n2 < n1))
def eqt (s1 n1 s2 n2 : Int) : Bool := decide (s1 = s2) && decide (n1 = n2)

theorem after_any (s1 n1 s2 n2 : Int) (h0 : 0 ≤ n1) (h1 : n1 < 1000000000) (g0 : 0 ≤ n2) (g1 : n2 < 1000000000) (w : World) :
    Calls Yba.prog 18 #[T s1 n1, T s2 n2] w fun e w' => e = .returned (.bool (aft s1 n1 s2 n2)) ∧ ∃ c1 c2 : Array Value, w' = (w.alloc (.cells c1 33)).alloc (.cells c2 33) := by
  have m3 := and_both n1 n2 h0 h1 g0 g1
  by_cases q1 : s2 < s1
  · have Q : Hid (aft s1 n1 s2 n2 = true) := by simp [Hid, aft, q1]
    go_enter Yba.func18, Yba.ntmps18
    go_wp2_with (first
      | (go_at_call_of 19 (Value.pointer (some ⟨w.heap.size, 0, none⟩)); refine (sec_any _ s1 n1 h0 h1 _ (by simp [go_sem]) (by simp [go_sem])).mono ?_; rintro e w' ⟨rfl, rfl⟩)
      | (go_at_call 19; refine (sec_any _ s2 n2 g0 g1 _ (by simp [go_sem]) (by simp [go_sem])).mono ?_; rintro e w' ⟨rfl, rfl⟩)
      | (go_at_call_of 15 (Value.pointer (some ⟨w.heap.size, 0, none⟩)); refine (nsec_any _ n1 h0 h1 _ (by simp [go_sem])).mono ?_; rintro e w' ⟨rfl, rfl⟩)
      | (go_at_call 15; refine (nsec_any _ n2 g0 g1 _ (by simp [go_sem])).mono ?_; rintro e w' ⟨rfl, rfl⟩))
    all_goals (go_ret; exact ⟨ret_bool (by refine Eq.trans ?_ Q.out.symm; first | rfl | (simp; omega)), _, _, rfl⟩)
  by_cases q2 : s1 = s2
  · subst q2
    by_cases q3 : n2 < n1
    · have Q : Hid (aft s1 n1 s1 n2 = true) := by simp [Hid, aft, q3]
      go_enter Yba.func18, Yba.ntmps18
      go_wp2_with (first
      | (go_at_call_of 19 (Value.pointer (some ⟨w.heap.size, 0, none⟩)); refine (sec_any _ s1 n1 h0 h1 _ (by simp [go_sem]) (by simp [go_sem])).mono ?_; rintro e w' ⟨rfl, rfl⟩)
      | (go_at_call 19; refine (sec_any _ s1 n2 g0 g1 _ (by simp [go_sem]) (by simp [go_sem])).mono ?_; rintro e w' ⟨rfl, rfl⟩)
      | (go_at_call_of 15 (Value.pointer (some ⟨w.heap.size, 0, none⟩)); refine (nsec_any _ n1 h0 h1 _ (by simp [go_sem])).mono ?_; rintro e w' ⟨rfl, rfl⟩)
      | (go_at_call 15; refine (nsec_any _ n2 g0 g1 _ (by simp [go_sem])).mono ?_; rintro e w' ⟨rfl, rfl⟩))
      all_goals (go_ret; exact ⟨ret_bool (by refine Eq.trans ?_ Q.out.symm; first | rfl | (simp; omega)), _, _, rfl⟩)
    · have Q : Hid (aft s1 n1 s1 n2 = false) := by simp [Hid, aft, q3]
      go_enter Yba.func18, Yba.ntmps18
      go_wp2_with (first
      | (go_at_call_of 19 (Value.pointer (some ⟨w.heap.size, 0, none⟩)); refine (sec_any _ s1 n1 h0 h1 _ (by simp [go_sem]) (by simp [go_sem])).mono ?_; rintro e w' ⟨rfl, rfl⟩)
      | (go_at_call 19; refine (sec_any _ s1 n2 g0 g1 _ (by simp [go_sem]) (by simp [go_sem])).mono ?_; rintro e w' ⟨rfl, rfl⟩)
      | (go_at_call_of 15 (Value.pointer (some ⟨w.heap.size, 0, none⟩)); refine (nsec_any _ n1 h0 h1 _ (by simp [go_sem])).mono ?_; rintro e w' ⟨rfl, rfl⟩)
      | (go_at_call 15; refine (nsec_any _ n2 g0 g1 _ (by simp [go_sem])).mono ?_; rintro e w' ⟨rfl, rfl⟩))
      all_goals (go_ret; exact ⟨ret_bool (by refine Eq.trans ?_ Q.out.symm; first | rfl | (simp; omega)), _, _, rfl⟩)
  · have q4 : s1 < s2 := by omega
    have Q : Hid (aft s1 n1 s2 n2 = false) := by simp [Hid, aft, q1, q2]
    clear q1 q2
    go_enter Yba.func18, Yba.ntmps18
    go_wp2_with (first
      | (go_at_call_of 19 (Value.pointer (some ⟨w.heap.size, 0, none⟩)); refine (sec_any _ s1 n1 h0 h1 _ (by simp [go_sem]) (by simp [go_sem])).mono ?_; rintro e w' ⟨rfl, rfl⟩)
      | (go_at_call 19; refine (sec_any _ s2 n2 g0 g1 _ (by simp [go_sem]) (by simp [go_sem])).mono ?_; rintro e w' ⟨rfl, rfl⟩)
      | (go_at_call_of 15 (Value.pointer (some ⟨w.heap.size, 0, none⟩)); refine (nsec_any _ n1 h0 h1 _ (by simp [go_sem])).mono ?_; rintro e w' ⟨rfl, rfl⟩)
      | (go_at_call 15; refine (nsec_any _ n2 g0 g1 _ (by simp [go_sem])).mono ?_; rintro e w' ⟨rfl, rfl⟩))
    all_goals (go_ret; exact ⟨ret_bool (by refine Eq.trans ?_ Q.out.symm; first | rfl | (simp; omega)), _, _, rfl⟩)

theorem before_any (s1 n1 s2 n2 : Int) (h0 : 0 ≤ n1) (h1 : n1 < 1000000000) (g0 : 0 ≤ n2) (g1 : n2 < 1000000000) (w : World) :
    Calls Yba.prog 12 #[T s1 n1, T s2 n2] w fun e w' => e = .returned (.bool (aft s2 n2 s1 n1)) ∧ ∃ c1 c2 : Array Value, w' = (w.alloc (.cells c1 33)).alloc (.cells c2 33) := by
  have m3 := and_both n1 n2 h0 h1 g0 g1
  by_cases q1 : s1 < s2
  · have Q : Hid (aft s2 n2 s1 n1 = true) := by simp [Hid, aft, q1]
    go_enter Yba.func12, Yba.ntmps12
    go_wp2_with (first
      | (go_at_call_of 19 (Value.pointer (some ⟨w.heap.size, 0, none⟩)); refine (sec_any _ s1 n1 h0 h1 _ (by simp [go_sem]) (by simp [go_sem])).mono ?_; rintro e w' ⟨rfl, rfl⟩)
      | (go_at_call 19; refine (sec_any _ s2 n2 g0 g1 _ (by simp [go_sem]) (by simp [go_sem])).mono ?_; rintro e w' ⟨rfl, rfl⟩)
      | (go_at_call_of 15 (Value.pointer (some ⟨w.heap.size, 0, none⟩)); refine (nsec_any _ n1 h0 h1 _ (by simp [go_sem])).mono ?_; rintro e w' ⟨rfl, rfl⟩)
      | (go_at_call 15; refine (nsec_any _ n2 g0 g1 _ (by simp [go_sem])).mono ?_; rintro e w' ⟨rfl, rfl⟩))
    all_goals (go_ret; exact ⟨ret_bool (by refine Eq.trans ?_ Q.out.symm; first | rfl | (simp; omega)), _, _, rfl⟩)
  by_cases q2 : s1 = s2
  · subst q2
    by_cases q3 : n1 < n2
    · have Q : Hid (aft s1 n2 s1 n1 = true) := by simp [Hid, aft, q3]
      go_enter Yba.func12, Yba.ntmps12
      go_wp2_with (first
      | (go_at_call_of 19 (Value.pointer (some ⟨w.heap.size, 0, none⟩)); refine (sec_any _ s1 n1 h0 h1 _ (by simp [go_sem]) (by simp [go_sem])).mono ?_; rintro e w' ⟨rfl, rfl⟩)
      | (go_at_call 19; refine (sec_any _ s1 n2 g0 g1 _ (by simp [go_sem]) (by simp [go_sem])).mono ?_; rintro e w' ⟨rfl, rfl⟩)
      | (go_at_call_of 15 (Value.pointer (some ⟨w.heap.size, 0, none⟩)); refine (nsec_any _ n1 h0 h1 _ (by simp [go_sem])).mono ?_; rintro e w' ⟨rfl, rfl⟩)
      | (go_at_call 15; refine (nsec_any _ n2 g0 g1 _ (by simp [go_sem])).mono ?_; rintro e w' ⟨rfl, rfl⟩))
      all_goals (go_ret; exact ⟨ret_bool (by refine Eq.trans ?_ Q.out.symm; first | rfl | (simp; omega)), _, _, rfl⟩)
    · have Q : Hid (aft s1 n2 s1 n1 = false) := by simp [Hid, aft, q3]
      go_enter Yba.func12, Yba.ntmps12
      go_wp2_with (first
      | (go_at_call_of 19 (Value.pointer (some ⟨w.heap.size, 0, none⟩)); refine (sec_any _ s1 n1 h0 h1 _ (by simp [go_sem]) (by simp [go_sem])).mono ?_; rintro e w' ⟨rfl, rfl⟩)
      | (go_at_call 19; refine (sec_any _ s1 n2 g0 g1 _ (by simp [go_sem]) (by simp [go_sem])).mono ?_; rintro e w' ⟨rfl, rfl⟩)
      | (go_at_call_of 15 (Value.pointer (some ⟨w.heap.size, 0, none⟩)); refine (nsec_any _ n1 h0 h1 _ (by simp [go_sem])).mono ?_; rintro e w' ⟨rfl, rfl⟩)
      | (go_at_call 15; refine (nsec_any _ n2 g0 g1 _ (by simp [go_sem])).mono ?_; rintro e w' ⟨rfl, rfl⟩))
      all_goals (go_ret; exact ⟨ret_bool (by refine Eq.trans ?_ Q.out.symm; first | rfl | (simp; omega)), _, _, rfl⟩)
  · have q4 : s2 < s1 := by omega
    have Q : Hid (aft s2 n2 s1 n1 = false) := by simp [Hid, aft, q1, Ne.symm q2]
    clear q1 q2
    go_enter Yba.func12, Yba.ntmps12
    go_wp2_with (first
      | (go_at_call_of 19 (Value.pointer (some ⟨w.heap.size, 0, none⟩)); refine (sec_any _ s1 n1 h0 h1 _ (by simp [go_sem]) (by simp [go_sem])).mono ?_; rintro e w' ⟨rfl, rfl⟩)
      | (go_at_call 19; refine (sec_any _ s2 n2 g0 g1 _ (by simp [go_sem]) (by simp [go_sem])).mono ?_; rintro e w' ⟨rfl, rfl⟩)
      | (go_at_call_of 15 (Value.pointer (some ⟨w.heap.size, 0, none⟩)); refine (nsec_any _ n1 h0 h1 _ (by simp [go_sem])).mono ?_; rintro e w' ⟨rfl, rfl⟩)
      | (go_at_call 15; refine (nsec_any _ n2 g0 g1 _ (by simp [go_sem])).mono ?_; rintro e w' ⟨rfl, rfl⟩))
    all_goals (go_ret; exact ⟨ret_bool (by refine Eq.trans ?_ Q.out.symm; first | rfl | (simp; omega)), _, _, rfl⟩)

theorem equal_any (s1 n1 s2 n2 : Int) (h0 : 0 ≤ n1) (h1 : n1 < 1000000000) (g0 : 0 ≤ n2) (g1 : n2 < 1000000000) (w : World) :
    Calls Yba.prog 10 #[T s1 n1, T s2 n2] w fun e w' => e = .returned (.bool (eqt s1 n1 s2 n2)) ∧ ∃ c1 c2 : Array Value, w' = (w.alloc (.cells c1 33)).alloc (.cells c2 33) := by
  have m3 := and_both n1 n2 h0 h1 g0 g1
  by_cases q1 : s1 = s2
  · subst q1
    have Q : Hid (eqt s1 n1 s1 n2 = decide (n1 = n2)) := by simp [Hid, eqt]
    go_enter Yba.func10, Yba.ntmps10
    go_wp2_with (first
      | (go_at_call_of 19 (Value.pointer (some ⟨w.heap.size, 0, none⟩)); refine (sec_any _ s1 n1 h0 h1 _ (by simp [go_sem]) (by simp [go_sem])).mono ?_; rintro e w' ⟨rfl, rfl⟩)
      | (go_at_call 19; refine (sec_any _ s1 n2 g0 g1 _ (by simp [go_sem]) (by simp [go_sem])).mono ?_; rintro e w' ⟨rfl, rfl⟩)
      | (go_at_call_of 15 (Value.pointer (some ⟨w.heap.size, 0, none⟩)); refine (nsec_any _ n1 h0 h1 _ (by simp [go_sem])).mono ?_; rintro e w' ⟨rfl, rfl⟩)
      | (go_at_call 15; refine (nsec_any _ n2 g0 g1 _ (by simp [go_sem])).mono ?_; rintro e w' ⟨rfl, rfl⟩))
    all_goals (go_ret; exact ⟨ret_bool (by refine Eq.trans ?_ Q.out.symm; first | rfl | (simp; done) | (rw [Bool.eq_iff_iff]; simp; done)), _, _, rfl⟩)
  · have Q : Hid (eqt s1 n1 s2 n2 = false) := by simp [Hid, eqt, q1]
    have q2 : (s1 == s2) = false := by simpa using q1
    clear q1
    go_enter Yba.func10, Yba.ntmps10
    go_wp2_with (first
      | (go_at_call_of 19 (Value.pointer (some ⟨w.heap.size, 0, none⟩)); refine (sec_any _ s1 n1 h0 h1 _ (by simp [go_sem]) (by simp [go_sem])).mono ?_; rintro e w' ⟨rfl, rfl⟩)
      | (go_at_call 19; refine (sec_any _ s2 n2 g0 g1 _ (by simp [go_sem]) (by simp [go_sem])).mono ?_; rintro e w' ⟨rfl, rfl⟩)
      | (go_at_call_of 15 (Value.pointer (some ⟨w.heap.size, 0, none⟩)); refine (nsec_any _ n1 h0 h1 _ (by simp [go_sem])).mono ?_; rintro e w' ⟨rfl, rfl⟩)
      | (go_at_call 15; refine (nsec_any _ n2 g0 g1 _ (by simp [go_sem])).mono ?_; rintro e w' ⟨rfl, rfl⟩))
    all_goals (go_ret; exact ⟨ret_bool (by refine Eq.trans ?_ Q.out.symm; first | rfl | (simp; omega)), _, _, rfl⟩)

/-- countersign.later: the later of the two, the first where neither is after the other. -/
theorem later_any (s1 n1 s2 n2 : Int) (h0 : 0 ≤ n1) (h1 : n1 < 1000000000) (g0 : 0 ≤ n2) (g1 : n2 < 1000000000) (w : World) (b : Bool) (hb : aft s2 n2 s1 n1 = b) :
    Calls Yba.prog 9 #[T s1 n1, T s2 n2] w fun e w' => e = .returned (if b then T s2 n2 else T s1 n1) ∧ ∃ c1 c2 c3 c4 c5 : Array Value, w' = ((((w.alloc (.cells c1 33)).alloc (.cells c2 33)).alloc (.cells c3 33)).alloc (.cells c4 33)).alloc (.cells c5 33) := by
  have Q := hid hb
  clear hb
  cases b
  · go_enter Yba.func9, Yba.ntmps9
    go_wp2_with (go_at_call 18; refine (after_any s2 n2 s1 n1 g0 g1 h0 h1 _).mono ?_; rw [Q.out]; rintro e w' ⟨rfl, c4, c5, rfl⟩)
    exact bodyPost_ret (v := T s1 n1) (by simp [results, Yba.results9, go_sem]) rfl ⟨rfl, _, _, _, c4, c5, rfl⟩
  · go_enter Yba.func9, Yba.ntmps9
    go_wp2_with (go_at_call 18; refine (after_any s2 n2 s1 n1 g0 g1 h0 h1 _).mono ?_; rw [Q.out]; rintro e w' ⟨rfl, c4, c5, rfl⟩)
    exact bodyPost_ret (v := T s2 n2) (by simp [results, Yba.results9, go_sem]) rfl ⟨rfl, _, _, _, c4, c5, rfl⟩
theorem max_any (x y : Int) (w : World) (b : Bool) (hb : decide (x < y) = b) :
    Calls Yba.prog 11 #[.int .i64 x, .int .i64 y] w fun e w' => e = .returned (.int .i64 (if b then y else x)) ∧ w' = w := by
  cases b
  · have h : ¬ x < y := by simpa using hb
    clear hb
    go_enter Yba.func11, Yba.ntmps11
    go_wp2
    go_ret
    exact ⟨rfl, rfl⟩
  · have h : x < y := by simpa using hb
    clear hb
    go_enter Yba.func11, Yba.ntmps11
    go_wp2
    go_ret
    exact ⟨rfl, rfl⟩
theorem aft_fl (x y : Int) : aft (fl y) (fm y) (fl x) (fm x) = decide (x < y) := by
  unfold aft fl fm
  by_cases h : x < y
  · simp only [h, decide_true]
    by_cases h1 : x / 1000000000 < y / 1000000000
    · simp [h1]
    · have : y / 1000000000 = x / 1000000000 := by omega
      have : x % 1000000000 < y % 1000000000 := by omega
      simp [*]
  · simp only [h, decide_false]
    have h1 : ¬ x / 1000000000 < y / 1000000000 := by omega
    by_cases h2 : y / 1000000000 = x / 1000000000
    · have : ¬ x % 1000000000 < y % 1000000000 := by omega
      simp [*]
    · simp [h1, h2]
end Go.Proofs.Ybulkric
