import Derived.Test.YbulkricRows
import Derived.WalkKit
import Derived.WalkSpells
import Derived.Laws.IdiomStrings
import Derived.Laws.Rows
import Derived.Below
import Derived.Deep.RegionHeld3
import Derived.Deep.DrawnRows
namespace Go.Proofs.Ybulkric
open Go.RowKit
set_option linter.unusedVariables false
attribute [local go_sem ↓] Go.wp_at_zero Go.wp_at_succ

theorem bhid {p : Prop} (h : p) : Hid p := h

theorem secret_empty (k s : ByteArray) (hs : s.size = 0) (w : World) :
    Calls Yba.prog 7 #[.agg #[.string k, .string s]] w fun e w' => (∃ p, e = .returned (.tuple #[.slice none 0 0, .iface 44 p])) ∧ Below w.heap.size w w' := by
  obtain rfl : s = ⟨#[]⟩ := by
    obtain ⟨⟨l⟩⟩ := s
    cases l with
    | nil => rfl
    | cons a l => simp [ByteArray.size] at hs
  go_enter Yba.func7, Yba.ntmps7
  go_wp2
  go_ret2
  exact ⟨⟨_, rfl⟩, ((Below.refl _ _).alloc (Nat.le_refl _) _).alloc (by simp) _⟩

theorem bytesRow_get (s : ByteArray) (cap j : Nat) (hj : j < s.size) : (bytesRow s cap)[j]? = some (.int .u8 (s[j].toNat : Int)) := by
  unfold bytesRow
  rw [Array.getElem?_append_left (by simpa using hj)]
  rw [Array.getElem?_map, show s.data[j]? = some s[j] from Array.getElem?_eq_getElem hj]
  rfl

theorem secret_some (k s : ByteArray) (hs : s.toList.isEmpty = false) (w : World) :
    Calls Yba.prog 7 #[.agg #[.string k, .string s]] w fun e w' => (∃ cap, e = .returned (.tuple #[.slice (some ⟨w.heap.size + 1, 0, none⟩) s.size cap, .nilIface])) ∧ Below w.heap.size w w' ∧
      ∀ j (hj : j < s.size), w'.cell? ⟨w.heap.size + 1, j, none⟩ = some (.int .u8 (s[j].toNat : Int)) := by
  have hcv := fun w => run_bytes_of_string (P := Yba.prog) w 9 22 5 s Yba.underlying9 Yba.underlying22 Yba.underlying5
  go_enter Yba.func7, Yba.ntmps7
  go_wp2
  go_ret2
  refine ⟨⟨_, rfl⟩, (((Below.refl _ _).alloc (Nat.le_refl _) _).alloc (by simp) _).drew, fun j hj => ?_⟩
  have e := heap_alloc_new (w.alloc (.cells #[.string k, .string s] 28)) (.cells (bytesRow s (grownCap (w.alloc (.cells #[.string k, .string s] 28)) s.size 0 5)) 5
          ((bytesRow s (grownCap (w.alloc (.cells #[.string k, .string s] 28)) s.size 0 5)).size, (bytesRow s (grownCap (w.alloc (.cells #[.string k, .string s] 28)) s.size 0 5)).size + 1))
  rw [show (w.alloc (.cells #[.string k, .string s] 28)).heap.size = w.heap.size + 1 by simp] at e
  rw [World.cell?_drew, cell_of_row _ _ j _ _ _ e, bytesRow_get s _ j hj]

theorem law_big (k s : ByteArray) (hs : 1048576 < s.size) (hm : s.size ≤ maxLen) (w : World) :
    Calls Yba.prog 3 #[.string k, .string s] w fun e w' => e = .returned (.bool true) ∧ Below w.heap.size w w' := by
  unfold maxLen at hm
  go_enter Yba.func3, Yba.ntmps3
  go_wp2
  go_ret
  exact ⟨rfl, Below.refl _ _⟩
theorem law_empty (k s : ByteArray) (hs : s.size = 0) (w : World) :
    Calls Yba.prog 3 #[.string k, .string s] w fun e w' => e = .returned (.bool true) ∧ Below w.heap.size w w' := by
  have H := bhid (fun w => secret_empty k s hs w)
  obtain rfl : s = ⟨#[]⟩ := by
    obtain ⟨⟨l⟩⟩ := s
    cases l with
    | nil => rfl
    | cons a l => simp [ByteArray.size] at hs
  clear hs
  have hq := fun w => Lib.run_eql_slice_nil (P := Yba.prog) w 22 5 none 0 0 0 0 Yba.underlying22
  go_enter Yba.func3, Yba.ntmps3
  go_wp2_with (go_at_call 7; refine (H.out _).mono ?_; rintro e w' ⟨⟨p, rfl⟩, hb⟩)
  go_ret
  exact ⟨rfl, hb⟩
theorem law_some (k s : ByteArray) (h0 : s.toList.isEmpty = false) (hs : s.size ≤ 1048576) (w : World) :
    Calls Yba.prog 3 #[.string k, .string s] w fun e w' => e = .returned (.bool true) ∧ Below w.heap.size w w' := by
  have H := bhid (fun w => secret_some k s h0 w)
  go_enter Yba.func3, Yba.ntmps3
  go_wp2_with (go_at_call 7; refine (H.out _).mono ?_; rintro e w1 ⟨⟨cap, rfl⟩, hb, hc⟩)
  have Hb := bhid hb
  have Hc := bhid hc
  clear hb hc H
  go_loopw [7] (fun i wr => ∃ n : Nat, n ≤ s.size ∧ i = .int .i64 n ∧ wr.heap = w1.heap ∧ Below w.heap.size w wr) (fun i _ => s.size - (intOf i).toNat)
  case atStart => exact ⟨0, Nat.zero_le _, rfl, rfl, Hb.out⟩
  case round =>
    obtain ⟨n, hn, rfl, hh, hbl⟩ := hrel
    have Hh := bhid hh
    have Hbl := bhid hbl
    by_cases hlt : n < s.size
    · have cn : wr.cell? ⟨w.heap.size + 1, n, none⟩ = some (.int .u8 (s[n].toNat : Int)) := by
        have := Hc.out n hlt
        rwa [show wr.cell? ⟨w.heap.size + 1, n, none⟩ = w1.cell? ⟨w.heap.size + 1, n, none⟩ by simp [World.cell?, hh]]
      have i0 : (0 : Int) ≤ (n : Int) := by omega
      have i1 : (n : Int) < (s.size : Int) := by omega
      clear hh hbl
      go_wp2
      go_region_held3 (fun w' => w'.cell? ⟨w.heap.size + 1, n, none⟩ = some (.int .u8 (s[n].toNat : Int))) (simp [cn]) (fail)
      go_wp2
      go_roundw
      case rel => exact ⟨n + 1, by omega, by go_num, Hh.out, Hbl.out.drew⟩
      case measure => simp [intOf]; omega
    · clear hh hbl
      go_wp2
      go_ret
      exact ⟨rfl, Hbl.out⟩
end Go.Proofs.Ybulkric
