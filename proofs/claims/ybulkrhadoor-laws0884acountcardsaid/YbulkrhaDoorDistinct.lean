import Derived.Test.YbulkrhaDoorRows
import Derived.Test.YbulkrhaDoorPlain
import Derived.WalkKit
import Derived.WalkSpells
import Derived.Deep.RegionHeld3
import Derived.Deep.DrawnRows
import Derived.Deep.Draws
namespace Go.Proofs.YbulkrhaDoor
open Go.RowKit
set_option linter.unusedVariables false
attribute [local go_sem ↓] Go.wp_at_zero Go.wp_at_succ

theorem hidd {p : Prop} (h : p) : Hid p := h

theorem toList_ne {s t : ByteArray} (h : s ≠ t) : (s.toList == t.toList) = false := by
  rw [ByteArray.toList_eq, ByteArray.toList_eq]
  obtain ⟨⟨a⟩⟩ := s
  obtain ⟨⟨b⟩⟩ := t
  simpa using h
theorem dc_seen {f : Nat → ByteArray} {k : Nat} (h : seenB f k = true) : dcount f (k + 1) = dcount f k := by simp [dcount, h]
theorem dc_new {f : Nat → ByteArray} {k : Nat} (h : seenB f k = false) : dcount f (k + 1) = dcount f k + 1 := by simp [dcount, h]

theorem distinct_none (a : Option Addr) (cap : Nat) (w : World) :
    Calls Ybad.prog 6 #[.slice a 0 cap] w fun e w' => e = .returned (.int .i64 0) ∧ ∃ m, w' = w.drewN m := by
  go_enter Ybad.func6, Ybad.ntmps6
  go_wp2
  go_loop [3, 4] (fun n i => n = .int .i64 0 ∧ i = .int .i64 0) (fun _ _ => 0)
  case atStart => exact ⟨rfl, rfl⟩
  case round =>
    obtain ⟨rfl, rfl⟩ := hrel
    go_wp2
    go_ret
    exact ⟨rfl, 0, rfl⟩

set_option maxRecDepth 100000 in
set_option maxHeartbeats 1600000 in
theorem distinct_some (b o n cap : Nat) (f : Nat → ByteArray) (w : World) (hn : n ≤ 1000000) (hc : ∀ j, j < n → w.cell? ⟨b, o + j, none⟩ = some (.string (f j))) :
    Calls Ybad.prog 6 #[.slice (some ⟨b, o, none⟩) n cap] w fun e w' => e = .returned (.int .i64 (dcount f n)) ∧ ∃ m, w' = w.drewN m := by
  have HC := hidd hc
  clear hc
  go_enter Ybad.func6, Ybad.ntmps6
  go_wp2
  go_loopw [3, 4] (fun c i wr => ∃ k : Nat, k ≤ n ∧ i = .int .i64 k ∧ c = .int .i64 (dcount f k) ∧ ∃ m, wr = w.drewN m) (fun _ i _ => n - (intOf i).toNat)
  case atStart => exact ⟨0, Nat.zero_le _, rfl, rfl, 0, rfl⟩
  case round =>
    obtain ⟨k, hk, rfl, rfl, m, rfl⟩ := hrel
    have hd := dcount_le f k
    by_cases hlt : k < n
    · go_wp2
      go_loopw [5, 6] (fun sn j wr => ∃ l : Nat, l ≤ k ∧ j = .int .i64 l ∧ sn = .bool false ∧ (∀ q, q < l → f q ≠ f k) ∧ ∃ m, wr = w.drewN m) (fun _ j _ => k - (intOf j).toNat)
      case atStart => exact ⟨0, Nat.zero_le _, rfl, rfl, fun q hq => absurd hq (by omega), m, rfl⟩
      case round =>
        obtain ⟨l, hl, rfl, rfl, hno, m2, rfl⟩ := hrel
        by_cases hlt2 : l < k
        · have cl : w.cell? ⟨b, o + l, none⟩ = some (.string (f l)) := HC.out l (by omega)
          have ck : w.cell? ⟨b, o + k, none⟩ = some (.string (f k)) := HC.out k hlt
          have i0 : (0 : Int) ≤ (l : Int) := by omega
          have i1 : (l : Int) < (n : Int) := by omega
          have i2 : (0 : Int) ≤ (k : Int) := by omega
          have i3 : (k : Int) < (n : Int) := by omega
          have HN := hidd hno
          clear hno
          by_cases he : f l = f k
          · go_wp2
            go_region_held3 (fun w' => w'.cell? ⟨b, o + l, none⟩ = some (.string (f l)) ∧ w'.cell? ⟨b, o + k, none⟩ = some (.string (f k))) (simp [cl, ck]) (fail)
            go_wp2
            exact ⟨⟨k + 1, by omega, by go_num, by rw [dc_seen (seenB_true hlt2 he)], m2 + 1, rfl⟩, by simp [intOf]; omega⟩
          · have hne := toList_ne he
            have HE := hidd he
            clear he
            go_wp2
            go_region_held3 (fun w' => w'.cell? ⟨b, o + l, none⟩ = some (.string (f l)) ∧ w'.cell? ⟨b, o + k, none⟩ = some (.string (f k))) (simp [cl, ck]) (fail)
            go_wp2
            exact ⟨⟨l + 1, by omega, by go_num, rfl, fun q hq => by
              by_cases e : q = l
              · subst e; exact HE.out
              · exact HN.out q (by omega), m2 + 1, rfl⟩, by simp [intOf]; omega⟩
        · have hs : seenB f k = false := seenB_false (fun q hq => hno q (by omega))
          have HN := hidd hs
          clear hno hs
          go_wp2
          exact ⟨⟨k + 1, by omega, by go_num, by rw [dc_new HN.out]; go_num, m2, rfl⟩, by simp [intOf]; omega⟩
    · go_wp2
      go_ret
      obtain rfl : k = n := by omega
      exact ⟨rfl, m, rfl⟩
end Go.Proofs.YbulkrhaDoor
