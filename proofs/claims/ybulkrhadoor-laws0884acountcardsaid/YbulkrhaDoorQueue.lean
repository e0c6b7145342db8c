import Derived.Test.YbulkrhaDoorRows
import Derived.Test.YbulkrhaDoorLocks
import Derived.Conc.MuLone
import Derived.Maps.OwnSet
import Derived.WalkKit
import Derived.WalkSpells
import Derived.Deep.QuietTactic
import Derived.BigQuiet
import Derived.Laws.Pointers
namespace Go.Proofs.YbulkrhaDoor
open Go.RowKit Go.Maps Go.WideMaps
open Go.MuLone
set_option linter.unusedVariables false

theorem hid {p : Prop} (h : p) : Hid p := h
theorem law9 : Keyed Ybad.prog 9 := string_keyed Ybad.underlying9
theorem zero60 (w : World) : (zeroValue 60).run Ybad.prog w = .ok (.pointer none) w := by kernel_rfl
/-- How a *queue in the store's map reads: as itself. -/
def Rq (v : Value) : Option (DataW Value × List MemPlace) := some (.held v, [])
/-- How a *message in a queue's map reads: all alike. -/
def Rm (v : Value) : Option (DataW Unit × List MemPlace) := some (.nil, [])

theorem usable_del (q : Nat) (E : Value) (w : World) (hG : w.cell? ⟨0, 0, none⟩ = some E) (c4 : w.cell? ⟨q, 4, none⟩ = some (.bool true)) :
    Calls Ybad.prog 10 #[.pointer (some ⟨q, 0, none⟩)] w fun e w' => e = .returned E ∧ w' = w := by
  go_enter Ybad.func10, Ybad.ntmps10
  go_wp2
  go_ret
  exact ⟨rfl, rfl⟩
theorem usable_live (q : Nat) (b : Value) (w : World) (c4 : w.cell? ⟨q, 4, none⟩ = some (.bool false)) (c5 : w.cell? ⟨q, 5, none⟩ = some b) :
    Calls Ybad.prog 10 #[.pointer (some ⟨q, 0, none⟩)] w fun e w' => e = .returned b ∧ w' = w := by
  go_enter Ybad.func10, Ybad.ntmps10
  go_wp2
  go_ret
  exact ⟨rfl, rfl⟩

set_option maxHeartbeats 1600000 in
theorem queue_hit (sb bm n p : Nat) (D : DataW Value) (x : ByteArray) (hx : x.size ≤ maxLen) (w : World) (c0 : w.cell? ⟨sb, 8218, none⟩ = some (.int .i32 0)) (c2 : w.cell? ⟨sb, 8220, none⟩ = some (.map (some bm)))
    (f0 : w.frozen? ⟨sb, 8218, none⟩ = false) (hbs : bm ≠ sb) (hown : w.ownsMap Ybad.prog 9 Rq bm n D) (hat : D.atKey (.string x.data.toList) (.held (.pointer none)) = .held (.pointer (some ⟨p, 0, none⟩))) :
    Calls Ybad.prog 7 #[.pointer (some ⟨sb, 0, none⟩), .string x] w fun e w' => e = .returned (.tuple #[.pointer (some ⟨p, 0, none⟩), .nilIface]) ∧ w' = (w.setCell ⟨sb, 8218, none⟩ (.int .i32 1)).setCell ⟨sb, 8218, none⟩ (.int .i32 0) := by
  have hkey := keyOf_string_mk Ybad.underlying9 hx
  have hown1 := hown.setCell (a := ⟨sb, 8218, none⟩) hbs (.int .i32 1)
  obtain ⟨v, ps, hrun, hv⟩ := hown1.lookup law9 Ybad.underlying30 (zero60 _) (show Rq (.pointer none) = some (.held (.pointer none), []) from rfl) hkey
  rw [hat] at hv
  obtain rfl : v = .pointer (some ⟨p, 0, none⟩) := by
    have := congrArg (fun o => o.map Prod.fst) hv
    simpa [Rq] using this
  have HO := hid hown1
  clear hv hown1 hown hat
  go_enter_defers Ybad.func7, Ybad.ntmps7
  go_wp2_with (go_at_call 8; refine (lock_free Ybad.muLib ⟨sb, 8218, none⟩ _ c0 f0).mono ?_; rintro e w' ⟨rfl, rfl⟩)
  refine leaves_cons (f := 9) (args := #[.pointer (some ⟨sb, 8218, none⟩)]) (by simp) (by simp [go_sem]) ?_
  refine (unlock_deferred Ybad.muLib ⟨sb, 8218, none⟩ .returning _ ?_ ?_).mono ?_
  · exact World.cell?_setCell_same w ⟨sb, 8218, none⟩ (.int .i32 1) c0
  · simp [f0]
  rintro e u' w'' ⟨rfl, rfl, rfl⟩
  exact ⟨_, results_tmp2 rfl _ _ _, rfl, rfl⟩

set_option maxHeartbeats 1600000 in
theorem queue_miss (sb bm n : Nat) (E : Value) (D : DataW Value) (x : ByteArray) (hx : x.size ≤ maxLen) (w : World) (hG : w.cell? ⟨0, 0, none⟩ = some E) (h0 : 0 ≠ sb) (c0 : w.cell? ⟨sb, 8218, none⟩ = some (.int .i32 0)) (c2 : w.cell? ⟨sb, 8220, none⟩ = some (.map (some bm)))
    (f0 : w.frozen? ⟨sb, 8218, none⟩ = false) (hbs : bm ≠ sb) (hown : w.ownsMap Ybad.prog 9 Rq bm n D) (hat : D.atKey (.string x.data.toList) (.held (.pointer none)) = .held (.pointer none)) :
    Calls Ybad.prog 7 #[.pointer (some ⟨sb, 0, none⟩), .string x] w fun e w' => e = .returned (.tuple #[.pointer none, E]) ∧ ∃ m, w' = ((w.setCell ⟨sb, 8218, none⟩ (.int .i32 1)).setCell ⟨sb, 8218, none⟩ (.int .i32 0)).drewN m := by
  have hkey := keyOf_string_mk Ybad.underlying9 hx
  have hown1 := hown.setCell (a := ⟨sb, 8218, none⟩) hbs (.int .i32 1)
  obtain ⟨v, ps, hrun, hv⟩ := hown1.lookup law9 Ybad.underlying30 (zero60 _) (show Rq (.pointer none) = some (.held (.pointer none), []) from rfl) hkey
  rw [hat] at hv
  obtain rfl : v = .pointer none := by
    have := congrArg (fun o => o.map Prod.fst) hv
    simpa [Rq] using this
  have hG1 : (w.setCell ⟨sb, 8218, none⟩ (.int .i32 1)).cell? ⟨0, 0, none⟩ = some E := (World.cell?_setCell_other _ _ _ _ (by simp)).trans hG
  have HO := hid hown1
  clear hv hown1 hown hat
  go_enter_defers Ybad.func7, Ybad.ntmps7
  go_wp2_with (go_at_call 8; refine (lock_free Ybad.muLib ⟨sb, 8218, none⟩ _ c0 f0).mono ?_; rintro e w' ⟨rfl, rfl⟩)
  go_quiet (fail)
  go_wp2
  refine leaves_cons (f := 9) (args := #[.pointer (some ⟨sb, 8218, none⟩)]) (by simp) (by simp [go_sem]) ?_
  refine (unlock_deferred Ybad.muLib ⟨sb, 8218, none⟩ .returning _ ?_ ?_).mono ?_
  · exact World.cell?_setCell_same w ⟨sb, 8218, none⟩ (.int .i32 1) c0
  · simp [f0]
  rintro e u' w'' ⟨rfl, rfl, rfl⟩
  exact ⟨_, results_tmp2 rfl _ _ _, rfl, _, rfl⟩

theorem below_drewN' {B : Nat} {a w : World} (h : Below B a w) (m : Nat) : Below B a (w.drewN m) := ⟨h.os, h.tape, h.output, h.size, h.block⟩

set_option maxHeartbeats 1600000 in
theorem length_miss (B sb bm n : Nat) (te : TypeId) (pe : Value) (D : DataW Value) (x : ByteArray) (hx : x.size ≤ maxLen) (w : World) (hG : w.cell? ⟨0, 0, none⟩ = some (.iface te pe)) (h0 : 0 ≠ sb) (hB : B ≤ sb) (c0 : w.cell? ⟨sb, 8218, none⟩ = some (.int .i32 0)) (c2 : w.cell? ⟨sb, 8220, none⟩ = some (.map (some bm)))
    (f0 : w.frozen? ⟨sb, 8218, none⟩ = false) (hbs : bm ≠ sb) (hown : w.ownsMap Ybad.prog 9 Rq bm n D) (hat : D.atKey (.string x.data.toList) (.held (.pointer none)) = .held (.pointer none)) :
    Calls Ybad.prog 5 #[.pointer (some ⟨sb, 0, none⟩), .string x] w fun e w' => e = .returned (.tuple #[.int .i64 0, .iface te pe]) ∧ Below B w w' := by
  have H := hid (queue_miss sb bm n (.iface te pe) D x hx w hG h0 c0 c2 f0 hbs hown hat)
  clear hown hat
  go_enter_defers Ybad.func5, Ybad.ntmps5
  go_wp2_with (go_at_call 7; refine H.out.mono ?_; rintro e w1 ⟨rfl, m, rfl⟩)
  exact ⟨_, results_tmp2 rfl _ _ _, rfl, below_drewN' (((Below.refl B w).setCell hB _).setCell hB _) m⟩

set_option maxHeartbeats 1600000 in
/-- The queue is there; what 'usable' says of it is an error. -/
theorem length_err (B sb bm n q : Nat) (te : TypeId) (pe : Value) (D : DataW Value) (x : ByteArray) (hx : x.size ≤ maxLen) (w : World) (hB : B ≤ sb) (hBq : B ≤ q) (hqs : q ≠ sb) (c0 : w.cell? ⟨sb, 8218, none⟩ = some (.int .i32 0)) (c2 : w.cell? ⟨sb, 8220, none⟩ = some (.map (some bm)))
    (f0 : w.frozen? ⟨sb, 8218, none⟩ = false) (hbs : bm ≠ sb) (hown : w.ownsMap Ybad.prog 9 Rq bm n D) (hat : D.atKey (.string x.data.toList) (.held (.pointer none)) = .held (.pointer (some ⟨q, 0, none⟩)))
    (q2 : w.cell? ⟨q, 2, none⟩ = some (.int .i32 0)) (g2 : w.frozen? ⟨q, 2, none⟩ = false)
    (hu : ∀ w', (∀ a : Addr, a ≠ ⟨sb, 8218, none⟩ → a ≠ ⟨q, 2, none⟩ → w'.cell? a = w.cell? a) → Calls Ybad.prog 10 #[.pointer (some ⟨q, 0, none⟩)] w' fun e w'' => e = .returned (.iface te pe) ∧ w'' = w') :
    Calls Ybad.prog 5 #[.pointer (some ⟨sb, 0, none⟩), .string x] w fun e w' => e = .returned (.tuple #[.int .i64 0, .iface te pe]) ∧ Below B w w' := by
  have H := hid (queue_hit sb bm n q D x hx w c0 c2 f0 hbs hown hat)
  have HU := hid hu
  have q2' : ((w.setCell ⟨sb, 8218, none⟩ (.int .i32 1)).setCell ⟨sb, 8218, none⟩ (.int .i32 0)).cell? ⟨q, 2, none⟩ = some (.int .i32 0) := by
    rw [World.cell?_setCell_other _ _ _ _ (by simp), World.cell?_setCell_other _ _ _ _ (by simp)]; exact q2
  have g2' : ((w.setCell ⟨sb, 8218, none⟩ (.int .i32 1)).setCell ⟨sb, 8218, none⟩ (.int .i32 0)).frozen? ⟨q, 2, none⟩ = false := by simp [g2]
  clear hown hat hu
  go_enter_defers Ybad.func5, Ybad.ntmps5
  go_wp2_with (first
    | (go_at_call 7; refine H.out.mono ?_; rintro e w1 ⟨rfl, rfl⟩)
    | (go_at_call 8; refine (lock_free Ybad.muLib ⟨q, 2, none⟩ _ q2' g2').mono ?_; rintro e w' ⟨rfl, rfl⟩)
    | (go_at_call 10; refine (HU.out _ ?_).mono ?_; (intro a h1 h2; rw [World.cell?_setCell_other _ _ _ _ (Ne.symm h2), World.cell?_setCell_other _ _ _ _ (Ne.symm h1), World.cell?_setCell_other _ _ _ _ (Ne.symm h1)]); rintro e w' ⟨rfl, rfl⟩))
  refine leaves_cons (f := 9) (args := #[.pointer (some ⟨q, 2, none⟩)]) (by simp) (by simp [go_sem]) ?_
  refine (unlock_deferred Ybad.muLib ⟨q, 2, none⟩ .returning _ ?_ ?_).mono ?_
  · exact World.cell?_setCell_same _ ⟨q, 2, none⟩ (.int .i32 1) q2'
  · simp [g2]
  rintro e u' w'' ⟨rfl, rfl, rfl⟩
  exact ⟨_, results_tmp2 rfl _ _ _, rfl, ((((Below.refl B w).setCell hB _).setCell hB _).setCell hBq _).setCell hBq _⟩
set_option maxHeartbeats 1600000 in
theorem length_ok (B sb bm n q mb nm : Nat) (D : DataW Value) (Dm : DataW Unit) (x : ByteArray) (hx : x.size ≤ maxLen) (w : World) (hB : B ≤ sb) (hBq : B ≤ q) (hqs : q ≠ sb) (c0 : w.cell? ⟨sb, 8218, none⟩ = some (.int .i32 0)) (c2 : w.cell? ⟨sb, 8220, none⟩ = some (.map (some bm)))
    (f0 : w.frozen? ⟨sb, 8218, none⟩ = false) (hbs : bm ≠ sb) (hown : w.ownsMap Ybad.prog 9 Rq bm n D) (hat : D.atKey (.string x.data.toList) (.held (.pointer none)) = .held (.pointer (some ⟨q, 0, none⟩)))
    (q2 : w.cell? ⟨q, 2, none⟩ = some (.int .i32 0)) (g2 : w.frozen? ⟨q, 2, none⟩ = false) (q4 : w.cell? ⟨q, 4, none⟩ = some (.bool false)) (q5 : w.cell? ⟨q, 5, none⟩ = some .nilIface) (q6 : w.cell? ⟨q, 6, none⟩ = some (.map (some mb)))
    (hms : mb ≠ sb) (hmq : mb ≠ q) (hm : w.ownsMap Ybad.prog 9 Rm mb nm Dm) :
    Calls Ybad.prog 5 #[.pointer (some ⟨sb, 0, none⟩), .string x] w fun e w' => e = .returned (.tuple #[.int .i64 (Maps.size Dm), .nilIface]) ∧ Below B w w' := by
  have H := hid (queue_hit sb bm n q D x hx w c0 c2 f0 hbs hown hat)
  have q2' : ((w.setCell ⟨sb, 8218, none⟩ (.int .i32 1)).setCell ⟨sb, 8218, none⟩ (.int .i32 0)).cell? ⟨q, 2, none⟩ = some (.int .i32 0) := by
    rw [World.cell?_setCell_other _ _ _ _ (by simp), World.cell?_setCell_other _ _ _ _ (by simp)]; exact q2
  have g2' : ((w.setCell ⟨sb, 8218, none⟩ (.int .i32 1)).setCell ⟨sb, 8218, none⟩ (.int .i32 0)).frozen? ⟨q, 2, none⟩ = false := by simp [g2]
  have kk : ∀ (j : Nat) (v : Value), j ≠ 2 → w.cell? ⟨q, j, none⟩ = some v → (((w.setCell ⟨sb, 8218, none⟩ (.int .i32 1)).setCell ⟨sb, 8218, none⟩ (.int .i32 0)).setCell ⟨q, 2, none⟩ (.int .i32 1)).cell? ⟨q, j, none⟩ = some v := fun j v hj h => by
    rw [World.cell?_setCell_other _ _ _ _ (by simp <;> omega), World.cell?_setCell_other _ _ _ _ (by simp <;> omega), World.cell?_setCell_other _ _ _ _ (by simp <;> omega)]; exact h
  have k4 := kk 4 _ (by decide) q4
  have k5 := kk 5 _ (by decide) q5
  have k6 := kk 6 _ (by decide) q6
  have hlen := fun ty => (((hm.setCell (a := ⟨sb, 8218, none⟩) hms (.int .i32 1)).setCell (a := ⟨sb, 8218, none⟩) hms (.int .i32 0)).setCell (a := ⟨q, 2, none⟩) hmq (.int .i32 1)).len Ybad.underlying61 ty
  clear hown hat kk hm
  go_enter_defers Ybad.func5, Ybad.ntmps5
  go_wp2_with (first
    | (go_at_call 7; refine H.out.mono ?_; rintro e w1 ⟨rfl, rfl⟩)
    | (go_at_call 8; refine (lock_free Ybad.muLib ⟨q, 2, none⟩ _ q2' g2').mono ?_; rintro e w' ⟨rfl, rfl⟩)
    | (go_at_call 10; refine (usable_live q .nilIface _ k4 k5).mono ?_; rintro e w' ⟨rfl, rfl⟩))
  refine leaves_cons (f := 9) (args := #[.pointer (some ⟨q, 2, none⟩)]) (by simp) (by simp [go_sem]) ?_
  refine (unlock_deferred Ybad.muLib ⟨q, 2, none⟩ .returning _ ?_ ?_).mono ?_
  · exact World.cell?_setCell_same _ ⟨q, 2, none⟩ (.int .i32 1) q2'
  · simp [g2]
  rintro e u' w'' ⟨rfl, rfl, rfl⟩
  exact ⟨_, results_tmp2 rfl _ _ _, rfl, ((((Below.refl B w).setCell hB _).setCell hB _).setCell hBq _).setCell hBq _⟩
end Go.Proofs.YbulkrhaDoor
