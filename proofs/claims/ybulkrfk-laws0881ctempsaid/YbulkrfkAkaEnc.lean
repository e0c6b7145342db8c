import Derived.Test.YbulkrfkAkaBase
import Derived.Deep.RegionHeld3
import Derived.Deep.DrawnRows
namespace Go.Proofs.Ybulkrfk
open Go.RowKit
set_option linter.unusedVariables false
attribute [local go_sem ↓] Go.wp_at_zero Go.wp_at_succ

/-- E of the stand-in block. -/
def encB (k x : Nat → Int) (i : Nat) : Int := (x ((i + 1) % 16) + k i) % 256

theorem size5 : (Yba.prog.info? 5).map (·.size) = some 1 := by kernel_rfl
theorem wrap8 (n : Int) : IntKind.u8.wrap n = n % 256 := by kernel_rfl

theorem hid {p : Prop} (h : p) : Hid p := h
theorem frozen_row {w : World} {b : Nat} {C : Array Value} {t : TypeId} (h : w.heap[b]? = some (.cells C t (0, 0))) (o : Nat) : w.frozen? ⟨b, o, none⟩ = false := by
  simp [World.frozen?, h]

theorem setCells_far {g i : Nat} (hne : i ≠ g) : ∀ (vs : List Value) (o : Nat) (w : World), (w.setCells g o vs).heap[i]? = w.heap[i]?
  | [], _, _ => rfl
  | v :: r, o, w => (setCells_far hne r (o + 1) _).trans (heap_setCell_other w ⟨g, o, none⟩ i v hne)
theorem enc_round {wr : World} {T n : Nat} {k x : Nat → Int} (hn : n < 16) (h : wr.heap[T]? = some (.cells (A16 (fun j => if j < n then encB k x j else 0)) 54 (0, 0))) :
    (wr.setCell ⟨T, n, none⟩ (.int .u8 ((x ((n + 1) % 16) + k n) % 256))).drew.heap[T]? = some (.cells (A16 (fun j => if j < n + 1 then encB k x j else 0)) 54 (0, 0)) := by
  have := heap_setCell_same wr T n _ 54 (.int .u8 ((x ((n + 1) % 16) + k n) % 256)) h
  rw [A16_set _ _ n hn] at this
  refine Eq.trans this (congrArg (fun c => some (Obj.cells c 54 (0, 0))) (A16_congr fun i _ => ?_))
  by_cases e : i = n
  · subst e; simp [encB]
  · by_cases e' : i < n
    · simp [e, e', Nat.lt_succ_of_lt e']
    · rw [if_neg e, if_neg e', if_neg (by omega)]
theorem enc_start {w : World} {B : Nat} {k : Nat → Int} {e d : Int} (hB : w.heap[B]? = some (.cells (A18 k e d) 57 (0, 0))) :
    (w.setCell ⟨B, 16, none⟩ (.int .i64 (e + 1))).heap[B]? = some (.cells (A18 k (e + 1) d) 57 (0, 0)) :=
  (heap_setCell_same w B 16 _ 57 (.int .i64 (e + 1)) hB).trans rfl

set_option maxRecDepth 100000 in
theorem enc_any (B X : Nat) (k x : Nat → Int) (e d : Int) (h0 : 0 ≤ e) (h1 : e ≤ 100) (hk : ∀ i, i < 16 → 0 ≤ k i ∧ k i ≤ 255) (hx : ∀ i, i < 16 → 0 ≤ x i ∧ x i ≤ 255) (hBX : B ≠ X) (w : World)
    (hB : w.heap[B]? = some (.cells (A18 k e d) 57 (0, 0))) (hX : w.heap[X]? = some (.cells (A16 x) 54 (0, 0))) :
    Calls Yba.prog 44 #[.pointer (some ⟨B, 0, none⟩), .slice (some ⟨X, 0, none⟩) 16 16, .slice (some ⟨X, 0, none⟩) 16 16] w fun r w' => r = .returned (.tuple #[]) ∧
      w'.heap[B]? = some (.cells (A18 k (e + 1) d) 57 (0, 0)) ∧ w'.heap[X]? = some (.cells (A16 (encB k x)) 54 (0, 0)) ∧ Step (fun b => b = B ∨ b = X) w w' := by
  have c16 : w.cell? ⟨B, 16, none⟩ = some (.int .i64 e) := by rw [cell_of_row w B 16 _ _ _ hB]; rfl
  have f16 : w.frozen? ⟨B, 16, none⟩ = false := frozen_row hB 16
  have HB : Hid (w.heap[B]? = some (.cells (A18 k e d) 57 (0, 0))) := hB
  have HX : Hid (w.heap[X]? = some (.cells (A16 x) 54 (0, 0))) := hX
  have Hk : Hid (∀ i, i < 16 → 0 ≤ k i ∧ k i ≤ 255) := hk
  have Hx : Hid (∀ i, i < 16 → 0 ≤ x i ∧ x i ≤ 255) := hx
  clear hB hX hk hx
  have lB : B < w.heap.size := by have := World.block_lt_of_cell? w _ c16; simpa using this
  have lX : X < w.heap.size := by have := World.block_lt_of_cell? w ⟨X, 0, none⟩ (show w.cell? ⟨X, 0, none⟩ = some _ by rw [cell_of_row w X 0 _ _ _ HX.out]; rfl); simpa using this
  have nX : w.heap.size ≠ X := by omega
  have nB : w.heap.size ≠ B := by omega
  go_enter Yba.func44, Yba.ntmps44
  go_wp2
  go_loopw [7] (fun i wr => ∃ n : Nat, n ≤ 16 ∧ i = .int .i64 n ∧ wr.heap[w.heap.size]? = some (.cells (A16 (fun j => if j < n then encB k x j else 0)) 54 (0, 0)) ∧
      wr.heap[B]? = some (.cells (A18 k (e + 1) d) 57 (0, 0)) ∧ wr.heap[X]? = some (.cells (A16 x) 54 (0, 0)) ∧ Step (fun b => b = B) w wr) (fun i _ => 16 - (intOf i).toNat)
  case atStart =>
    have hsz : (w.setCell ⟨B, 16, none⟩ (.int .i64 (e + 1))).heap.size = w.heap.size := by simp [World.setCell]
    refine ⟨0, by omega, rfl, ?_, ?_, ?_, ?_⟩
    · refine Eq.trans ?_ (heap_alloc_new (w.setCell ⟨B, 16, none⟩ (.int .i64 (e + 1))) (.cells (A16 (fun _ => 0)) 54))
      rw [hsz]; rfl
    · exact (heap_alloc_old _ _ (by omega)).trans (enc_start HB.out)
    · exact (heap_alloc_old _ _ (by omega)).trans ((heap_setCell_other w _ X _ (by simp; omega)).trans HX.out)
    · exact Step.alloc (Step.setCell (S := fun b => b = B) (Step.refl _ w) _ (Or.inl rfl)) _ _
  case round =>
    obtain ⟨n, hn, rfl, hT, hB, hX, hS⟩ := hrel
    have HT := hid hT
    have HB' := hid hB
    have HX' := hid hX
    by_cases hlt : n < 16
    · have cX : wr.cell? ⟨X, (n + 1) % 16, none⟩ = some (.int .u8 (x ((n + 1) % 16))) := by rw [cell_of_row wr X _ _ _ _ hX, A16_get _ _ (by omega)]
      have cB : wr.cell? ⟨B, n, none⟩ = some (.int .u8 (k n)) := by rw [cell_of_row wr B _ _ _ _ hB, A18_get _ _ _ _ (by omega)]
      have cT : wr.cell? ⟨w.heap.size, n, none⟩ = some (.int .u8 0) := by rw [cell_of_row wr _ _ _ _ _ hT, A16_get _ _ (by omega)]; simp
      have fT : wr.frozen? ⟨w.heap.size, n, none⟩ = false := frozen_row hT n
      obtain ⟨b1, b2⟩ := Hk.out n hlt
      obtain ⟨b3, b4⟩ := Hx.out ((n + 1) % 16) (by omega)
      have HS := hid hS
      clear hT hB hX hS
      have j1 : IntKind.i64.wrap ((n : Int) + 1) = (n : Int) + 1 := IntWalk.i64_in _ (by omega)
      have j2 : ((n : Int) + 1).tmod 16 = ((n : Int) + 1) % 16 := Int.tmod_eq_emod_of_nonneg (by omega)
      have j3 : IntKind.i64.wrap (((n : Int) + 1) % 16) = ((n : Int) + 1) % 16 := IntWalk.i64_in _ (by omega)
      have j4 : (((n : Int) + 1) % 16).toNat = (n + 1) % 16 := by omega
      have i0 : (0 : Int) ≤ (n : Int) := by omega
      have i1 : (n : Int) < 16 := by omega
      have i2 : (0 : Int) ≤ ((n : Int) + 1) % 16 := by omega
      have i3 : ((n : Int) + 1) % 16 < 16 := by omega
      go_wp2
      go_region_held3 (fun w' => w'.cell? ⟨X, (n + 1) % 16, none⟩ = some (.int .u8 (x ((n + 1) % 16))) ∧ w'.cell? ⟨B, n, none⟩ = some (.int .u8 (k n))) (simp [World.cell?_setCell_other, cX, cB]) (fail)
      go_wp2
      go_roundw
      case rel =>
        refine ⟨n + 1, by omega, by go_num, enc_round hlt HT.out, ?_, ?_, ?_⟩
        · exact (heap_setCell_other wr _ B _ (by simp; omega)).trans HB'.out
        · exact (heap_setCell_other wr _ X _ (by simp; omega)).trans HX'.out
        · exact (HS.out.setCell _ (Or.inr (Nat.le_refl _))).drew
      case measure => simp [intOf]; omega
    · have eT : A16 (fun j => if j < n then encB k x j else 0) = A16 (encB k x) := A16_congr (fun i hi => if_pos (by omega))
      rw [eT] at hT
      have hr := fun ty => run_copy_cells (P := Yba.prog) wr 67 67 ty 5 X 0 16 16 ⟨w.heap.size, 0, none⟩ 16 16 (A16 (encB k x)).toList Yba.underlying67 size5 rfl
        (fun j v hv => by
          have hj : j < 16 := by have := (List.getElem?_eq_some_iff.1 hv).1; simpa [A16_size] using this
          rw [Addr.add_mid, cell_of_row wr _ _ _ _ _ hT, ← hv]; simp)
        (fun j hj => by
          have hj : j < 16 := by simpa [A16_size] using hj
          rw [cell_of_row wr _ _ _ _ _ hX, A16_get _ _ (by omega)]; rfl) (fun j _ => frozen_row hX _) (A16_one _)
      have HS := hid hS
      clear hT hB hX hS eT HT
      go_wp2
      go_end0
      refine ⟨rfl, ?_, heap_setCells_A16 _ HX'.out, ?_⟩
      · exact (setCells_far hBX _ 0 wr).trans HB'.out
      · exact Step.setCells (S := fun b => b = B ∨ b = X) (w := w) (b := X) (Or.inl (Or.inr rfl)) (A16 (encB k x)).toList 0 wr (HS.out.mono fun b hb => Or.inl hb)
end Go.Proofs.Ybulkrfk
