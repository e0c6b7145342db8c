import Derived.Test.YbulkrfkAkaLaw
namespace Go.Proofs.Ybulkrfk
open Go.RowKit
set_option linter.unusedVariables false
attribute [local go_sem ↓] Go.wp_at_zero Go.wp_at_succ

theorem xorB_bd {f g : Nat → Int} (hf : ∀ i, i < 16 → 0 ≤ f i ∧ f i ≤ 255) (hg : ∀ i, i < 16 → 0 ≤ g i ∧ g i ≤ 255) : ∀ i, i < 16 → 0 ≤ xorB f g i ∧ xorB f g i ≤ 255 := fun i hi => by
  unfold xorB
  obtain ⟨a0, a1⟩ := hf i hi
  obtain ⟨b0, b1⟩ := hg i hi
  have : (f i).toNat ^^^ (g i).toNat < 2 ^ 8 := Nat.xor_lt_two_pow (by omega) (by omega)
  omega

theorem three_old {w : World} {A C D : Obj} {b : Nat} (h : b < w.heap.size) : (((w.alloc A).alloc C).alloc D).drew.heap[b]? = w.heap[b]? := by
  show (((w.alloc A).alloc C).alloc D).heap[b]? = _
  simp only [heap_at, size_at]
  repeat (first | rw [if_pos (by omega)] | rw [if_neg (by omega)])
theorem three_first (w : World) (A C D : Obj) : (((w.alloc A).alloc C).alloc D).drew.heap[w.heap.size]? = some A := by
  show (((w.alloc A).alloc C).alloc D).heap[w.heap.size]? = _
  simp only [heap_at, size_at, if_true]
  repeat (first | rw [if_pos (by omega)] | rw [if_neg (by omega)])
theorem three_second (w : World) (A C D : Obj) : (((w.alloc A).alloc C).alloc D).drew.heap[w.heap.size + 1]? = some C := by
  show (((w.alloc A).alloc C).alloc D).heap[w.heap.size + 1]? = _
  simp only [heap_at, size_at, if_true]
  repeat (first | rw [if_pos (by omega)] | rw [if_neg (by omega)])
theorem three_third (w : World) (A C D : Obj) : (((w.alloc A).alloc C).alloc D).drew.heap[w.heap.size + 1 + 1]? = some D := by
  show (((w.alloc A).alloc C).alloc D).heap[w.heap.size + 1 + 1]? = _
  simp only [heap_at, size_at, if_true]

theorem three_lt {w : World} {A C D : Obj} {b : Nat} (h : b < w.heap.size + 3) : b < (((w.alloc A).alloc C).alloc D).drew.heap.size := by
  show b < (((w.alloc A).alloc C).alloc D).heap.size
  simp only [size_at]; omega

set_option maxRecDepth 100000 in
theorem temp_any (M B : Nat) (k o x : Nat → Int) (e d : Int) (h0 : 0 ≤ e) (h1 : e ≤ 100) (hk : ∀ i, i < 16 → 0 ≤ k i ∧ k i ≤ 255) (ho : ∀ i, i < 16 → 0 ≤ o i ∧ o i ≤ 255) (hx : ∀ i, i < 16 → 0 ≤ x i ∧ x i ≤ 255) (hMB : M ≠ B) (w : World)
    (hM : w.heap[M]? = some (.cells (A17 (.iface 55 (.pointer (some ⟨B, 0, none⟩))) o) 62 (0, 0))) (hB : w.heap[B]? = some (.cells (A18 k e d) 57 (0, 0))) :
    Calls Yba.prog 10 #[.pointer (some ⟨M, 0, none⟩), .agg (A16 x)] w fun r w' => r = .returned (.agg (A16 (encB k (xorB x o)))) ∧
      w'.heap[B]? = some (.cells (A18 k (e + 1) d) 57 (0, 0)) ∧ Step (fun b => b = B) w w' := by
  have lM := lt_of_row hM
  have lB := lt_of_row hB
  have HM := hid hM
  have HB := hid hB
  have Hk := hid hk
  have Hxo := hid (xorB_bd hx ho)
  have hm := fun w => method_enc ⟨B, 0, none⟩ w
  clear hM hB hk hx ho
  go_enter Yba.func10, Yba.ntmps10
  go_wp2
  go_region_held3 (fun _ => True) (trivial)
    (first | (go_at_call 12; refine (xor_three (w.heap.size + 1 + 1) w.heap.size M 1 (fun _ => 0) x o _ (A17 (.iface 55 (.pointer (some ⟨B, 0, none⟩))) o) 62 ?_ ?_ ?_ ?_ ?_ (A17_get _ o)).mono ?_; omega; omega; (exact three_third _ _ _ _); (exact three_first _ _ _ _); (exact (three_old lM).trans HM.out); rintro r w1 ⟨rfl, hT1, hS1⟩))
  have hM1 := (hS1.2.1 M (three_lt (by omega)) (by omega)).trans ((three_old lM).trans HM.out)
  have hB1 := (hS1.2.1 B (three_lt (by omega)) (by omega)).trans ((three_old lB).trans HB.out)
  have hR1 := (hS1.2.1 (w.heap.size + 1) (three_lt (by omega)) (by omega)).trans (three_second w _ _ _)
  have cM1 : w1.cell? ⟨M, 0, none⟩ = some (.iface 55 (.pointer (some ⟨B, 0, none⟩))) := by rw [cell_of_row w1 M 0 _ _ _ hM1]; rfl
  have lM1 := lt_of_row hM1
  have HT1 := hid hT1
  have HM1 := hid hM1
  have HB1 := hid hB1
  have HR1 := hid hR1
  have HS1 := hid hS1
  clear hT1 hM1 hB1 hR1 hS1
  go_wp2
  go_region_held3 (fun w' => w'.cell? ⟨M, 0, none⟩ = some (.iface 55 (.pointer (some ⟨B, 0, none⟩)))) (first | (simp [cM1]; done) | (rw [cell_of_row _ M 0 _ _ _ ((hS2.2.1 M lM1 (by omega)).trans HM1.out)]; rfl))
    (first | (go_at_call 44; refine (enc_any B (w.heap.size + 1 + 1) k (xorB x o) e d h0 h1 Hk.out Hxo.out (by omega) w1.drew ?_ ?_).mono ?_; (exact HB1.out); (exact HT1.out); rintro r w2 ⟨rfl, hB2, hT2, hS2⟩))
  have hR2 := (hS2.2.1 (w.heap.size + 1) (lt_of_row HR1.out) (by omega)).trans HR1.out
  have HT2 := hid hT2
  have HB2 := hid hB2
  have HS2 := hid hS2
  have HR2 := hid hR2
  have HH2 := hid (there54 (f := fun _ => 0) hR2)
  clear hT2 hB2 hS2 hR2
  go_wp2_with (first | (refine wpList_load_row rfl 54 _ rfl (w.heap.size + 1 + 1) rfl 54 _ (0, 0) _ HT2.out Yba.underlying54 rfl size54 ?_) | (refine wpList_store_mid rfl 54 _ _ rfl (w.heap.size + 1) 0 (A16 (encB k (xorB x o))) rfl rfl HH2.out size54 (A16_all _) ?_))
  refine bodyPost_ret (v := .agg (A16 (encB k (xorB x o)))) ?_ rfl ⟨rfl, ?_, ?_⟩
  · have hlast := load54 (heap_setCells_A16 (f := fun _ => 0) (encB k (xorB x o)) HR2.out)
    exact results_cell Yba.results10 rfl hlast
  · exact (setCells_far (by omega) _ 0 w2).trans HB2.out
  · have s1 : Step (fun b => b = B) w w1 := ((((Step.refl (fun b => b = B) w).alloc _ _).alloc _ _).alloc _ _).drew.trans HS1.out (fun b hb => Or.inr (by omega))
    have s2 : Step (fun b => b = B) w w2 := s1.drew.trans HS2.out (fun b hb => by rcases hb with hb | hb; exact Or.inl hb; exact Or.inr (by omega))
    exact Step.setCells (Or.inr (by omega)) _ 0 w2 s2
end Go.Proofs.Ybulkrfk
