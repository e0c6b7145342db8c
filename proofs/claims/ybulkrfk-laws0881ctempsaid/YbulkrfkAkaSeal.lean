import Derived.Test.YbulkrfkAkaXor
namespace Go.Proofs.Ybulkrfk
open Go.RowKit
set_option linter.unusedVariables false
attribute [local go_sem ↓] Go.wp_at_zero Go.wp_at_succ

theorem two_old {w : World} {A C : Obj} {b : Nat} (h : b < w.heap.size) : ((w.alloc A).alloc C).drew.heap[b]? = w.heap[b]? :=
  (heap_alloc_old (w.alloc A) C (Nat.lt_of_lt_of_le h (by simp))).trans (heap_alloc_old w A h)
theorem two_first (w : World) (A C : Obj) : ((w.alloc A).alloc C).drew.heap[w.heap.size]? = some A :=
  (heap_alloc_old (w.alloc A) C (by simp)).trans (heap_alloc_new w A)
theorem two_second (w : World) (A C : Obj) : ((w.alloc A).alloc C).drew.heap[w.heap.size + 1]? = some C := by
  have := heap_alloc_new (w.alloc A) C
  rwa [show (w.alloc A).heap.size = w.heap.size + 1 by simp] at this
theorem lt_of_row {w : World} {b : Nat} {o : Obj} (h : w.heap[b]? = some o) : b < w.heap.size := (Array.getElem?_eq_some_iff.1 h).1
theorem A17_zero (v : Value) (f : Nat → Int) : (A17 v f)[0]? = some v := rfl
theorem encB_bd (k x : Nat → Int) (i : Nat) : 0 ≤ encB k x i ∧ encB k x i ≤ 255 := by unfold encB; omega

theorem two_keep {w w1 : World} {A C : Obj} {M B : Nat} (lM : M < w.heap.size) (hMB : M ≠ B) (hS : Step (fun b => b = B ∨ b = w.heap.size) ((w.alloc A).alloc C).drew w1) : w1.heap[M]? = w.heap[M]? :=
  (hS.2.1 M (Nat.lt_of_lt_of_le lM (by show w.heap.size ≤ ((w.alloc A).alloc C).heap.size; simp; omega)) (by omega)).trans (two_old lM)
theorem size54 : (Yba.prog.info? 54).map (·.size) = some 16 := by kernel_rfl
theorem load54 {w : World} {b : Nat} {t : TypeId} {y : Nat → Int} (h : w.heap[b]? = some (.cells (A16 y) t (0, 0))) : (loadVar 54 ⟨b, 0, none⟩).run Yba.prog w = .ok (.agg (A16 y)) w :=
  run_loadVar_mid w b 0 54 (A16 y).toList _ (fun j v hv => by rw [Nat.zero_add, cell_of_row w b j _ _ _ h, ← hv]; simp) Yba.underlying54 rfl size54
theorem there54 {w : World} {b : Nat} {t : TypeId} {f : Nat → Int} (h : w.heap[b]? = some (.cells (A16 f) t (0, 0))) : w.there b 0 16 :=
  fun j hj => ⟨by rw [Nat.zero_add, cell_of_row w b j _ _ _ h, A16_get f j hj]; rfl, frozen_row h _⟩
theorem A16_all (y : Nat → Int) : (A16 y).all (·.oneCell') = true := by simpa using all_oneCell_toArray (A16_one y)
theorem results_cell {fn : Func} {p : Tmp} {ty : TypeId} (h : fn.results = #[.cell p ty]) {tmps : Array Value} {P : Program} {w : World} {a : Addr} {v : Value} (ha : tmps.getD p undef = .pointer (some a)) (hl : (loadVar ty a).run P w = .ok v w) :
    (results fn tmps).run P w = .ok v w := by
  have e : (asAddr (.pointer (some a))).run P w = .ok a w := rfl
  have ha' : tmps[p]?.getD undef = .pointer (some a) := by simpa using ha
  simp only [results, h]
  simp [Sem.run_bind, ha', e, hl]
theorem method_enc (a : Addr) (w : World) : (method 351 55 (.pointer (some a)) "Encrypt").run Yba.prog w = .ok (44, .pointer (some a)) w := by kernel_rfl

set_option maxRecDepth 100000 in
theorem seal_any (M B : Nat) (k o x : Nat → Int) (e d : Int) (h0 : 0 ≤ e) (h1 : e ≤ 100) (hk : ∀ i, i < 16 → 0 ≤ k i ∧ k i ≤ 255) (hx : ∀ i, i < 16 → 0 ≤ x i ∧ x i ≤ 255) (hMB : M ≠ B) (w : World)
    (hM : w.heap[M]? = some (.cells (A17 (.iface 55 (.pointer (some ⟨B, 0, none⟩))) o) 62 (0, 0))) (hB : w.heap[B]? = some (.cells (A18 k e d) 57 (0, 0))) :
    Calls Yba.prog 9 #[.pointer (some ⟨M, 0, none⟩), .agg (A16 x)] w fun r w' => r = .returned (.agg (A16 (xorB (encB k x) o))) ∧
      w'.heap[B]? = some (.cells (A18 k (e + 1) d) 57 (0, 0)) ∧ Step (fun b => b = B) w w' := by
  have lM := lt_of_row hM
  have lB := lt_of_row hB
  have cM : w.cell? ⟨M, 0, none⟩ = some (.iface 55 (.pointer (some ⟨B, 0, none⟩))) := by rw [cell_of_row w M 0 _ _ _ hM]; rfl
  have HM := hid hM
  have HB := hid hB
  have Hk := hid hk
  have Hx := hid hx
  clear hM hB hk hx
  have hm := fun w => method_enc ⟨B, 0, none⟩ w
  go_enter Yba.func9, Yba.ntmps9
  go_wp2
  go_region_held3 (fun w' => w'.cell? ⟨M, 0, none⟩ = some (.iface 55 (.pointer (some ⟨B, 0, none⟩)))) (first | (simp [go_sem, lM, cM]; done) | (rw [cell_of_row _ M 0 _ _ _ ((two_keep lM hMB hS1).trans HM.out)]; rfl))
    (first | (go_at_call 44; refine (enc_any B w.heap.size k x e d h0 h1 Hk.out Hx.out (by omega) _ ?_ ?_).mono ?_; (exact (two_old lB).trans HB.out); (exact two_first _ _ _); rintro r w1 ⟨rfl, hB1, hX1, hS1⟩))
  have lX1 := lt_of_row hX1
  have hM1 := (two_keep lM hMB hS1).trans HM.out
  have hR1 := (hS1.2.1 (w.heap.size + 1) (by show w.heap.size + 1 < ((w.alloc _).alloc _).heap.size; simp) (by omega)).trans (two_second _ _ _)
  have HB1 := hid hB1
  have HX1 := hid hX1
  have HS1 := hid hS1
  have HM1 := hid hM1
  have HR1 := hid hR1
  clear hB1 hX1 hS1 hM1 hR1
  go_wp2
  go_region_held3 (fun _ => True) (trivial)
    (first | (go_at_call 12; refine (xor_same w.heap.size M 1 (encB k x) o w1.drew _ _ ?_ HX1.out HM1.out (A17_get _ o)).mono ?_; omega; rintro r w2 ⟨rfl, hX2, hS2⟩))
  have hR2 := (hS2.2.1 (w.heap.size + 1) (lt_of_row HR1.out) (by omega)).trans HR1.out
  have HX2 := hid hX2
  have HT2 := hid (there54 (f := fun _ => 0) hR2)
  have hB2 := (hS2.2.1 B (lt_of_row HB1.out) (by omega)).trans HB1.out
  have HS2 := hid hS2
  have HR2 := hid hR2
  have HB2 := hid hB2
  clear hX2 hS2 hR2 hB2
  go_wp2_with (first | (refine wpList_load_row rfl 54 _ rfl w.heap.size rfl 54 _ (0, 0) _ HX2.out Yba.underlying54 rfl size54 ?_) | (refine wpList_store_mid rfl 54 _ _ rfl (w.heap.size + 1) 0 (A16 (xorB (encB k x) o)) rfl rfl HT2.out size54 (A16_all _) ?_))
  refine bodyPost_ret (v := .agg (A16 (xorB (encB k x) o))) ?_ rfl ⟨rfl, ?_, ?_⟩
  · have hlast := load54 (heap_setCells_A16 (f := fun _ => 0) (xorB (encB k x) o) HR2.out)
    exact results_cell Yba.results9 rfl hlast
  · exact (setCells_far (by omega) _ 0 w2).trans HB2.out
  · have s1 : Step (fun b => b = B) w w1 := (((Step.refl (fun b => b = B) w).alloc _ _).alloc _ _).drew.trans HS1.out (fun b hb => by rcases hb with hb | hb; exact Or.inl hb; exact Or.inr (by omega))
    have s2 : Step (fun b => b = B) w w2 := s1.drew.trans HS2.out (fun b hb => Or.inr (by omega))
    exact Step.setCells (Or.inr (by omega)) _ 0 w2 s2
end Go.Proofs.Ybulkrfk
