import Derived.Test.YbulkrfkAkaSeal
import Derived.ChangeKeysEq
import Derived.Laws.BitsAllLaws
namespace Go.Proofs.Ybulkrfk
open Go.RowKit
set_option linter.unusedVariables false
attribute [local go_sem ↓] Go.wp_at_zero Go.wp_at_succ

theorem fold_at (f : Nat → Int) : #[Value.int .u8 (f 0), Value.int .u8 (f 1), Value.int .u8 (f 2), Value.int .u8 (f 3), Value.int .u8 (f 4), Value.int .u8 (f 5), Value.int .u8 (f 6), Value.int .u8 (f 7), Value.int .u8 (f 8), Value.int .u8 (f 9), Value.int .u8 (f 10), Value.int .u8 (f 11), Value.int .u8 (f 12), Value.int .u8 (f 13), Value.int .u8 (f 14), Value.int .u8 (f 15)] = A16 f := rfl
theorem cellsOf5 : Yba.prog.cellsOf 5 = 1 := by kernel_rfl
theorem part5 (o : Nat → Int) (i : Nat) (hi : i < 16) (w : World) : (part 5 (A16 o) (i * 1)).run Yba.prog w = .ok (.int .u8 (o i)) w := by
  have h := A16_get o i hi
  simp [part, Sem.run_bind, h]
theorem eqItems_same (d : Nat) (o : Nat → Int) (w : World) : ∀ is : List Nat, (∀ i ∈ is, i < 16) → (Op.eqItems (d + 1) 5 1 (A16 o) (A16 o) is).run Yba.prog w = .ok true w
  | [], _ => by simp [Op.eqItems]
  | i :: is, h => by
    have e : (Op.equalIn (d + 1) 5 (.int .u8 (o i)) (.int .u8 (o i))).run Yba.prog w = .ok true w := by rw [run_equalIn_int w d 5 .u8 .u8 _ _ Yba.underlying5]; simp
    simp only [Op.eqItems, Sem.run_bind, part5 o i (h i (by simp)), Result.andThen_ok, e]
    simpa using eqItems_same d o w is (fun j hj => h j (by simp [hj]))
theorem eql54 (o : Nat → Int) (w : World) : (binOp .eql 54 (.agg (A16 o)) (.agg (A16 o))).run Yba.prog w = .ok (.bool true) w := by
  obtain ⟨j, hj, _⟩ := info5
  rw [run_eql_struct, show (10000 : Nat) = 9999 + 1 from rfl, run_equalIn_array w 9999 (A16 o) (A16 o) Yba.underlying54 hj, cellsOf5, show (9999 : Nat) = 9998 + 1 from rfl, eqItems_same 9998 o w (List.range 16) (fun i hi => by simpa using hi)]
  rfl

theorem heap_at (w : World) (o : Obj) (i : Nat) : (w.alloc o).heap[i]? = if i = w.heap.size then some o else w.heap[i]? := by
  show (w.heap.push o)[i]? = _
  rw [Array.getElem?_push]

/-- The five blocks that a law lays ahead of the first call. -/
def W3 (k o x : Nat → Int) (w : World) : World := ((w.alloc (.cells (A16 k) 54)).alloc (.cells (A16 o) 54)).alloc (.cells (A16 x) 54)
def W5 (k o x : Nat → Int) (w : World) : World := ((W3 k o x w).alloc (.cells (A18 k 0 0) 57)).alloc (.cells (A17 (.iface 55 (.pointer (some ⟨w.heap.size + 1 + 1 + 1, 0, none⟩))) o) 62)
theorem size_at (w : World) (o : Obj) : (w.alloc o).heap.size = w.heap.size + 1 := by simp
theorem W3_size (k o x : Nat → Int) (w : World) : (W3 k o x w).heap.size = w.heap.size + 3 := by simp [W3]
theorem W5_size (k o x : Nat → Int) (w : World) : (W5 k o x w).heap.size = w.heap.size + 5 := by simp [W5, W3]
theorem W3_k (k o x : Nat → Int) (w : World) : (W3 k o x w).heap[w.heap.size]? = some (.cells (A16 k) 54 (0, 0)) := by
  simp only [W3, heap_at, size_at, if_true]
  repeat (first | rw [if_pos (by omega)] | rw [if_neg (by omega)])
theorem W4_o (k o x : Nat → Int) (w : World) : ((W3 k o x w).alloc (.cells (A18 k 0 0) 57)).heap[w.heap.size + 1]? = some (.cells (A16 o) 54 (0, 0)) := by
  simp only [W3, heap_at, size_at, if_true]
  repeat (first | rw [if_pos (by omega)] | rw [if_neg (by omega)])
theorem W5_k (k o x : Nat → Int) (w : World) : (W5 k o x w).heap[w.heap.size]? = some (.cells (A16 k) 54 (0, 0)) := by
  simp only [W5, W3, heap_at, size_at, if_true]
  repeat (first | rw [if_pos (by omega)] | rw [if_neg (by omega)])
theorem W5_o (k o x : Nat → Int) (w : World) : (W5 k o x w).heap[w.heap.size + 1]? = some (.cells (A16 o) 54 (0, 0)) := by
  simp only [W5, W3, heap_at, size_at, if_true]
  repeat (first | rw [if_pos (by omega)] | rw [if_neg (by omega)])
theorem W5_x (k o x : Nat → Int) (w : World) : (W5 k o x w).heap[w.heap.size + 1 + 1]? = some (.cells (A16 x) 54 (0, 0)) := by
  simp only [W5, W3, heap_at, size_at, if_true]
  repeat (first | rw [if_pos (by omega)] | rw [if_neg (by omega)])
theorem W5_B (k o x : Nat → Int) (w : World) : (W5 k o x w).heap[w.heap.size + 1 + 1 + 1]? = some (.cells (A18 k 0 0) 57 (0, 0)) := by
  simp only [W5, W3, heap_at, size_at, if_true]
  repeat (first | rw [if_pos (by omega)] | rw [if_neg (by omega)])
theorem W5_M (k o x : Nat → Int) (w : World) : (W5 k o x w).heap[w.heap.size + 1 + 1 + 1 + 1]? = some (.cells (A17 (.iface 55 (.pointer (some ⟨w.heap.size + 1 + 1 + 1, 0, none⟩))) o) 62 (0, 0)) := by
  simp only [W5, W3, heap_at, size_at, if_true]
  repeat (first | rw [if_pos (by omega)] | rw [if_neg (by omega)])
theorem W5_grown (k o x : Nat → Int) (w : World) : Grown w (W5 k o x w) := (((((Grown.refl w).alloc _ _).alloc _ _).alloc _ _).alloc _ _).alloc _ _

theorem range16 {w : World} {b : Nat} {t : TypeId} {o : Nat → Int} (h : w.heap[b]? = some (.cells (A16 o) t (0, 0))) : w.rangeAt b 0 (A16 o).toList := fun j v hv => by
  rw [Nat.zero_add, cell_of_row w b j _ _ _ h, ← hv]; simp
theorem range17 {w : World} {b : Nat} {t : TypeId} {v : Value} {o : Nat → Int} (h : w.heap[b]? = some (.cells (A17 v o) t (0, 0))) : w.rangeAt b 1 (A16 o).toList := fun j u hu => by
  have hj : j < 16 := by have := (List.getElem?_eq_some_iff.1 hu).1; simpa [A16_size] using this
  rw [cell_of_row w b _ _ _ _ h, A17_get v o j hj, ← hu]; simpa using (A16_get o j hj).symm
theorem quiet_load {C : World → Prop} {op : Oper} {a : Act} {K : Act → Prop} (x : Operand) (ho : op.op = .load 54 x) (b off : Nat) (hx : a.eval x = .pointer (some ⟨b, off, none⟩)) (o : Nat → Int)
    (hS : ∀ w, C w → w.rangeAt b off (A16 o).toList) (hk : K (a.put op.dst (.agg (A16 o)))) : op.quiet Yba.prog a C K :=
  ⟨_, fun w hw => by
    unfold Oper.quietAt execOp
    have h := run_loadVar_mid (P := Yba.prog) w b off 54 (A16 o).toList _ (hS w hw) Yba.underlying54 rfl size54
    simp only [ho, hx, Instr.loadAt, Instr.sureAddr, Sem.run_bind, Sem.run_pure, Result.andThen_ok, h]
    exact ⟨rfl, rfl⟩, hk⟩
theorem guard54 : Yba.prog.eqGuardType Yba.prog.depth 54 = false := by kernel_rfl
theorem law_xor (k o x : Nat → Int) (n : Nat) (b1 : 0 ≤ k n) (b2 : k n ≤ 255) (b3 : 0 ≤ x ((n + 1) % 16)) (b4 : x ((n + 1) % 16) ≤ 255) (b5 : 0 ≤ o n) (b6 : o n ≤ 255) :
    bits .xor .u8 (IntKind.u8.wrap (x ((n + 1) % 16) + k n)) (o n) = xorB (encB k x) o n := by
  rw [wrap8, u8_xor _ _ (by omega) (by omega) (by omega) (by omega)]
  rfl

set_option maxRecDepth 100000 in
theorem exact_any (k o x : Nat → Int) (hk : ∀ i, i < 16 → 0 ≤ k i ∧ k i ≤ 255) (ho : ∀ i, i < 16 → 0 ≤ o i ∧ o i ≤ 255) (hx : ∀ i, i < 16 → 0 ≤ x i ∧ x i ≤ 255) (w : World) :
    Calls Yba.prog 5 #[.agg (A16 k), .agg (A16 o), .agg (A16 x)] w fun r w' => r = .returned (.bool true) ∧ Grown w w' := by
  have Hk := hid hk
  have Ho := hid ho
  have Hx := hid hx
  clear hk ho hx
  unfold A16
  go_enter Yba.func5, Yba.ntmps5
  go_wp2_with (first
    | (refine wpList_load_row rfl 54 _ rfl (w.heap.size) rfl 54 #[.int .u8 (k 0), .int .u8 (k 1), .int .u8 (k 2), .int .u8 (k 3), .int .u8 (k 4), .int .u8 (k 5), .int .u8 (k 6), .int .u8 (k 7), .int .u8 (k 8), .int .u8 (k 9), .int .u8 (k 10), .int .u8 (k 11), .int .u8 (k 12), .int .u8 (k 13), .int .u8 (k 14), .int .u8 (k 15)] (0, 0) (.array 16 5) (W3_k k o x w) Yba.underlying54 rfl size54 ?_)
    | (refine wpList_load_row rfl 54 _ rfl (w.heap.size + 1) rfl 54 #[.int .u8 (o 0), .int .u8 (o 1), .int .u8 (o 2), .int .u8 (o 3), .int .u8 (o 4), .int .u8 (o 5), .int .u8 (o 6), .int .u8 (o 7), .int .u8 (o 8), .int .u8 (o 9), .int .u8 (o 10), .int .u8 (o 11), .int .u8 (o 12), .int .u8 (o 13), .int .u8 (o 14), .int .u8 (o 15)] (0, 0) (.array 16 5) (W4_o k o x w) Yba.underlying54 rfl size54 ?_)
    | (refine wpList_load_row rfl 54 _ rfl (w.heap.size + 1 + 1) rfl 54 #[.int .u8 (x 0), .int .u8 (x 1), .int .u8 (x 2), .int .u8 (x 3), .int .u8 (x 4), .int .u8 (x 5), .int .u8 (x 6), .int .u8 (x 7), .int .u8 (x 8), .int .u8 (x 9), .int .u8 (x 10), .int .u8 (x 11), .int .u8 (x 12), .int .u8 (x 13), .int .u8 (x 14), .int .u8 (x 15)] (0, 0) (.array 16 5) (W5_x k o x w) Yba.underlying54 rfl size54 ?_))
  rw [fold_at k, fold_at o, fold_at x]
  refine (seal_any (w.heap.size + 1 + 1 + 1 + 1) (w.heap.size + 1 + 1 + 1) k o x 0 0 (by decide) (by decide) Hk.out Hx.out (by omega) (W5 k o x w) (W5_M k o x w) (W5_B k o x w)).mono ?_
  rintro r w1 ⟨rfl, hB1, hS1⟩
  have hM1 := (hS1.2.1 (w.heap.size + 1 + 1 + 1 + 1) (by rw [W5_size]; omega) (by omega)).trans (W5_M k o x w)
  have hk1 := (hS1.2.1 (w.heap.size) (by rw [W5_size]; omega) (by omega)).trans (W5_k k o x w)
  have ho1 := (hS1.2.1 (w.heap.size + 1) (by rw [W5_size]; omega) (by omega)).trans (W5_o k o x w)
  have hx1 := (hS1.2.1 (w.heap.size + 1 + 1) (by rw [W5_size]; omega) (by omega)).trans (W5_x k o x w)
  have hG1 : Grown w w1 := hS1.2.2 w (W5_grown k o x w) (fun b hb => by subst hb; omega)
  have hz : w.heap.size + 5 ≤ w1.heap.size := by have := hS1.1; rw [W5_size] at this; exact this
  have HT := hid (there54 (heap_alloc_new w1 (.cells (A16 (fun _ => 0)) 54)))
  have HB1 := hid hB1
  have HM1 := hid hM1
  have Hk1 := hid hk1
  have Ho1 := hid ho1
  have Hx1 := hid hx1
  have HG1 := hid hG1
  clear hB1 hM1 hk1 ho1 hx1 hG1 hS1
  go_wp2_with (refine wpList_store_mid rfl 54 _ _ rfl w1.heap.size 0 (A16 (xorB (encB k x) o)) rfl rfl HT.out size54 (A16_all _) ?_)
  generalize hW2 : (w1.alloc (.cells #[Value.int .u8 0, Value.int .u8 0, Value.int .u8 0, Value.int .u8 0, Value.int .u8 0, Value.int .u8 0, Value.int .u8 0, Value.int .u8 0, Value.int .u8 0, Value.int .u8 0, Value.int .u8 0, Value.int .u8 0, Value.int .u8 0, Value.int .u8 0, Value.int .u8 0, Value.int .u8 0] 54)).setCells w1.heap.size 0 (A16 (xorB (encB k x) o)).toList = W2
  have gG : W2.heap[w1.heap.size]? = some (.cells (A16 (xorB (encB k x) o)) 54 (0, 0)) := by
    rw [← hW2]; exact heap_setCells_A16 (f := fun _ => 0) _ (heap_alloc_new w1 (.cells (A16 (fun _ => 0)) 54))
  have gold : ∀ b, b < w1.heap.size → W2.heap[b]? = w1.heap[b]? := fun b hb => by
    rw [← hW2]; exact (setCells_far (by omega) _ 0 _).trans (heap_alloc_old w1 _ hb)
  have gGr : Grown w W2 := by
    rw [← hW2]
    exact (Step.setCells (S := fun _ => False) (w := w1) (Or.inr (Nat.le_refl _)) _ 0 _ ((Step.refl _ w1).alloc _ _)).2.2 w HG1.out (fun b hb => hb.elim)
  have gB := (gold (w.heap.size + 1 + 1 + 1) (by omega)).trans HB1.out
  have gM := (gold (w.heap.size + 1 + 1 + 1 + 1) (by omega)).trans HM1.out
  have gk := (gold (w.heap.size) (by omega)).trans Hk1.out
  have go := (gold (w.heap.size + 1) (by omega)).trans Ho1.out
  have gx := (gold (w.heap.size + 1 + 1) (by omega)).trans Hx1.out
  have HgG := hid gG
  have HgB := hid gB
  have HgM := hid gM
  have Hgk := hid gk
  have Hgo := hid go
  have Hgx := hid gx
  have HGr := hid gGr
  clear hW2 gG gold gGr gB gM gk go gx HT HB1 HM1 Hk1 Ho1 Hx1 HG1
  go_loopw [10] (fun i wr => ∃ n : Nat, n ≤ 16 ∧ i = .int .i64 n ∧ wr.heap = W2.heap ∧ Grown w wr) (fun i _ => 16 - (intOf i).toNat)
  case atStart => exact ⟨0, by omega, rfl, rfl, HGr.out⟩
  case round =>
    obtain ⟨n, hn, rfl, hh, hgr⟩ := hrel
    have Hh := hid hh
    have Hgr := hid hgr
    by_cases hlt : n < 16
    · have cG : wr.cell? ⟨w1.heap.size, n, none⟩ = some (.int .u8 (xorB (encB k x) o n)) := by rw [cell_of_row wr _ n _ _ _ (by rw [hh]; exact HgG.out), A16_get _ _ hlt]
      have cx : wr.cell? ⟨w.heap.size + 1 + 1, (n + 1) % 16, none⟩ = some (.int .u8 (x ((n + 1) % 16))) := by rw [cell_of_row wr _ _ _ _ _ (by rw [hh]; exact Hgx.out), A16_get _ _ (by omega)]
      have ck : wr.cell? ⟨w.heap.size, n, none⟩ = some (.int .u8 (k n)) := by rw [cell_of_row wr _ n _ _ _ (by rw [hh]; exact Hgk.out), A16_get _ _ hlt]
      have co : wr.cell? ⟨w.heap.size + 1, n, none⟩ = some (.int .u8 (o n)) := by rw [cell_of_row wr _ n _ _ _ (by rw [hh]; exact Hgo.out), A16_get _ _ hlt]
      obtain ⟨b1, b2⟩ := Hk.out n hlt
      obtain ⟨b3, b4⟩ := Hx.out ((n + 1) % 16) (by omega)
      obtain ⟨b5, b6⟩ := Ho.out n hlt
      clear hh hgr
      have j1 : IntKind.i64.wrap ((n : Int) + 1) = (n : Int) + 1 := IntWalk.i64_in _ (by omega)
      have j2 : ((n : Int) + 1).tmod 16 = ((n : Int) + 1) % 16 := Int.tmod_eq_emod_of_nonneg (by omega)
      have j3 : IntKind.i64.wrap (((n : Int) + 1) % 16) = ((n : Int) + 1) % 16 := IntWalk.i64_in _ (by omega)
      have j4 : (((n : Int) + 1) % 16).toNat = (n + 1) % 16 := by omega
      have hX := law_xor k o x n b1 b2 b3 b4 b5 b6
      have i0 : (0 : Int) ≤ (n : Int) := by omega
      have i1 : (n : Int) < 16 := by omega
      have i2 : (0 : Int) ≤ ((n : Int) + 1) % 16 := by omega
      have i3 : ((n : Int) + 1) % 16 < 16 := by omega
      go_wp2
      go_region_held3 (fun w' => w'.cell? ⟨w1.heap.size, n, none⟩ = some (.int .u8 (xorB (encB k x) o n)) ∧ w'.cell? ⟨w.heap.size + 1 + 1, (n + 1) % 16, none⟩ = some (.int .u8 (x ((n + 1) % 16))) ∧ w'.cell? ⟨w.heap.size, n, none⟩ = some (.int .u8 (k n)) ∧ w'.cell? ⟨w.heap.size + 1, n, none⟩ = some (.int .u8 (o n))) (simp [cG, cx, ck, co]) (fail)
      go_wp2
      go_roundw
      case rel => exact ⟨n + 1, by omega, by go_num, Hh.out, Hgr.out.drew⟩
      case measure => simp [intOf]; omega
    · have c16 : wr.cell? ⟨w.heap.size + 1 + 1 + 1, 16, none⟩ = some (.int .i64 1) := by rw [cell_of_row wr _ _ _ _ _ (by rw [hh]; exact HgB.out)]; rfl
      have c17 : wr.cell? ⟨w.heap.size + 1 + 1 + 1, 17, none⟩ = some (.int .i64 0) := by rw [cell_of_row wr _ _ _ _ _ (by rw [hh]; exact HgB.out)]; rfl
      have rM : wr.rangeAt (w.heap.size + 1 + 1 + 1 + 1) 1 (A16 o).toList := range17 (by rw [hh]; exact HgM.out)
      have rO : wr.rangeAt (w.heap.size + 1) 0 (A16 o).toList := range16 (by rw [hh]; exact Hgo.out)
      have heq := eql54 o
      have hm := guard54
      have HrM : Hid (∀ w', (∃ n, w' = wr.drewN n) → w'.rangeAt (w.heap.size + 1 + 1 + 1 + 1) 1 (A16 o).toList) := by rintro _ ⟨m, rfl⟩; exact rM
      have HrO : Hid (∀ w', (∃ n, w' = wr.drewN n) → w'.rangeAt (w.heap.size + 1) 0 (A16 o).toList) := by rintro _ ⟨m, rfl⟩; exact rO
      clear hh hgr rM rO
      go_wp2
      refine wp_region_quiet_lit (by kernel_rfl) (by kernel_rfl) ?_
      iterate 16 go_big_quiet_step (fail)
      go_big_quiet_want
      refine quiet_load _ rfl _ _ rfl o HrM.out ?_
      simp only [Act.put, List.setIfInBounds_toArray, List.set_cons_zero, List.set_cons_succ]
      go_big_quiet_on
      go_big_quiet_want
      refine quiet_load _ rfl _ _ rfl o HrO.out ?_
      simp only [Act.put, List.setIfInBounds_toArray, List.set_cons_zero, List.set_cons_succ]
      go_big_quiet_on
      repeat (go_big_quiet_step (fail))
      refine wpQuiet_nil ?_
      rintro _ ⟨nq, rfl⟩
      go_wp2
      go_ret
      exact ⟨rfl, Hgr.out⟩
end Go.Proofs.Ybulkrfk
