import Derived.Test.YbulkrfkAkaTemp
import Derived.Deep.Cut
namespace Go.Proofs.Ybulkrfk
open Go.RowKit
set_option linter.unusedVariables false
attribute [local go_sem ↓] Go.wp_at_zero Go.wp_at_succ

theorem tl_xor (f g : Nat → Int) (n : Nat) (b1 : 0 ≤ f n) (b2 : f n ≤ 255) (b3 : 0 ≤ g n) (b4 : g n ≤ 255) : bits .xor .u8 (f n) (g n) = xorB f g n := by
  rw [u8_xor _ _ (by omega) (by omega) (by omega) (by omega)]
  rfl
theorem tl_round {wr : World} {T n : Nat} {f : Nat → Int} (hn : n < 16) (h : wr.heap[T]? = some (.cells (A16 (fun j => if j < n then f j else 0)) 54 (0, 0))) :
    (wr.setCell ⟨T, n, none⟩ (.int .u8 (f n))).drew.heap[T]? = some (.cells (A16 (fun j => if j < n + 1 then f j else 0)) 54 (0, 0)) := by
  have := heap_setCell_same wr T n _ 54 (.int .u8 (f n)) h
  rw [A16_set _ _ n hn] at this
  refine Eq.trans this (congrArg (fun c => some (Obj.cells c 54 (0, 0))) (A16_congr fun i _ => ?_))
  by_cases e : i = n
  · subst e; simp
  · by_cases e' : i < n
    · simp [e, e', Nat.lt_succ_of_lt e']
    · rw [if_neg e, if_neg e', if_neg (by omega)]

set_option maxRecDepth 100000 in
set_option maxHeartbeats 1000000 in
theorem templaw_any (k o x : Nat → Int) (hk : ∀ i, i < 16 → 0 ≤ k i ∧ k i ≤ 255) (ho : ∀ i, i < 16 → 0 ≤ o i ∧ o i ≤ 255) (hx : ∀ i, i < 16 → 0 ≤ x i ∧ x i ≤ 255) (w : World) :
    Calls Yba.prog 6 #[.agg (A16 k), .agg (A16 o), .agg (A16 x)] w fun r w' => r = .returned (.bool true) ∧ Grown w w' := by
  have Hk := hid hk
  have Ho := hid ho
  have Hx := hid hx
  clear hk ho hx
  unfold A16
  go_enter Yba.func6, Yba.ntmps6
  go_wp2_with (first
    | (refine wpList_load_row rfl 54 _ rfl (w.heap.size) rfl 54 #[.int .u8 (k 0), .int .u8 (k 1), .int .u8 (k 2), .int .u8 (k 3), .int .u8 (k 4), .int .u8 (k 5), .int .u8 (k 6), .int .u8 (k 7), .int .u8 (k 8), .int .u8 (k 9), .int .u8 (k 10), .int .u8 (k 11), .int .u8 (k 12), .int .u8 (k 13), .int .u8 (k 14), .int .u8 (k 15)] (0, 0) (.array 16 5) (W3_k k o x w) Yba.underlying54 rfl size54 ?_)
    | (refine wpList_load_row rfl 54 _ rfl (w.heap.size + 1) rfl 54 #[.int .u8 (o 0), .int .u8 (o 1), .int .u8 (o 2), .int .u8 (o 3), .int .u8 (o 4), .int .u8 (o 5), .int .u8 (o 6), .int .u8 (o 7), .int .u8 (o 8), .int .u8 (o 9), .int .u8 (o 10), .int .u8 (o 11), .int .u8 (o 12), .int .u8 (o 13), .int .u8 (o 14), .int .u8 (o 15)] (0, 0) (.array 16 5) (W4_o k o x w) Yba.underlying54 rfl size54 ?_))
  rw [fold_at k, fold_at o, fold_at x]
  go_loopw [10] (fun i wr => ∃ n : Nat, n ≤ 16 ∧ i = .int .i64 n ∧ wr.heap[w.heap.size + 1 + 1 + 1 + 1 + 1]? = some (.cells (A16 (fun j => if j < n then xorB x o j else 0)) 54 (0, 0)) ∧ Step (fun _ => False) (W5 k o x w) wr) (fun i _ => 16 - (intOf i).toNat)
  case atStart =>
    refine ⟨0, by omega, rfl, ?_, ?_⟩
    · have := heap_alloc_new (W5 k o x w) (.cells (A16 (fun _ => 0)) 54)
      rw [W5_size] at this
      exact this
    · exact (Step.refl _ (W5 k o x w)).alloc _ _
  case round =>
    obtain ⟨n, hn, rfl, hY, hS⟩ := hrel
    have hxb := (hS.2.1 (w.heap.size + 1 + 1) (by rw [W5_size]; omega) (fun h => h)).trans (W5_x k o x w)
    have hob := (hS.2.1 (w.heap.size + 1) (by rw [W5_size]; omega) (fun h => h)).trans (W5_o k o x w)
    have hMb := (hS.2.1 (w.heap.size + 1 + 1 + 1 + 1) (by rw [W5_size]; omega) (fun h => h)).trans (W5_M k o x w)
    have hBb := (hS.2.1 (w.heap.size + 1 + 1 + 1) (by rw [W5_size]; omega) (fun h => h)).trans (W5_B k o x w)
    have HY := hid hY
    have HS := hid hS
    have Hxb := hid hxb
    have Hob := hid hob
    have HMb := hid hMb
    have HBb := hid hBb
    by_cases hlt : n < 16
    · have cx : wr.cell? ⟨w.heap.size + 1 + 1, n, none⟩ = some (.int .u8 (x n)) := by rw [cell_of_row wr _ n _ _ _ hxb, A16_get _ _ hlt]
      have co : wr.cell? ⟨w.heap.size + 1, n, none⟩ = some (.int .u8 (o n)) := by rw [cell_of_row wr _ n _ _ _ hob, A16_get _ _ hlt]
      have cY : wr.cell? ⟨w.heap.size + 1 + 1 + 1 + 1 + 1, n, none⟩ = some (.int .u8 0) := by rw [cell_of_row wr _ n _ _ _ hY, A16_get _ _ hlt]; simp
      have fY : wr.frozen? ⟨w.heap.size + 1 + 1 + 1 + 1 + 1, n, none⟩ = false := frozen_row hY n
      obtain ⟨b3, b4⟩ := Hx.out n hlt
      obtain ⟨b5, b6⟩ := Ho.out n hlt
      have hX := tl_xor x o n b3 b4 b5 b6
      have i0 : (0 : Int) ≤ (n : Int) := by omega
      have i1 : (n : Int) < 16 := by omega
      clear hY hS hxb hob hMb hBb
      go_wp2
      go_region_held3 (fun w' => w'.cell? ⟨w.heap.size + 1 + 1, n, none⟩ = some (.int .u8 (x n)) ∧ w'.cell? ⟨w.heap.size + 1, n, none⟩ = some (.int .u8 (o n))) (simp [World.cell?_setCell_other, cx, co]) (fail)
      go_wp2
      go_roundw
      case rel => exact ⟨n + 1, by omega, by go_num, tl_round hlt HY.out, (HS.out.setCell _ (Or.inr (by rw [W5_size]; show w.heap.size + 5 ≤ w.heap.size + 1 + 1 + 1 + 1 + 1; omega))).drew⟩
      case measure => simp [intOf]; omega
    · have eY : A16 (fun j => if j < n then xorB x o j else 0) = A16 (xorB x o) := A16_congr (fun i hi => if_pos (by omega))
      rw [eY] at hY
      have HY2 := hid hY
      have hz : w.heap.size + 5 ≤ wr.heap.size := by have := hS.1; rw [W5_size] at this; exact this
      have hGr : Grown w wr := hS.2.2 w (W5_grown k o x w) (fun b hb => hb.elim)
      have HGr := hid hGr
      have Hxo := hid (xorB_bd Hx.out Ho.out)
      clear hY hS hxb hob hMb hBb eY HY hGr HS
      go_wp2_with (refine wpList_load_row rfl 54 _ rfl (w.heap.size + 1 + 1 + 1 + 1 + 1) rfl 54 _ (0, 0) _ HY2.out Yba.underlying54 rfl size54 ?_)
      refine (seal_any (w.heap.size + 1 + 1 + 1 + 1) (w.heap.size + 1 + 1 + 1) k o (xorB x o) 0 0 (by decide) (by decide) Hk.out Hxo.out (by omega) wr HMb.out HBb.out).mono ?_
      rintro r w1 ⟨rfl, hB1, hS1⟩
      have hM1 := (hS1.2.1 (w.heap.size + 1 + 1 + 1 + 1) (by omega) (by omega)).trans HMb.out
      have hx1 := (hS1.2.1 (w.heap.size + 1 + 1) (by omega) (by omega)).trans Hxb.out
      have ho1 := (hS1.2.1 (w.heap.size + 1) (by omega) (by omega)).trans Hob.out
      have hz1 : w.heap.size + 5 ≤ w1.heap.size := by have := hS1.1; omega
      have hG1 : Grown w w1 := hS1.2.2 w HGr.out (fun b hb => by subst hb; omega)
      have HT1 := hid (there54 (heap_alloc_new w1 (.cells (A16 (fun _ => 0)) 54)))
      have HB1 := hid hB1
      have HM1 := hid hM1
      have Hx1 := hid hx1
      have Ho1 := hid ho1
      have HG1 := hid hG1
      clear hB1 hS1 hM1 hx1 ho1 hG1
      go_upto_region 9 with (refine wpList_store_mid rfl 54 _ _ rfl w1.heap.size 0 (A16 (xorB (encB k (xorB x o)) o)) rfl rfl HT1.out size54 (A16_all _) ?_)
      generalize hW2 : (w1.alloc (.cells #[Value.int .u8 0, Value.int .u8 0, Value.int .u8 0, Value.int .u8 0, Value.int .u8 0, Value.int .u8 0, Value.int .u8 0, Value.int .u8 0, Value.int .u8 0, Value.int .u8 0, Value.int .u8 0, Value.int .u8 0, Value.int .u8 0, Value.int .u8 0, Value.int .u8 0, Value.int .u8 0] 54)).setCells w1.heap.size 0 (A16 (xorB (encB k (xorB x o)) o)).toList = W2
      have gS : W2.heap[w1.heap.size]? = some (.cells (A16 (xorB (encB k (xorB x o)) o)) 54 (0, 0)) := by
        rw [← hW2]; exact heap_setCells_A16 (f := fun _ => 0) _ (heap_alloc_new w1 (.cells (A16 (fun _ => 0)) 54))
      have gold : ∀ b, b < w1.heap.size → W2.heap[b]? = w1.heap[b]? := fun b hb => by
        rw [← hW2]; exact (setCells_far (by omega) _ 0 _).trans (heap_alloc_old w1 _ hb)
      have gGr : Grown w W2 := by
        rw [← hW2]
        exact (Step.setCells (S := fun _ => False) (w := w1) (Or.inr (Nat.le_refl _)) _ 0 _ ((Step.refl _ w1).alloc _ _)).2.2 w HG1.out (fun b hb => hb.elim)
      have gB := (gold (w.heap.size + 1 + 1 + 1) (by omega)).trans HB1.out
      have gM := (gold (w.heap.size + 1 + 1 + 1 + 1) (by omega)).trans HM1.out
      have gx := (gold (w.heap.size + 1 + 1) (by omega)).trans Hx1.out
      have go := (gold (w.heap.size + 1) (by omega)).trans Ho1.out
      have HgS := hid gS
      have HgB := hid gB
      have HgM := hid gM
      have Hgx := hid gx
      have Hgo := hid go
      have HgG := hid gGr
      have lS := lt_of_row gS
      clear hW2 gS gold gGr gB gM gx go HT1 HB1 HM1 Hx1 Ho1 HG1 HMb HBb Hxb Hob HY2 HGr
      go_wp2_with (refine wpList_load_row rfl 54 _ rfl (w.heap.size + 1 + 1) rfl 54 _ (0, 0) _ Hgx.out Yba.underlying54 rfl size54 ?_)
      refine (temp_any (w.heap.size + 1 + 1 + 1 + 1) (w.heap.size + 1 + 1 + 1) k o x (0 + 1) 0 (by decide) (by decide) Hk.out Ho.out Hx.out (by omega) W2 HgM.out HgB.out).mono ?_
      rintro r w2 ⟨rfl, hB2, hS2⟩
      have ho2 := (hS2.2.1 (w.heap.size + 1) (by omega) (by omega)).trans Hgo.out
      have hs2 := (hS2.2.1 w1.heap.size lS (by omega)).trans HgS.out
      have hz2 : w1.heap.size < w2.heap.size := by have := hS2.1; omega
      have hG2 : Grown w w2 := hS2.2.2 w HgG.out (fun b hb => by subst hb; omega)
      have HT2 := hid (there54 (heap_alloc_new w2 (.cells (A16 (fun _ => 0)) 54)))
      have HB2 := hid hB2
      have Ho2 := hid ho2
      have Hs2 := hid hs2
      have HG2 := hid hG2
      clear hB2 hS2 ho2 hs2 hG2
      go_wp2_with (refine wpList_store_mid rfl 54 _ _ rfl w2.heap.size 0 (A16 (encB k (xorB x o))) rfl rfl HT2.out size54 (A16_all _) ?_)
      generalize hW3 : (w2.alloc (.cells #[Value.int .u8 0, Value.int .u8 0, Value.int .u8 0, Value.int .u8 0, Value.int .u8 0, Value.int .u8 0, Value.int .u8 0, Value.int .u8 0, Value.int .u8 0, Value.int .u8 0, Value.int .u8 0, Value.int .u8 0, Value.int .u8 0, Value.int .u8 0, Value.int .u8 0, Value.int .u8 0] 54)).setCells w2.heap.size 0 (A16 (encB k (xorB x o))).toList = V3
      have fT : V3.heap[w2.heap.size]? = some (.cells (A16 (encB k (xorB x o))) 54 (0, 0)) := by
        rw [← hW3]; exact heap_setCells_A16 (f := fun _ => 0) _ (heap_alloc_new w2 (.cells (A16 (fun _ => 0)) 54))
      have fold' : ∀ b, b < w2.heap.size → V3.heap[b]? = w2.heap[b]? := fun b hb => by
        rw [← hW3]; exact (setCells_far (by omega) _ 0 _).trans (heap_alloc_old w2 _ hb)
      have fGr : Grown w V3 := by
        rw [← hW3]
        exact (Step.setCells (S := fun _ => False) (w := w2) (Or.inr (Nat.le_refl _)) _ 0 _ ((Step.refl _ w2).alloc _ _)).2.2 w HG2.out (fun b hb => hb.elim)
      have fB := (fold' (w.heap.size + 1 + 1 + 1) (by omega)).trans HB2.out
      have fo := (fold' (w.heap.size + 1) (by omega)).trans Ho2.out
      have fs := (fold' w1.heap.size (by omega)).trans Hs2.out
      have HfT := hid fT
      have HfB := hid fB
      have Hfo := hid fo
      have Hfs := hid fs
      have HfG := hid fGr
      clear hW3 fT fold' fGr fB fo fs HT2 HB2 Ho2 Hs2 HG2
      go_loopw [13] (fun i v => ∃ m : Nat, m ≤ 16 ∧ i = .int .i64 m ∧ v.heap = V3.heap ∧ Grown w v) (fun i _ => 16 - (intOf i).toNat)
      case atStart => exact ⟨0, by omega, rfl, rfl, HfG.out⟩
      case round =>

        obtain ⟨m, hm, rfl, hh, hgr⟩ := hrel
        have Hh := hid hh
        have Hgr := hid hgr
        by_cases hlt2 : m < 16
        · have cs : wr.cell? ⟨w1.heap.size, m, none⟩ = some (.int .u8 (xorB (encB k (xorB x o)) o m)) := by rw [cell_of_row wr _ m _ _ _ (by rw [hh]; exact Hfs.out), A16_get _ _ hlt2]
          have ct : wr.cell? ⟨w2.heap.size, m, none⟩ = some (.int .u8 (encB k (xorB x o) m)) := by rw [cell_of_row wr _ m _ _ _ (by rw [hh]; exact HfT.out), A16_get _ _ hlt2]
          have co : wr.cell? ⟨w.heap.size + 1, m, none⟩ = some (.int .u8 (o m)) := by rw [cell_of_row wr _ m _ _ _ (by rw [hh]; exact Hfo.out), A16_get _ _ hlt2]
          obtain ⟨b5, b6⟩ := Ho.out m hlt2
          obtain ⟨b7, b8⟩ := encB_bd k (xorB x o) m
          have hX := tl_xor (encB k (xorB x o)) o m b7 b8 b5 b6
          have i0 : (0 : Int) ≤ (m : Int) := by omega
          have i1 : (m : Int) < 16 := by omega
          clear hh hgr
          go_wp2
          go_region_held3 (fun w' => w'.cell? ⟨w1.heap.size, m, none⟩ = some (.int .u8 (xorB (encB k (xorB x o)) o m)) ∧ w'.cell? ⟨w2.heap.size, m, none⟩ = some (.int .u8 (encB k (xorB x o) m)) ∧ w'.cell? ⟨w.heap.size + 1, m, none⟩ = some (.int .u8 (o m))) (simp [cs, ct, co]) (fail)
          go_wp2
          go_roundw
          case rel => exact ⟨m + 1, by omega, by go_num, Hh.out, Hgr.out.drew⟩
          case measure => simp [intOf]; omega
        · have c16 : wr.cell? ⟨w.heap.size + 1 + 1 + 1, 16, none⟩ = some (.int .i64 2) := by rw [cell_of_row wr _ _ _ _ _ (by rw [hh]; exact HfB.out)]; rfl
          have c17 : wr.cell? ⟨w.heap.size + 1 + 1 + 1, 17, none⟩ = some (.int .i64 0) := by rw [cell_of_row wr _ _ _ _ _ (by rw [hh]; exact HfB.out)]; rfl
          clear hh hgr
          go_wp2
          go_ret
          exact ⟨rfl, Hgr.out⟩
end Go.Proofs.Ybulkrfk
