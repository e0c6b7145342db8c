import Derived.Test.YbulkrhaDoorSteps
import Derived.LaidEql
namespace Go.Proofs.YbulkrhaDoor
open Go.RowKit Go.Maps Go.WideMaps
set_option linter.unusedVariables false
attribute [local go_sem ↓] Go.wp_at_zero Go.wp_at_succ

def tot (il : Nat → Nat) : Nat → Nat
  | 0 => 0
  | n + 1 => tot il n + il n

theorem il_le_tot (il : Nat → Nat) : ∀ {n l : Nat}, l < n → il l ≤ tot il n
  | 0, _, h => absurd h (by omega)
  | n + 1, l, h => by
    unfold tot
    by_cases e : l = n
    · subst e; omega
    · have := il_le_tot il (n := n) (l := l) (by omega); omega
theorem info79 : ∃ i, Ybad.prog.info? 79 = some i ∧ i.comparable = true := by
  have h : (Ybad.prog.info? 79).map (·.comparable) = some true := by kernel_rfl
  cases e : Ybad.prog.info? 79 with
  | none => rw [e] at h; simp at h
  | some i => rw [e] at h; exact ⟨i, rfl, by simpa using h⟩
theorem info81 : ∃ i, Ybad.prog.info? 81 = some i := by
  have h : (Ybad.prog.info? 81).isSome = true := by kernel_rfl
  exact Option.isSome_iff_exists.1 h
theorem same_err (p : Addr) (w : World) : (binOp .eql 27 (.iface 79 (.pointer (some p))) (.iface 79 (.pointer (some p)))).run Ybad.prog w = .ok (.bool true) w := by
  obtain ⟨i, hi, hc⟩ := info79
  obtain ⟨j, hj⟩ := info81
  exact run_eql_iface_ptr_same w p Ybad.underlying27 Ybad.underlying79 hi hc hj
theorem distinct_any (a : Option Addr) (n cap : Nat) (f : Nat → ByteArray) (v : World) (hn : n ≤ 4096) (h : 0 < n → ∃ b o, a = some ⟨b, o, none⟩ ∧ ∀ j, j < n → v.cell? ⟨b, o + j, none⟩ = some (.string (f j))) :
    Calls Ybad.prog 6 #[.slice a n cap] v fun e w' => e = .returned (.int .i64 (dcount f n)) ∧ ∃ m, w' = v.drewN m := by
  by_cases h0 : n = 0
  · subst h0; exact distinct_none a cap v
  · obtain ⟨b, o, rfl, hc⟩ := h (by omega)
    exact distinct_some b o n cap f v (by omega) hc

set_option maxRecDepth 100000 in
set_option maxHeartbeats 4000000 in
theorem law_pos (qb qo N cap : Nat) (nm : Nat → ByteArray) (ia : Nat → Option Addr) (il ic : Nat → Nat) (dl bk : Nat → Bool) (id : Nat → Nat → ByteArray) (sel : Nat) (other : ByteArray) (pe : Addr) (w : World)
    (hN : 0 < N) (hN3 : N ≤ 300) (hsel : sel < 256) (hoth : other.size ≤ maxLen) (hin : In w qb qo N nm ia il ic dl bk id) (hG : w.cell? ⟨0, 0, none⟩ = some (.iface 79 (.pointer (some pe)))) :
    Calls Ybad.prog 3 #[.slice (some ⟨qb, qo, none⟩) N cap, .int .u8 sel, .string other] w fun e w' => e = .returned (.bool true) ∧ Below w.heap.size w w' := by
  have HI := hid hin
  have HG := hid hG
  clear hin hG
  go_enter Ybad.func3, Ybad.ntmps3
  go_wp2
  go_loop [7, 8] (fun t i => ∃ k : Nat, k ≤ N ∧ i = .int .i64 k ∧ t = .int .i64 (tot il k) ∧ tot il k ≤ 4096) (fun _ i => N - (intOf i).toNat)
  case atStart => exact ⟨0, Nat.zero_le _, rfl, rfl, by simp [tot]⟩
  case round =>
    obtain ⟨k, hk, rfl, rfl, ht⟩ := hrel
    by_cases hlt : k < N
    · have c1 := HI.out.c1 k hlt
      have hm := HI.out.ilm k hlt
      have HT : Hid (tot il (k + 1) = tot il k + il k) := rfl
      have i0 : (0 : Int) ≤ (k : Int) := by omega
      have i1 : (k : Int) < (N : Int) := by omega
      by_cases hbig : 4096 < tot il k + il k
      · go_wp2
        go_ret
        exact ⟨rfl, Below.refl _ _⟩
      · go_wp2
        exact ⟨⟨k + 1, by omega, by go_num, by rw [HT.out]; go_num, by rw [HT.out]; omega⟩, by simp [intOf]; omega⟩
    · obtain rfl : N = k := by omega
      have HTot := hid ht
      clear ht hlt hk
      go_upto_if 49 with fail
      go_cut [9] from 42 to 59 (fun v wc => ∃ ask : ByteArray, ask.size ≤ maxLen ∧ v = .string ask ∧ w = wc)
      case first =>
        by_cases hev : (sel : Int) % 2 = 0
        · have hlt : sel / 2 % N < N := Nat.mod_lt _ hN
          have hq : ((sel : Int) / 2) % (N : Int) = ((sel / 2 % N : Nat) : Int) := by rw [Int.natCast_emod]; rfl
          have c0 := HI.out.c0 (sel / 2 % N) hlt
          have hnl := HI.out.nml (sel / 2 % N) hlt
          obtain ⟨x, hx⟩ : ∃ x, x = sel / 2 % N := ⟨_, rfl⟩
          rw [← hx] at hq c0 hlt hnl
          have hdv : ∀ w, (Op.intDiv .rem .i64 ((sel : Int) / 2) (N : Int)).run Ybad.prog w = .ok (.int .i64 (x : Int)) w := fun w => by
            rw [Op.intDiv, if_neg (by omega)]
            show Result.ok (Value.int .i64 (((sel : Int) / 2).tmod (N : Int))) w = _
            rw [Int.tmod_eq_emod_of_nonneg (by omega), hq]
          have i0 : (0 : Int) ≤ (x : Int) := by omega
          have i1 : (x : Int) < (N : Int) := by omega
          clear hx
          go_wp2
          go_meet
          case rel => exact ⟨nm x, hnl, rfl, rfl⟩
        · go_wp2
          go_meet
          case rel => exact ⟨other, hoth, rfl, rfl⟩
      case rest =>
        obtain ⟨ask, hask, rfl, rfl⟩ := hcut
        obtain ⟨Z, hZs, hZ18, hZb⟩ := store_build
        have HZ := hid hZb
        have hmm := @run_makeMap Ybad.prog
        clear hZb
        go_wp2_with (first
          | (go_at_call 4; refine (new_any _ _).mono ?_; rintro e w' ⟨rfl, rfl⟩)
          | (refine wpl_build59 rfl _ rfl _ rfl Z HZ.out ?_))
        go_loopw [12] (fun i wr => ∃ n : Nat, n ≤ N ∧ i = .int .i64 n ∧ R2 w Z nm il dl bk id n wr) (fun i _ => N - (intOf i).toNat)
        case atStart => exact ⟨0, Nat.zero_le _, rfl, R2_start w Z nm il dl bk id _⟩
        case round =>
          obtain ⟨n, hn, rfl, hR⟩ := hrel
          obtain ⟨wo, hwo⟩ : ∃ wo, wo = wr := ⟨_, rfl⟩
          subst hwo
          have HR := hid hR
          obtain ⟨qq, mm, D, hbl, hsz, hS, hQ, hAt, hok⟩ := hR
          have Hbl := hid hbl
          have HS := hid hS
          have HQ := hid hQ
          have HAt := hid hAt
          have Hok := hid hok
          clear hS hQ hAt hok
          by_cases hlt : n < N
          · have blk : ∀ j v, w.cell? ⟨qb, qo + n * 4 + j, none⟩ = some v → wo.cell? ⟨qb, qo + n * 4 + j, none⟩ = some v := fun j v h => (hbl.cell (World.block_lt_of_cell? w _ h)).trans h
            have c0 := blk 0 _ (HI.out.c0 n hlt)
            have c1 := blk 1 _ (HI.out.c1 n hlt)
            have c2 := blk 2 _ (HI.out.c2 n hlt)
            have c3 := blk 3 _ (HI.out.c3 n hlt)
            simp only [Nat.add_zero] at c0
            have i0 : (0 : Int) ≤ (n : Int) := by omega
            have i1 : (n : Int) < (N : Int) := by omega
            clear blk hbl
            go_upto_if 83 with fail
            go_cut [] from 70 to 87 (fun wc => Mid w wo wc #[.string (nm n), .slice (ia n) (il n) (ic n), .bool (dl n), .bool (bk n)] (dl n) (bk n))
            case first =>
              go_wp2
              · go_meet
                case rel =>
                  have hbk : bk n = true := by assumption
                  rw [hbk]; exact mid_mk Hbl.out (by omega) _ _ _ _ rfl rfl rfl rfl
              · go_meet
                case rel =>
                  have hbk : bk n = false := by assumption
                  rw [hbk]; exact mid_mk Hbl.out (by omega) _ _ _ _ rfl rfl rfl rfl
            case rest =>
              have HM := hid hcut
              have msz := hcut.2.1
              clear hcut
              go_wp2
              go_loopw [15] (fun i v => ∃ j : Nat, j ≤ il n ∧ i = .int .i64 j ∧ R3 w wo wc (id n) j v) (fun i _ => il n - (intOf i).toNat)
              case atStart => exact ⟨0, Nat.zero_le _, rfl, fun b hb hne => rfl, HM.out.2.2.2.2.1, HM.out.2.2.1, by omega⟩
              case round =>
                obtain ⟨j, hj, rfl, h3⟩ := hrel
                have H3 := hid h3
                obtain ⟨h3a, h3b, h3c, h3d⟩ := h3
                have hz0 : wr.heap[wo.heap.size]? = some (.cells #[.string (nm n), .slice (ia n) (il n) (ic n), .bool (dl n), .bool (bk n)] 25 (0, 0)) := (h3a _ (by omega) (by omega)).trans HM.out.2.2.2.1
                obtain ⟨C, mq, q2, q4, q5, q6⟩ := HM.out.2.2.2.2.2
                have hq0 : wr.heap[wo.heap.size + 1 + 1]? = some (.cells C 68 (0, 0)) := (h3a _ (by omega) (by omega)).trans mq
                have cz1 : wr.cell? ⟨wo.heap.size, 1, none⟩ = some (.slice (ia n) (il n) (ic n)) := by rw [cell_of_row wr _ 1 _ _ _ hz0]; rfl
                have cz0 : wr.cell? ⟨wo.heap.size, 0, none⟩ = some (.string (nm n)) := by rw [cell_of_row wr _ 0 _ _ _ hz0]; rfl
                have cq6 : wr.cell? ⟨wo.heap.size + 1 + 1, 6, none⟩ = some (.map (some (wo.heap.size + 1))) := by rw [cell_of_row wr _ 6 _ _ _ hq0, q6]
                have hilm := HI.out.ilm n hlt
                by_cases hjl : j < il n
                · obtain ⟨ib, io, hia, hids⟩ := HI.out.ids n hlt (by omega)
                  rw [hia] at cz1
                  have cid : wr.cell? ⟨ib, io + j, none⟩ = some (.string (id n j)) := (h3c.cell (World.block_lt_of_cell? w _ (hids j hjl))).trans (hids j hjl)
                  have HK := hid (keyOf_string_mk Ybad.underlying9 (HI.out.idl n hlt j hjl))
                  have HO := hid h3b
                  have j0 : (0 : Int) ≤ (j : Int) := by omega
                  have j1 : (j : Int) < (il n : Int) := by omega
                  clear h3a h3b h3c hz0 mq q2 q4 q5 q6 hq0 hids hia
                  go_wp2_with (at_mapUpdate; refine wpList_mapUpdate_own _ rfl _ _ _ 61 rfl 9 69 law9 Ybad.underlying61 Rm (wo.heap.size + 1) j _ rfl (HO.out.alloc _) (by unfold maxLen; omega) _ _ _ rfl rfl HK.out .nil [] rfl ?_; intro w4 hown4 hg4)
                  exact ⟨⟨j + 1, by omega, by go_num, H3.out.step (by omega) _ hown4 hg4⟩, by simp [intOf]; omega⟩
                · obtain rfl : j = il n := by omega
                  have hSr := (h3a (w.heap.size + 1 + 1) (by omega) (by omega)).trans ((HM.out.1 (w.heap.size + 1 + 1) (by omega)).trans HS.out)
                  have cS : wr.cell? ⟨w.heap.size + 1 + 1, 8220, none⟩ = some (.map (some (w.heap.size + 1))) := by
                    rw [cell_of_row wr _ 8220 _ _ _ hSr, Array.getElem?_setIfInBounds_self_of_lt (by omega)]
                  have hQr := ownsMap_of (w' := wr.drew) HQ.out ((h3a (w.heap.size + 1) (by omega) (by omega)).trans (HM.out.1 (w.heap.size + 1) (by omega)))
                  obtain ⟨w5, hrun, hown5, hg5⟩ := hQr.update law9 Ybad.underlying30 (by unfold maxLen; omega) (keyOf_string_mk Ybad.underlying9 (HI.out.nml n hlt)) (show Rq (.pointer (some ⟨wo.heap.size + 1 + 1, 0, none⟩)) = some (.held (.pointer (some ⟨wo.heap.size + 1 + 1, 0, none⟩)), []) from rfl)
                  have c5a : w5.cell? ⟨w.heap.size + 1 + 1, 8220, none⟩ = some (.map (some (w.heap.size + 1))) := (World.cell?_of_block (hg5.block (w.heap.size + 1 + 1) (by show _ < wr.heap.size; omega) (by simp))).trans cS
                  have c5b : w5.cell? ⟨wo.heap.size, 0, none⟩ = some (.string (nm n)) := (World.cell?_of_block (hg5.block wo.heap.size (by show _ < wr.heap.size; omega) (by simp; omega))).trans cz0
                  have H5 := hid hown5
                  have G5 := hid hg5
                  clear h3a h3b h3c hz0 mq q2 q4 q5 q6 hq0 hQr hSr hown5 hg5
                  go_wp2
                  go_region_held3 (fun w' => w'.cell? ⟨w.heap.size + 1 + 1, 8220, none⟩ = some (.map (some (w.heap.size + 1))) ∧ w'.cell? ⟨wo.heap.size, 0, none⟩ = some (.string (nm n))) (first | (simp [cS, cz0]; done) | exact ⟨c5a, c5b⟩) (fail)
                  go_wp2
                  exact ⟨⟨n + 1, by omega, by go_num, R2_step hsz HS.out HQ.out.isMap HAt.out Hok.out HM.out H3.out H5.out G5.out⟩, by simp [intOf]; omega⟩
          · obtain rfl : N = n := by omega
            clear hlt hn hbl
            go_upto_region 28 with fail
            go_cut [17, 18] from 64 to 120 (fun nv ev wc => Below w.heap.size w wc ∧ nv = .int .i64 (resN il dl bk id (lastI nm ask N)) ∧ ev = resE pe w.heap.size dl bk (lastI nm ask N))
            case first =>
              have HL := hid (len_any (ask := ask) hask hZs hZ18 HG.out HR.out)
              go_wp2_with (go_at_call 5; refine HL.out.mono ?_; rintro e w' ⟨rfl, hb'⟩)
              go_meet
              case rel => exact ⟨hb', rfl, rfl⟩
            case rest =>
              obtain ⟨hbc, rfl, rfl⟩ := hcut
              have l0 : 0 < w.heap.size := by have := World.block_lt_of_cell? w _ HG.out; simpa using this
              have hGc : wc.cell? ⟨0, 0, none⟩ = some (.iface 79 (.pointer (some pe))) := (hbc.cell (p := ⟨0, 0, none⟩) l0).trans HG.out
              have HBC := hid hbc
              have HGC := hid hGc
              have HK : Hid (∀ i j v, w.cell? ⟨qb, qo + i * 4 + j, none⟩ = some v → wc.cell? ⟨qb, qo + i * 4 + j, none⟩ = some v) := fun i j v h => (hbc.cell (World.block_lt_of_cell? w _ h)).trans h
              clear hbc hGc
              go_wp2
              go_loop [19, 20] (fun la i => ∃ k : Nat, k ≤ N ∧ i = .int .i64 k ∧ la = .int .i64 (lastV (lastI nm ask k))) (fun _ i => N - (intOf i).toNat)
              case atStart => exact ⟨0, Nat.zero_le _, rfl, rfl⟩
              case round =>
                obtain ⟨k, hk, rfl, rfl⟩ := hrel
                by_cases hkl : k < N
                · have c0 := HK.out k 0 _ (HI.out.c0 k hkl)
                  simp only [Nat.add_zero] at c0
                  have i0 : (0 : Int) ≤ (k : Int) := by omega
                  have i1 : (k : Int) < (N : Int) := by omega
                  by_cases he : nm k = ask
                  · have HE := hid he
                    rw [he] at c0
                    clear he
                    go_wp2
                    exact ⟨⟨k + 1, by omega, by go_num, by simp [lastI, lastV, HE.out]⟩, by simp [intOf]; omega⟩
                  · have hne := toList_ne he
                    have HE := hid he
                    clear he
                    go_wp2
                    exact ⟨⟨k + 1, by omega, by go_num, by simp [lastI, HE.out]⟩, by simp [intOf]; omega⟩
                · obtain rfl : N = k := by omega
                  have hGc := HGC.out
                  cases hl : lastI nm ask N with
                  | none =>
                    have hq := same_err pe
                    simp only [lastV, resN, resE]
                    go_wp2
                    go_ret
                    exact ⟨rfl, HBC.out⟩
                  | some l =>
                    obtain ⟨hll, hlx⟩ := lastI_lt hl
                    clear hl hlx
                    have c0 := HK.out l 0 _ (HI.out.c0 l hll)
                    have c1 := HK.out l 1 _ (HI.out.c1 l hll)
                    have c2 := HK.out l 2 _ (HI.out.c2 l hll)
                    have c3 := HK.out l 3 _ (HI.out.c3 l hll)
                    simp only [Nat.add_zero] at c0
                    have i0 : (0 : Int) ≤ (l : Int) := by omega
                    have i1 : (l : Int) < (N : Int) := by omega
                    have lw : 0 < wc.heap.size := by have := World.block_lt_of_cell? wc _ HGC.out; simpa using this
                    have hsz : w.heap.size ≤ wc.heap.size := HBC.out.size
                    cases hd : dl l with
                    | true =>
                      rw [hd] at c2
                      have hq := same_err pe
                      have hGa : ∀ o : Obj, (wc.alloc o).cell? ⟨0, 0, none⟩ = some (.iface 79 (.pointer (some pe))) := fun o => (World.cell?_alloc_lt wc o ⟨0, 0, none⟩ lw).trans HGC.out
                      simp only [lastV, resN, resE, hd, Bool.true_or, if_true]
                      go_wp2
                      go_ret
                      exact ⟨rfl, HBC.out.alloc hsz _⟩
                    | false =>
                      rw [hd] at c2
                      cases hb : bk l with
                      | true =>
                        rw [hb] at c3
                        have hq := same_err ⟨w.heap.size, 0, none⟩
                        simp only [lastV, resN, resE, hd, hb, Bool.or_true, if_true]
                        go_wp2
                        go_ret
                        exact ⟨rfl, HBC.out.alloc hsz _⟩
                      | false =>
                        rw [hb] at c3
                        have hlb : il l ≤ 4096 := Nat.le_trans (il_le_tot il hll) HTot.out
                        simp only [lastV, resN, resE, hd, hb, Bool.or_false, Bool.false_eq_true, if_false]
                        have hids : ∀ o : Obj, 0 < il l → ∃ b p, ia l = some ⟨b, p, none⟩ ∧ ∀ j, j < il l → (wc.alloc o).cell? ⟨b, p + j, none⟩ = some (.string (id l j)) := fun o h0 => by
                          obtain ⟨ib, io, hia, hc⟩ := HI.out.ids l hll h0
                          refine ⟨ib, io, hia, fun j hj => ?_⟩
                          have hb0 := World.block_lt_of_cell? w _ (hc j hj)
                          exact (World.cell?_alloc_lt wc o ⟨ib, io + j, none⟩ (Nat.lt_of_lt_of_le hb0 hsz)).trans ((HBC.out.cell hb0).trans (hc j hj))
                        have HD := hid hids
                        have hq : ∀ w, (binOp .eql 27 .nilIface .nilIface).run Ybad.prog w = .ok (.bool true) w := fun w => run_eql_nil_nil w 27 Ybad.underlying27
                        clear hids
                        go_wp2_with (go_at_call 6; refine (distinct_any (ia l) (il l) (ic l) (id l) _ hlb (HD.out _)).mono ?_; rintro e w' ⟨rfl, m, rfl⟩)
                        go_ret
                        exact ⟨rfl, below_drewN' (HBC.out.alloc hsz _) m⟩

set_option maxRecDepth 100000 in
set_option maxHeartbeats 4000000 in
theorem law_big (a : Option Addr) (N cap : Nat) (sel : Nat) (other : ByteArray) (w : World) (hN3 : 300 < N) :
    Calls Ybad.prog 3 #[.slice a N cap, .int .u8 sel, .string other] w fun e w' => e = .returned (.bool true) ∧ Below w.heap.size w w' := by
  go_enter Ybad.func3, Ybad.ntmps3
  go_wp2
  go_ret
  exact ⟨rfl, Below.refl _ _⟩

set_option maxRecDepth 100000 in
set_option maxHeartbeats 4000000 in
theorem law_zero (a : Option Addr) (cap : Nat) (sel : Nat) (other : ByteArray) (pe : Addr) (w : World)
    (hsel : sel < 256) (hoth : other.size ≤ maxLen) (hG : w.cell? ⟨0, 0, none⟩ = some (.iface 79 (.pointer (some pe)))) :
    Calls Ybad.prog 3 #[.slice a 0 cap, .int .u8 sel, .string other] w fun e w' => e = .returned (.bool true) ∧ Below w.heap.size w w' := by
  have HG := hid hG
  clear hG
  obtain ⟨Z, hZs, hZ18, hZb⟩ := store_build
  have HZ := hid hZb
  have hmm := @run_makeMap Ybad.prog
  clear hZb
  go_enter Ybad.func3, Ybad.ntmps3
  go_wp2
  go_loop [7, 8] (fun t i => t = .int .i64 0 ∧ i = .int .i64 0) (fun _ i => 0 - (intOf i).toNat)
  case atStart => exact ⟨rfl, rfl⟩
  case round =>
    obtain ⟨rfl, rfl⟩ := hrel
    go_upto_if 49 with fail
    go_cut [9] from 42 to 59 (fun v wc => v = .string other ∧ w = wc)
    case first =>
      go_wp2
      go_meet
      case rel => exact ⟨rfl, rfl⟩
    case rest =>
      obtain ⟨rfl, rfl⟩ := hcut
      go_wp2_with (first
        | (go_at_call 4; refine (new_any _ _).mono ?_; rintro e w' ⟨rfl, rfl⟩)
        | (refine wpl_build59 rfl _ rfl _ rfl Z HZ.out ?_))
      go_loopw [12] (fun i wr => i = .int .i64 0 ∧ R2 w Z (fun _ => other) (fun _ => 0) (fun _ => false) (fun _ => false) (fun _ _ => other) 0 wr) (fun i _ => 0 - (intOf i).toNat)
      case atStart => exact ⟨rfl, R2_start w Z _ _ _ _ _ _⟩
      case round =>
        obtain ⟨rfl, hR⟩ := hrel
        have HR := hid hR
        clear hR
        go_upto_region 28 with fail
        go_cut [17, 18] from 64 to 120 (fun nv ev wc => Below w.heap.size w wc ∧ nv = .int .i64 0 ∧ ev = .iface 79 (.pointer (some pe)))
        case first =>
          have HL := hid (len_any (ask := other) hoth hZs hZ18 HG.out HR.out)
          go_wp2_with (go_at_call 5; refine HL.out.mono ?_; rintro e w' ⟨rfl, hb'⟩)
          go_meet
          case rel => exact ⟨hb', rfl, rfl⟩
        case rest =>
          obtain ⟨hbc, rfl, rfl⟩ := hcut
          have l0 : 0 < w.heap.size := by have := World.block_lt_of_cell? w _ HG.out; simpa using this
          have hGc : wc.cell? ⟨0, 0, none⟩ = some (.iface 79 (.pointer (some pe))) := (hbc.cell (p := ⟨0, 0, none⟩) l0).trans HG.out
          have HBC := hid hbc
          clear hbc
          go_wp2
          go_loop [19, 20] (fun la i => i = .int .i64 0 ∧ la = .int .i64 (-1)) (fun _ i => 0 - (intOf i).toNat)
          case atStart => exact ⟨rfl, rfl⟩
          case round =>
            obtain ⟨rfl, rfl⟩ := hrel
            have hq := same_err pe
            go_wp2
            go_ret
            exact ⟨rfl, HBC.out⟩
end Go.Proofs.YbulkrhaDoor
