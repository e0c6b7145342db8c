import Derived.Test.YbulkrhaDoorQueue
import Derived.Test.YbulkrhaDoorDistinct
import Derived.Test.YbulkrhaDoorStore
import Derived.Deep.CutRange
import Derived.Laws.Rows
namespace Go.Proofs.YbulkrhaDoor
open Go.RowKit Go.Maps Go.WideMaps
set_option linter.unusedVariables false
attribute [local go_sem ↓] Go.wp_at_zero Go.wp_at_succ

/-- What the walk is told of the queues that came in. -/
structure In (w : World) (qb qo N : Nat) (nm : Nat → ByteArray) (ia : Nat → Option Addr) (il ic : Nat → Nat) (dl bk : Nat → Bool) (id : Nat → Nat → ByteArray) : Prop where
  c0 : ∀ i, i < N → w.cell? ⟨qb, qo + i * 4, none⟩ = some (.string (nm i))
  c1 : ∀ i, i < N → w.cell? ⟨qb, qo + i * 4 + 1, none⟩ = some (.slice (ia i) (il i) (ic i))
  c2 : ∀ i, i < N → w.cell? ⟨qb, qo + i * 4 + 2, none⟩ = some (.bool (dl i))
  c3 : ∀ i, i < N → w.cell? ⟨qb, qo + i * 4 + 3, none⟩ = some (.bool (bk i))
  ids : ∀ i, i < N → 0 < il i → ∃ b o, ia i = some ⟨b, o, none⟩ ∧ ∀ j, j < il i → w.cell? ⟨b, o + j, none⟩ = some (.string (id i j))
  nml : ∀ i, i < N → (nm i).size ≤ maxLen
  idl : ∀ i, i < N → ∀ j, j < il i → (id i j).size ≤ maxLen
  ilm : ∀ i, i < N → il i ≤ 140737488355328

theorem new_any (s : ByteArray) (w : World) :
    Calls Ybad.prog 4 #[.string s] w fun e w' => e = .returned (.iface 79 (.pointer (some ⟨w.heap.size, 0, none⟩))) ∧ w' = w.alloc (.cells #[.string s] 81) := by
  go_enter Ybad.func4, Ybad.ntmps4
  go_wp2
  go_ret
  exact ⟨rfl, rfl⟩

theorem wpl_build59 {w : World} {ops : Array Oper} {rest : List Oper} {op : Oper} {a : Act} {Q : Exit → Act → World → Prop} (hgd : op.guard = none) (x : Operand) (ho : op.op = .build 59 #[(9, x)]) (m : Option Nat) (hx : a.eval x = .map m) (Z : Array Value)
    (hb : ∀ m w, (Instr.build 59 #[(9, .map m)]).run Ybad.prog w = .ok (.agg (Z.setIfInBounds 8220 (.map m))) w) (h : wpList Ybad.prog ops Q rest (a.put op.dst (.agg (Z.setIfInBounds 8220 (.map m)))) w) : wpList Ybad.prog ops Q (op :: rest) a w :=
  wpList_plain hgd fun K hK => by
    unfold Oper.wp execOp
    simp [ho, hx, hb]
    exact hK _ _ h

/-- A queue that the law has laid: its cells, and its messages as a set. -/
def QOK (wr : World) (B q mb : Nat) (dli bki : Bool) (idi : Nat → ByteArray) (ili : Nat) : Prop :=
  (∃ C : Array Value, wr.heap[q]? = some (.cells C 68 (0, 0)) ∧ C[2]? = some (.int .i32 0) ∧ C[4]? = some (.bool dli) ∧ C[5]? = some (if bki then .iface 79 (.pointer (some ⟨B, 0, none⟩)) else .nilIface) ∧ C[6]? = some (.map (some mb))) ∧
  wr.ownsMap Ybad.prog 9 Rm mb ili (Dm idi ili) ∧ B + 1 + 1 + 1 ≤ q ∧ B + 1 + 1 + 1 ≤ mb ∧ mb ≠ q
theorem ownsMap_of {H : Type} {P : Program} {k b n : Nat} {R : Value → Option (DataW H × List MemPlace)} {D : DataW H} {w w' : World} (h : w.ownsMap P k R b n D) (e : w'.heap[b]? = w.heap[b]?) : w'.ownsMap P k R b n D := by
  obtain ⟨es, clock, hb, F, hs, hD⟩ := h
  exact ⟨es, clock, e.trans hb, F, hs, hD⟩
theorem QOK.of {wr wr' : World} {B q mb : Nat} {dli bki : Bool} {idi : Nat → ByteArray} {ili : Nat} (h : QOK wr B q mb dli bki idi ili) (e1 : wr'.heap[q]? = wr.heap[q]?) (e2 : wr'.heap[mb]? = wr.heap[mb]?) : QOK wr' B q mb dli bki idi ili := by
  obtain ⟨⟨C, hC, h2⟩, hm, h3⟩ := h
  exact ⟨⟨C, e1.trans hC, h2⟩, ownsMap_of hm e2, h3⟩
theorem QOK.lt {wr : World} {B q mb : Nat} {dli bki : Bool} {idi : Nat → ByteArray} {ili : Nat} (h : QOK wr B q mb dli bki idi ili) : q < wr.heap.size ∧ mb < wr.heap.size := by
  obtain ⟨⟨C, hC, _⟩, hm, _⟩ := h
  exact ⟨(Array.getElem?_eq_some_iff.1 hC).1, hm.lt⟩

/-- Loop 2: n queues have been laid. -/
def R2 (w : World) (Z : Array Value) (nm : Nat → ByteArray) (il : Nat → Nat) (dl bk : Nat → Bool) (id : Nat → Nat → ByteArray) (n : Nat) (wr : World) : Prop :=
  ∃ (qb mb : Nat → Nat) (D : DataW Value), Below w.heap.size w wr ∧ w.heap.size + 3 ≤ wr.heap.size ∧
    wr.heap[w.heap.size + 1 + 1]? = some (.cells (Z.setIfInBounds 8220 (.map (some (w.heap.size + 1)))) 59 (0, 0)) ∧
    wr.ownsMap Ybad.prog 9 Rq (w.heap.size + 1) n D ∧ HoldsAt D nm qb n ∧ ∀ i, i < n → QOK wr w.heap.size (qb i) (mb i) (dl i) (bk i) (id i) (il i)
theorem R2_start (w : World) (Z : Array Value) (nm : Nat → ByteArray) (il : Nat → Nat) (dl bk : Nat → Bool) (id : Nat → Nat → ByteArray) (E : Array Value) :
    R2 w Z nm il dl bk id 0 (((w.alloc (.cells E 81)).alloc (.map #[] 0)).alloc (.cells (Z.setIfInBounds 8220 (.map (some (w.heap.size + 1)))) 59)) := by
  have e1 : (w.alloc (.cells E 81)).heap.size = w.heap.size + 1 := by simp
  have e2 : ((w.alloc (.cells E 81)).alloc (.map #[] 0)).heap.size = w.heap.size + 1 + 1 := by simp
  refine ⟨fun _ => 0, fun _ => 0, .map [], (((Below.refl _ _).alloc (Nat.le_refl _) _).alloc (by omega) _).alloc (by omega) _, by simp, ?_, ?_, holdsAt_zero _ _, fun i hi => absurd hi (by omega)⟩
  · have := heap_alloc_new ((w.alloc (.cells E 81)).alloc (.map #[] 0)) (.cells (Z.setIfInBounds 8220 (.map (some (w.heap.size + 1)))) 59)
    rwa [e2] at this
  · have := (World.ownsMap_made (w.alloc (.cells E 81)) Ybad.prog 9 Rq).alloc (.cells (Z.setIfInBounds 8220 (.map (some (w.heap.size + 1)))) 59)
    rwa [e1] at this

/-- Within a round of loop 2, ahead of loop 3: the copy of the record, the new map and the new queue have been laid. -/
def Mid (w wr wc : World) (zc : Array Value) (dli bki : Bool) : Prop :=
  (∀ b, b < wr.heap.size → wc.heap[b]? = wr.heap[b]?) ∧ wc.heap.size = wr.heap.size + 3 ∧ Below w.heap.size w wc ∧ wc.heap[wr.heap.size]? = some (.cells zc 25 (0, 0)) ∧ wc.ownsMap Ybad.prog 9 Rm (wr.heap.size + 1) 0 (.map []) ∧
  ∃ C : Array Value, wc.heap[wr.heap.size + 1 + 1]? = some (.cells C 68 (0, 0)) ∧ C[2]? = some (.int .i32 0) ∧ C[4]? = some (.bool dli) ∧ C[5]? = some (if bki then .iface 79 (.pointer (some ⟨w.heap.size, 0, none⟩)) else .nilIface) ∧ C[6]? = some (.map (some (wr.heap.size + 1)))
theorem heap_atD (w : World) (o : Obj) (i : Nat) : (w.alloc o).heap[i]? = if i = w.heap.size then some o else w.heap[i]? := by
  show (w.heap.push o)[i]? = _
  rw [Array.getElem?_push]
theorem mid_mk {w wr : World} (hbl : Below w.heap.size w wr) (hsz : w.heap.size ≤ wr.heap.size) (zc C : Array Value) (dli bki : Bool) (h2 : C[2]? = some (.int .i32 0)) (h4 : C[4]? = some (.bool dli)) (h5 : C[5]? = some (if bki then .iface 79 (.pointer (some ⟨w.heap.size, 0, none⟩)) else .nilIface)) (h6 : C[6]? = some (.map (some (wr.heap.size + 1)))) :
    Mid w wr (((wr.alloc (.cells zc 25)).alloc (.map #[] 0)).alloc (.cells C 68)) zc dli bki := by
  have e1 : (wr.alloc (.cells zc 25)).heap.size = wr.heap.size + 1 := by simp
  have e2 : ((wr.alloc (.cells zc 25)).alloc (.map #[] 0)).heap.size = wr.heap.size + 1 + 1 := by simp
  refine ⟨fun b hb => ?_, by simp, ((hbl.alloc hsz _).alloc (by omega) _).alloc (by omega) _, ?_, ?_, C, ?_, h2, h4, h5, h6⟩
  · rw [heap_atD, e2, if_neg (by omega), heap_atD, e1, if_neg (by omega), heap_atD, if_neg (by omega)]
  · rw [heap_atD, e2, if_neg (by omega), heap_atD, e1, if_neg (by omega), heap_atD, if_pos rfl]
  · have := (World.ownsMap_made (wr.alloc (.cells zc 25)) Ybad.prog 9 Rm).alloc (.cells C 68)
    rwa [e1] at this
  · rw [heap_atD, e2, if_pos rfl]

/-- Loop 3: j messages have been put. -/
def R3 (w wo wc : World) (idn : Nat → ByteArray) (j : Nat) (v : World) : Prop :=
  (∀ b, b < wo.heap.size + 3 → b ≠ wo.heap.size + 1 → v.heap[b]? = wc.heap[b]?) ∧ v.ownsMap Ybad.prog 9 Rm (wo.heap.size + 1) j (Dm idn j) ∧ Below w.heap.size w v ∧ wo.heap.size + 3 ≤ v.heap.size
theorem R3.step {w wo wc v v' : World} {idn : Nat → ByteArray} {j : Nat} (h : R3 w wo wc idn j v) (hsz : w.heap.size ≤ wo.heap.size) (o : Obj) (ho : v'.ownsMap Ybad.prog 9 Rm (wo.heap.size + 1) (j + 1) ((Dm idn j).put (keyL (idn j)) .nil)) (hg : (v.alloc o).grownBy v' (some (wo.heap.size + 1))) :
    R3 w wo wc idn (j + 1) v' := by
  obtain ⟨h1, h2, h3, h4⟩ := h
  have e : (v.alloc o).heap.size = v.heap.size + 1 := by simp
  refine ⟨fun b hb hne => ?_, ho, (h3.alloc (by omega) o).grown hg (by omega) (fun k hk => by cases hk; omega), Nat.le_trans (by omega) hg.size⟩
  rw [hg.block b (by omega) (fun e => hne (Option.some.inj e)), heap_alloc_old v o (by omega), h1 b hb hne]

theorem R2_step {w wo wc wr w5 : World} {Z zc : Array Value} {nm : Nat → ByteArray} {il : Nat → Nat} {dl bk : Nat → Bool} {id : Nat → Nat → ByteArray} {n : Nat} {qq mm : Nat → Nat} {D : DataW Value}
    (hsz : w.heap.size + 3 ≤ wo.heap.size) (hS : wo.heap[w.heap.size + 1 + 1]? = some (.cells (Z.setIfInBounds 8220 (.map (some (w.heap.size + 1)))) 59 (0, 0))) (hD : IsMap D) (hAt : HoldsAt D nm qq n) (hok : ∀ i, i < n → QOK wo w.heap.size (qq i) (mm i) (dl i) (bk i) (id i) (il i))
    (hM : Mid w wo wc zc (dl n) (bk n)) (h3 : R3 w wo wc (id n) (il n) wr) (hown : w5.ownsMap Ybad.prog 9 Rq (w.heap.size + 1) (n + 1) (D.put (keyL (nm n)) (.held (.pointer (some ⟨wo.heap.size + 1 + 1, 0, none⟩))))) (hg : wr.drew.grownBy w5 (some (w.heap.size + 1))) :
    R2 w Z nm il dl bk id (n + 1) w5 := by
  obtain ⟨m1, m2, m3, m4, m5, C, m6, q2, q4, q5, q6⟩ := hM
  obtain ⟨t1, t2, t3, t4⟩ := h3
  have gz : wr.heap.size ≤ w5.heap.size := hg.size
  have keep : ∀ b, b < wr.heap.size → b ≠ w.heap.size + 1 → w5.heap[b]? = wr.heap[b]? := fun b hb hne => hg.block b hb (fun e => hne (Option.some.inj e))
  have old : ∀ b, b < wo.heap.size → b ≠ w.heap.size + 1 → w5.heap[b]? = wo.heap[b]? := fun b hb hne => (keep b (by omega) hne).trans ((t1 b (by omega) (by omega)).trans (m1 b hb))
  refine ⟨fun i => if i = n then wo.heap.size + 1 + 1 else qq i, fun i => if i = n then wo.heap.size + 1 else mm i, _, ?_, by omega, (old _ (by omega) (by omega)).trans hS, hown, ?_, fun i hi => ?_⟩
  · exact (t3.drew).grown hg (by show w.heap.size ≤ wr.heap.size; omega) (fun k hk => by cases hk; omega)
  · have := hAt.step (qb' := fun i => if i = n then wo.heap.size + 1 + 1 else qq i) hD (fun i hi => if_neg (by omega))
    simpa using this
  · by_cases e : i = n
    · subst e
      simp only [if_true]
      exact ⟨⟨C, (keep _ (by omega) (by omega)).trans ((t1 _ (by omega) (by omega)).trans m6), q2, q4, q5, q6⟩, ownsMap_of t2 (keep _ (by omega) (by omega)), by omega, by omega, by omega⟩
    · simp only [if_neg e]
      have hi' : i < n := by omega
      obtain ⟨l1, l2⟩ := (hok i hi').lt
      have hb := (hok i hi').2.2
      exact (hok i hi').of (old _ l1 (by omega)) (old _ l2 (by omega))

/-- What QueueLength answers. -/
def resN (il : Nat → Nat) (dl bk : Nat → Bool) (id : Nat → Nat → ByteArray) : Option Nat → Int
  | none => 0
  | some l => if dl l || bk l then 0 else dcount (id l) (il l)
def resE (pe : Addr) (B : Nat) (dl bk : Nat → Bool) : Option Nat → Value
  | none => .iface 79 (.pointer (some pe))
  | some l => if dl l then .iface 79 (.pointer (some pe)) else if bk l then .iface 79 (.pointer (some ⟨B, 0, none⟩)) else .nilIface
def lastV : Option Nat → Int
  | none => -1
  | some l => l

theorem len_any {w wo : World} {Z : Array Value} {nm : Nat → ByteArray} {il : Nat → Nat} {dl bk : Nat → Bool} {id : Nat → Nat → ByteArray} {N : Nat} {pe : Addr} {ask : ByteArray} (hask : ask.size ≤ maxLen) (hZs : Z.size = 8224) (hZ : Z[8218]? = some (.int .i32 0))
    (hG : w.cell? ⟨0, 0, none⟩ = some (.iface 79 (.pointer (some pe)))) (hR : R2 w Z nm il dl bk id N wo) :
    Calls Ybad.prog 5 #[.pointer (some ⟨w.heap.size + 1 + 1, 0, none⟩), .string ask] wo fun e w' =>
      e = .returned (.tuple #[.int .i64 (resN il dl bk id (lastI nm ask N)), resE pe w.heap.size dl bk (lastI nm ask N)]) ∧ Below w.heap.size w w' := by
  obtain ⟨qq, mm, D, hbl, hsz, hS, hQ, hAt, hok⟩ := hR
  have l0 : 0 < w.heap.size := by have := World.block_lt_of_cell? w _ hG; simpa using this
  have hG' : wo.cell? ⟨0, 0, none⟩ = some (.iface 79 (.pointer (some pe))) := (hbl.cell (p := ⟨0, 0, none⟩) l0).trans hG
  have c18 : wo.cell? ⟨w.heap.size + 1 + 1, 8218, none⟩ = some (.int .i32 0) := by rw [cell_of_row wo _ _ _ _ _ hS, Array.getElem?_setIfInBounds_ne (by omega)]; exact hZ
  have c20 : wo.cell? ⟨w.heap.size + 1 + 1, 8220, none⟩ = some (.map (some (w.heap.size + 1))) := by rw [cell_of_row wo _ _ _ _ _ hS, Array.getElem?_setIfInBounds_self_of_lt (by omega)]
  have f18 : wo.frozen? ⟨w.heap.size + 1 + 1, 8218, none⟩ = false := by simp [World.frozen?, hS]
  have hat := hAt ask
  cases hl : lastI nm ask N with
  | none =>
    rw [hl] at hat
    exact (length_miss w.heap.size _ _ N 79 (.pointer (some pe)) D ask hask wo hG' (by omega) (by omega) c18 c20 f18 (by omega) hQ hat).mono fun e w' ⟨he, hb⟩ => ⟨he, hbl.trans hb⟩
  | some l =>
    rw [hl] at hat
    obtain ⟨⟨C, hC, q2, q4, q5, q6⟩, hm, b1, b2, b3⟩ := hok l (lastI_lt hl).1
    have k2 : wo.cell? ⟨qq l, 2, none⟩ = some (.int .i32 0) := by rw [cell_of_row wo _ _ _ _ _ hC, q2]
    have k4 : wo.cell? ⟨qq l, 4, none⟩ = some (.bool (dl l)) := by rw [cell_of_row wo _ _ _ _ _ hC, q4]
    have k5 := (cell_of_row wo (qq l) 5 _ _ _ hC).trans q5
    have k6 : wo.cell? ⟨qq l, 6, none⟩ = some (.map (some (mm l))) := by rw [cell_of_row wo _ _ _ _ _ hC, q6]
    have g2 : wo.frozen? ⟨qq l, 2, none⟩ = false := by simp [World.frozen?, hC]
    have ne4 : (⟨qq l, 4, none⟩ : Addr) ≠ ⟨w.heap.size + 1 + 1, 8218, none⟩ := by intro e; have := congrArg Addr.off e; simp at this
    have ne5 : (⟨qq l, 5, none⟩ : Addr) ≠ ⟨w.heap.size + 1 + 1, 8218, none⟩ := by intro e; have := congrArg Addr.off e; simp at this
    have ne4' : (⟨qq l, 4, none⟩ : Addr) ≠ ⟨qq l, 2, none⟩ := by simp
    have ne5' : (⟨qq l, 5, none⟩ : Addr) ≠ ⟨qq l, 2, none⟩ := by simp
    have ne0 : (⟨0, 0, none⟩ : Addr) ≠ ⟨w.heap.size + 1 + 1, 8218, none⟩ := by simp
    have ne0' : (⟨0, 0, none⟩ : Addr) ≠ ⟨qq l, 2, none⟩ := by simp
    cases hd : dl l with
    | true =>
      rw [hd] at k4
      refine (length_err w.heap.size _ _ N (qq l) 79 (.pointer (some pe)) D ask hask wo (by omega) (by omega) (by omega) c18 c20 f18 (by omega) hQ hat k2 g2 (fun w' hk => usable_del (qq l) _ w' ((hk _ ne0 ne0').trans hG') ((hk _ ne4 ne4').trans k4))).mono fun e w' ⟨he, hb⟩ => ⟨?_, hbl.trans hb⟩
      rw [he]; simp [resN, resE, hd]
    | false =>
      rw [hd] at k4
      cases hb : bk l with
      | true =>
        rw [hb] at k5
        refine (length_err w.heap.size _ _ N (qq l) 79 (.pointer (some ⟨w.heap.size, 0, none⟩)) D ask hask wo (by omega) (by omega) (by omega) c18 c20 f18 (by omega) hQ hat k2 g2 (fun w' hk => usable_live (qq l) _ w' ((hk _ ne4 ne4').trans k4) ((hk _ ne5 ne5').trans k5))).mono fun e w' ⟨he, hb'⟩ => ⟨?_, hbl.trans hb'⟩
        rw [he]; simp [resN, resE, hd, hb]
      | false =>
        rw [hb] at k5
        refine (length_ok w.heap.size _ _ N (qq l) (mm l) (il l) D (Dm (id l) (il l)) ask hask wo (by omega) (by omega) (by omega) c18 c20 f18 (by omega) hQ hat k2 g2 k4 k5 k6 (by omega) (by omega) hm).mono fun e w' ⟨he, hb'⟩ => ⟨?_, hbl.trans hb'⟩
        rw [he, Dm_size]; simp [resN, resE, hd, hb]

end Go.Proofs.YbulkrhaDoor
