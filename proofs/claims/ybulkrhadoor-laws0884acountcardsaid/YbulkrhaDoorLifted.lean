import Derived.Test.YbulkrhaDoorRows
import Derived.Test.YbulkrhaDoorLaw
import Derived.Test.YbulkrhaDoorOpen
import Derived.ProofKit
import Derived.OpenShut
import Derived.ShutString
import Derived.Below
import Derived.LaidLaws
import Derived.LaidHandle
import Derived.MakeChecks
import Derived.Stop.LaidErr
import Derived.Stop.Joined
namespace Go.Proofs.YbulkrhaDoor
open Go.ChangeShapes Go.WideShapes Go.ChangeAt Go.RowKit
open Go.ChangeMaps (open_string shut_string)
set_option linter.unusedVariables false

theorem own : ownKnob Ybad.prog.godebug = none := by kernel_rfl
theorem laidOut : laidOutB Ybad.prog = true := by kernel_rfl
theorem gE : Ybad.prog.globalNamed "example.com/stanchion/stanchion/internal/store.ErrQueueNotFound" = some 0 := by kernel_rfl
theorem gEType : (Ybad.prog.globals[0]?).map (·.type) = some 27 := by kernel_rfl
theorem cells81 : Ybad.prog.cellsOf 81 = 1 := by kernel_rfl
theorem star : "*" ++ "errors.errorString" = "*errors.errorString" := by decide
theorem row79 (u : TypeId) (h : Ybad.prog.typeName? 3 u = some "*errors.errorString") : u = 79 :=
  typeName_ptr_named (nm := "errors.errorString") (by rw [star]; kernel_rfl) (by kernel_rfl) (by decide) u (by rw [star]; exact h)

/-! ### One start that fits -/
abbrev text : ByteArray := { data := #[113, 117, 101, 117, 101, 32, 110, 111, 116, 32, 102, 111, 117, 110, 100] }
noncomputable def low : Nat := (World.holding Ybad.prog default ⟨#[], #[], []⟩).heap.size
noncomputable def laidWorld (os : Os) : World :=
  let w0 := World.holding Ybad.prog os ⟨#[.cells #[.string text] 81], #[], []⟩
  { w0 with heap := w0.heap.modify 0 fun
      | .cells _ t frozen => .cells #[.iface 79 (.pointer (some ⟨low, 0, none⟩))] t frozen
      | o => o }
theorem laidWorld_met (os : Os) (args : Array Value) : laidMetH Ybad.prog Rows.lawS0884ACountRow.laid ((laidWorld os).forCall (fun _ _ => 0) ⟨#[], args, []⟩).memory := by
  rw [MakeChecks.laidMetH_plain _ _ _ (by kernel_rfl)]
  exact laidMet_of_run (ps := [.cell 0 0, .cell low 0]) 8 (by kernel_rfl) (by kernel_rfl) (by kernel_rfl)

theorem var_below {W W' : World} {cs : Array Value} (h : W.var? Ybad.prog "example.com/stanchion/stanchion/internal/store.ErrQueueNotFound" = some cs) (l0 : 0 < W.heap.size) (b : Below W.heap.size W W') :
    W'.var? Ybad.prog "example.com/stanchion/stanchion/internal/store.ErrQueueNotFound" = some cs := by
  unfold World.var? at h ⊢
  rw [gE] at h ⊢
  simp only [Option.bind_some] at h ⊢
  rw [b.block 0 l0]
  exact h

/-- The walk, for whatever the three arguments are. -/
theorem law_any {a : Option Addr} {N cap sel : Nat} {other : ByteArray} {pe : Addr} {W : World} (hsel : sel < 256) (hoth : other.size ≤ maxLen) (hG : W.cell? ⟨0, 0, none⟩ = some (.iface 79 (.pointer (some pe))))
    (hin : 0 < N → ∃ qb qo nm ia il ic dl bk id, a = some ⟨qb, qo, none⟩ ∧ In W qb qo N nm ia il ic dl bk id) :
    Calls Ybad.prog 3 #[.slice a N cap, .int .u8 sel, .string other] W fun e w' => e = .returned (.bool true) ∧ Below W.heap.size W w' := by
  by_cases h3 : 300 < N
  · exact law_big a N cap sel other W h3
  by_cases h0 : N = 0
  · subst h0; exact law_zero a cap sel other pe W hsel hoth hG
  obtain ⟨qb, qo, nm, ia, il, ic, dl, bk, id, rfl, hI⟩ := hin (by omega)
  exact law_pos qb qo N cap nm ia il ic dl bk id sel other pe W (by omega) (by omega) hsel hoth hI hG

set_option maxRecDepth 100000 in
theorem lifted (os : Os) (started : os.Started) (H : Type) (enc : TypeId × Value → H) :
    ReturnsInHanded {} Ybad.checked os 3 .any (fun w args => (Rows.lawS0884ACountSpec.pre enc Ybad.prog Ybad.f3 [] false w args ∧ laidMetH Ybad.prog Rows.lawS0884ACountRow.laid w) ∧ sizedMet enc Ybad.prog Ybad.f3 (OpenSpec.ofChange Rows.lawS0884ACountSpec) false w args)
      (Rows.lawS0884ACountSpec.post enc Ybad.prog Ybad.f3 false true false false) := by
  refine returnsInHanded_of_change_and (C := Ybad.checked) (X := fun w _ => laidMetH Ybad.prog Rows.lawS0884ACountRow.laid w) (fun _ _ _ hh h => h.of_heap hh) own started (by kernel_rfl) Ybad.func3
    (ChangeSpec.witness_at (enc := enc) (C := Ybad.checked) (os := os) (X := fun w _ => laidMetH Ybad.prog Rows.lawS0884ACountRow.laid w) false (laidWorld os) #[.slice none 0 0, .int .u8 0, .string ⟨#[]⟩] 8 rfl (by kernel_rfl) (by kernel_rfl) (by kernel_rfl) (by kernel_rfl) (by kernel_rfl) (laidWorld_met os _)) ?_
  intro W base args ds gs before hval0 hW _ hsz0 hL _
  have hval : ∀ (j : Nat) t v, Ybad.f3.params[j]? = some t → args[j]? = some v → Value.okWide Ybad.prog W .any base t v := hval0
  have hsz : (DataW.weightsEach Ybad.prog (Ybad.f3.params.toList ++ Rows.lawS0884ACountSpec.plain.varTypes Ybad.prog) (ds ++ gs)).all (· ≤ reachBytes) = true := hsz0
  have hW' := hW
  obtain ⟨p, q, hA0, hV0, rfl, hfz, hnd⟩ := hW
  have hA : DataW.TrodAll enc Ybad.prog W 0 (fun _ => true) true Ybad.f3.params.toList args.toList ds p := hA0
  have hV : DataW.TrodVars enc Ybad.prog W (fun _ => true) ["example.com/stanchion/stanchion/internal/store.ErrQueueNotFound"] gs q := hV0
  rw [Ybad.params3] at hA hval hsz
  obtain ⟨v0, v1, v2, d0, d1, d2, p0, p1, p2, rfl, rfl, rfl, h0, h1, h2⟩ := trodAll_three hA
  obtain ⟨a0, len0, cap0, rfl⟩ := okWide_slice Ybad.underlying22 (hval 0 22 v0 rfl rfl)
  have k0 := h0
  have lt0 : ∀ x ∈ p0, x.block < W.heap.size := by obtain ⟨m, hm⟩ := k0; exact DataW.trod_lt m _ _ _ hm
  have hin : 0 < len0 → ∃ qb qo nm ia il ic dl bk id, a0 = some ⟨qb, qo, none⟩ ∧ In W qb qo len0 nm ia il ic dl bk id := by
    obtain ⟨fuel, hf⟩ := h0
    rcases open_in hf (fun n hn => of_decide_eq_true (List.all_eq_true.1 hsz _ (DataW.weights_mem_each (j := 0) (t := 22) rfl rfl n hn))) with hcs | ⟨a, N, cap, hcs, hI⟩
    · simp [Value.cells] at hcs
      obtain ⟨rfl, rfl, rfl⟩ := hcs
      exact fun h => absurd h (Nat.lt_irrefl 0)
    · simp [Value.cells] at hcs
      obtain ⟨rfl, rfl, rfl⟩ := hcs
      intro hp
      obtain ⟨qb, qo, nm, ia, il, ic, dl, bk, id, rfl, hI'⟩ := hI hp
      exact ⟨qb, qo, nm, ia, il, ic, dl, bk, id, rfl, hI'⟩
  obtain ⟨sel, rfl, rfl, rfl, w1⟩ := open_int Ybad.underlying5 (hval 1 5 v1 rfl rfl) h1
  obtain ⟨oth, rfl, rfl, rfl, w2⟩ := open_string Ybad.underlying9 (hval 2 9 v2 rfl rfl) h2
  obtain ⟨sn, rfl, hs⟩ : ∃ n : Nat, sel = n ∧ n < 256 := by
    have := bounds_u8 w1
    exact ⟨sel.toNat, by omega, by omega⟩
  rw [MakeChecks.laidMetH_plain _ _ _ (by kernel_rfl)] at hL
  obtain ⟨pe, s0, hv0, hc0, hs0, hz0⟩ := laid_sentinel hL gE gEType Ybad.underlying27 row79 Ybad.underlying79 Ybad.underlying81 rfl rfl Ybad.underlying9 cells81 Ybad.cells9
  obtain ⟨rfl, rfl⟩ := hV.unique (vars_read1 enc gE gEType Ybad.underlying27 hv0 trivial _)
  have hg0 : W.cell? ⟨0, 0, none⟩ = some (.iface 79 (.pointer (some pe))) := by simpa using World.var?_cell gE hv0 0
  have l0 : 0 < W.heap.size := by have := World.block_lt_of_cell? W _ hg0; simpa using this
  clear hA0 hV0 hval0
  refine (law_any (sel := sn) (cap := cap0) hs w2 hg0 hin).mono fun e W' ⟨he, bel⟩ => ?_
  subst he
  exact ⟨_, rfl, _, _, _, [], _, [.cell 0 0], hW', trodAll_mk1 (shut_bool Ybad.underlying4 _),
    (trodAll_cons_mk (Below.trod laidOut (by kernel_rfl) (of_decide_eq_true (by kernel_rfl)) k0 bel lt0) (trodAll_cons_mk (shut_int Ybad.underlying5 w1) (trodAll_cons_mk (shut_string Ybad.underlying9 w2) trodAll_mk0))),
    vars_read1 enc gE gEType Ybad.underlying27 (var_below hv0 l0 bel) trivial _, bel.frame _, fun h => by cases h⟩

theorem lawS0884ACount_holds : Rows.LawS0884ACountSaid :=
  OpenClaim.holds_of_wide 3 Ybad.f3 rfl rfl rfl rfl rfl rfl rfl ⟨rfl, rfl, rfl, rfl, rfl⟩ rfl rfl rfl rfl rfl (by kernel_rfl) Ybad.func3 (by kernel_rfl)
    (of_decide_eq_true (by kernel_rfl)) (by unfold Func.isWrapper; first | (rw [if_pos (by decide +kernel)]; kernel_rfl) | (rw [if_neg (by decide +kernel)]; exact ⟨rfl, rfl⟩))
    (fun os started H enc _ => lifted os started H enc)
#print axioms lawS0884ACount_holds
end Go.Proofs.YbulkrhaDoor
