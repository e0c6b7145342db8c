import Derived.Test.YbulkrfkAkaBase
import Derived.ProofKit
import Derived.OpenShut
namespace Go.Proofs.Ybulkrfk
open Go.ChangeShapes Go.WideShapes Go.ChangeAt Go.RowKit

def D16 {H : Type} (f : Nat → Int) : DataW H :=
  .agg [.lit (.int .u8 (f 0)), .lit (.int .u8 (f 1)), .lit (.int .u8 (f 2)), .lit (.int .u8 (f 3)), .lit (.int .u8 (f 4)), .lit (.int .u8 (f 5)), .lit (.int .u8 (f 6)), .lit (.int .u8 (f 7)),
    .lit (.int .u8 (f 8)), .lit (.int .u8 (f 9)), .lit (.int .u8 (f 10)), .lit (.int .u8 (f 11)), .lit (.int .u8 (f 12)), .lit (.int .u8 (f 13)), .lit (.int .u8 (f 14)), .lit (.int .u8 (f 15))]
theorem cells54 : Yba.prog.cellsOf 54 = 16 := by kernel_rfl
theorem cells5 : Yba.prog.cellsOf 5 = 1 := by kernel_rfl

set_option maxRecDepth 100000 in
theorem open16 {H : Type} {enc : TypeId × Value → H} {W : World} {base : Nat} {sp : Nat → Bool} {held : Bool} {v : Value} {d : DataW H} {p : List MemPlace}
    (hval : Value.okWide Yba.prog W .any base 54 v) (h : DataW.Trod enc Yba.prog W 0 sp held 54 v d p) :
    ∃ f : Nat → Int, v = .agg (A16 f) ∧ d = D16 f ∧ p = [] ∧ ∀ i, i < 16 → (Lit.int .u8 (f i)).wf = true := by
  obtain ⟨cs, rfl, hsz, _⟩ : ∃ cs, v = .agg cs ∧ cs.size = Yba.prog.cellsOf 54 ∧ Row.okWide Yba.prog W .any base 54 cs := by
    simpa [Value.okWide, Yba.underlying54] using hval
  rw [cells54] at hsz
  obtain ⟨fuel, hf⟩ := h
  obtain ⟨xs, m, _, hx, _, hlen, hxs⟩ := DataW.trod_array Yba.underlying54 hf
  have key : ∀ i, i < 16 → ∃ n : Int, cs[i]? = some (.int .u8 n) ∧ xs[i]? = some (.lit (.int .u8 n), []) ∧ (Lit.int .u8 n).wf = true := by
    intro i hi
    have h1 := hxs i hi
    rw [cells5, Nat.mul_one] at h1
    obtain ⟨y, hy⟩ : ∃ y, xs[i]? = some y := ⟨xs[i]'(by omega), List.getElem?_eq_getElem _⟩
    rw [hy] at h1
    obtain ⟨n, e, e', wn⟩ := DataW.trod_int Yba.underlying5 h1
    refine ⟨n, ?_, by rw [hy, e'], wn⟩
    have h2 : ((cs.toList.drop i).take 1)[0]? = some (.int .u8 n) := by
      have : (Value.agg cs).cells.toList = cs.toList := rfl
      rw [this] at e
      rw [e]; rfl
    simpa using h2
  obtain ⟨f, hf⟩ : ∃ f : Nat → Int, ∀ i, i < 16 → cs[i]? = some (.int .u8 (f i)) ∧ xs[i]? = some (.lit (.int .u8 (f i)), []) ∧ (Lit.int .u8 (f i)).wf = true :=
    ⟨fun i => if h : i < 16 then (key i h).choose else 0, fun i hi => by simp only [hi, dif_pos]; exact (key i hi).choose_spec⟩
  refine ⟨f, ?_, ?_, ?_, fun i hi => (hf i hi).2.2⟩
  · have : cs = A16 f := by
      apply Array.ext_getElem?
      intro i
      by_cases hi : i < 16
      · rw [A16_get _ i hi, (hf i hi).1]
      · rw [Array.getElem?_eq_none (by omega), Array.getElem?_eq_none (by rw [A16_size]; omega)]
    rw [this]
  · have hxl : xs = (List.range 16).map (fun i => ((DataW.lit (.int .u8 (f i)), []) : DataW H × List MemPlace)) := by
      apply List.ext_getElem?
      intro i
      by_cases hi : i < 16
      · rw [(hf i hi).2.1]; simp [hi]
      · rw [List.getElem?_eq_none (by omega), List.getElem?_eq_none (by simp; omega)]
    have := congrArg Prod.fst hx
    simp only at this
    rw [this, hxl]
    rfl
  · have := congrArg Prod.snd hx
    simp only at this
    rw [this]
    apply List.flatMap_eq_nil_iff.2
    intro y hy
    obtain ⟨i, hi, rfl⟩ := List.getElem_of_mem hy
    have := (hf i (by omega)).2.1
    rw [List.getElem?_eq_getElem hi] at this
    rw [Option.some.inj this]

set_option maxRecDepth 100000 in
theorem shut16 {H : Type} {enc : TypeId × Value → H} {W : World} {sp : Nat → Bool} {held : Bool} {f : Nat → Int} (wf : ∀ i, i < 16 → (Lit.int .u8 (f i)).wf = true) :
    DataW.Trod enc Yba.prog W 0 sp held 54 (.agg (A16 f)) (D16 f) [] :=
  ⟨2, by
    simp [DataW.trod, Value.cells, A16, D16, Yba.underlying54, Yba.underlying5, cells54, cells5, wf, show List.range 16 = [0, 1, 2, 3, 4, 5, 6, 7, 8, 9, 10, 11, 12, 13, 14, 15] from rfl]⟩
theorem bd16 {f : Nat → Int} (wf : ∀ i, i < 16 → (Lit.int .u8 (f i)).wf = true) : ∀ i, i < 16 → 0 ≤ f i ∧ f i ≤ 255 := fun i hi => by
  have := wf i hi
  simp [Lit.wf, IntKind.min, IntKind.max, IntKind.signed, IntKind.bits] at this
  omega
end Go.Proofs.Ybulkrfk
