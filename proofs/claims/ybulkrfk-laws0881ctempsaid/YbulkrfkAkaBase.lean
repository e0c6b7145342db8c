import Derived.Test.YbulkrfkRows
import Derived.WalkKit
import Derived.WalkSpells
import Derived.RowKit3
import Derived.Laws.Externs
import Derived.Laws.IdiomCopy
import Derived.Deep.MidRow
import Derived.LaidEqlPtr
namespace Go.Proofs.Ybulkrfk
open Go.RowKit

/-- Sixteen bytes as cells. -/
def A16 (f : Nat → Int) : Array Value :=
  #[.int .u8 (f 0), .int .u8 (f 1), .int .u8 (f 2), .int .u8 (f 3), .int .u8 (f 4), .int .u8 (f 5), .int .u8 (f 6), .int .u8 (f 7),
    .int .u8 (f 8), .int .u8 (f 9), .int .u8 (f 10), .int .u8 (f 11), .int .u8 (f 12), .int .u8 (f 13), .int .u8 (f 14), .int .u8 (f 15)]
/-- The stand-in block: key, enc, dec. -/
def A18 (f : Nat → Int) (e d : Int) : Array Value :=
  #[.int .u8 (f 0), .int .u8 (f 1), .int .u8 (f 2), .int .u8 (f 3), .int .u8 (f 4), .int .u8 (f 5), .int .u8 (f 6), .int .u8 (f 7),
    .int .u8 (f 8), .int .u8 (f 9), .int .u8 (f 10), .int .u8 (f 11), .int .u8 (f 12), .int .u8 (f 13), .int .u8 (f 14), .int .u8 (f 15), .int .i64 e, .int .i64 d]
/-- Milenage: the block's interface value, OPc. -/
def A17 (v : Value) (f : Nat → Int) : Array Value :=
  #[v, .int .u8 (f 0), .int .u8 (f 1), .int .u8 (f 2), .int .u8 (f 3), .int .u8 (f 4), .int .u8 (f 5), .int .u8 (f 6), .int .u8 (f 7),
    .int .u8 (f 8), .int .u8 (f 9), .int .u8 (f 10), .int .u8 (f 11), .int .u8 (f 12), .int .u8 (f 13), .int .u8 (f 14), .int .u8 (f 15)]

theorem lt16 {p : Nat → Prop} (h : p 0 ∧ p 1 ∧ p 2 ∧ p 3 ∧ p 4 ∧ p 5 ∧ p 6 ∧ p 7 ∧ p 8 ∧ p 9 ∧ p 10 ∧ p 11 ∧ p 12 ∧ p 13 ∧ p 14 ∧ p 15) (i : Nat) (hi : i < 16) : p i := by
  obtain ⟨h0, h1, h2, h3, h4, h5, h6, h7, h8, h9, h10, h11, h12, h13, h14, h15⟩ := h
  match i, hi with
  | 0, _ => exact h0 | 1, _ => exact h1 | 2, _ => exact h2 | 3, _ => exact h3 | 4, _ => exact h4 | 5, _ => exact h5 | 6, _ => exact h6 | 7, _ => exact h7
  | 8, _ => exact h8 | 9, _ => exact h9 | 10, _ => exact h10 | 11, _ => exact h11 | 12, _ => exact h12 | 13, _ => exact h13 | 14, _ => exact h14 | 15, _ => exact h15
  | n + 16, h => omega
theorem A16_get (f : Nat → Int) (i : Nat) (hi : i < 16) : (A16 f)[i]? = some (.int .u8 (f i)) :=
  lt16 (p := fun i => (A16 f)[i]? = some (.int .u8 (f i))) ⟨rfl, rfl, rfl, rfl, rfl, rfl, rfl, rfl, rfl, rfl, rfl, rfl, rfl, rfl, rfl, rfl⟩ i hi
theorem A18_get (f : Nat → Int) (e d : Int) (i : Nat) (hi : i < 16) : (A18 f e d)[i]? = some (.int .u8 (f i)) :=
  lt16 (p := fun i => (A18 f e d)[i]? = some (.int .u8 (f i))) ⟨rfl, rfl, rfl, rfl, rfl, rfl, rfl, rfl, rfl, rfl, rfl, rfl, rfl, rfl, rfl, rfl⟩ i hi
theorem A17_get (v : Value) (f : Nat → Int) (i : Nat) (hi : i < 16) : (A17 v f)[1 + i]? = some (.int .u8 (f i)) :=
  lt16 (p := fun i => (A17 v f)[1 + i]? = some (.int .u8 (f i))) ⟨rfl, rfl, rfl, rfl, rfl, rfl, rfl, rfl, rfl, rfl, rfl, rfl, rfl, rfl, rfl, rfl⟩ i hi
theorem A16_set (f : Nat → Int) (v : Int) (i : Nat) (hi : i < 16) : (A16 f).setIfInBounds i (.int .u8 v) = A16 (fun j => if j = i then v else f j) :=
  lt16 (p := fun i => (A16 f).setIfInBounds i (.int .u8 v) = A16 (fun j => if j = i then v else f j)) ⟨rfl, rfl, rfl, rfl, rfl, rfl, rfl, rfl, rfl, rfl, rfl, rfl, rfl, rfl, rfl, rfl⟩ i hi
theorem A16_congr {f g : Nat → Int} (h : ∀ i, i < 16 → f i = g i) : A16 f = A16 g := by
  unfold A16
  rw [h 0 (by omega), h 1 (by omega), h 2 (by omega), h 3 (by omega), h 4 (by omega), h 5 (by omega), h 6 (by omega), h 7 (by omega), h 8 (by omega), h 9 (by omega), h 10 (by omega), h 11 (by omega), h 12 (by omega), h 13 (by omega), h 14 (by omega), h 15 (by omega)]
theorem A16_size (f : Nat → Int) : (A16 f).size = 16 := rfl
theorem A16_one (f : Nat → Int) : ∀ v ∈ (A16 f).toList, v.oneCell' = true := by
  intro v hv
  simp only [A16, List.mem_cons, List.not_mem_nil, or_false] at hv
  rcases hv with h | h | h | h | h | h | h | h | h | h | h | h | h | h | h | h <;> (rw [h]; rfl)

/-! ### Worlds -/
/-- From w to w' only the blocks in S, and new ones, have turned. -/
def Step (S : Nat → Prop) (w w' : World) : Prop :=
  w.heap.size ≤ w'.heap.size ∧ (∀ b, b < w.heap.size → ¬ S b → w'.heap[b]? = w.heap[b]?) ∧ (∀ w0, Grown w0 w → (∀ b, S b → w0.heap.size ≤ b) → Grown w0 w')
theorem Step.refl (S : Nat → Prop) (w : World) : Step S w w := ⟨Nat.le_refl _, fun _ _ _ => rfl, fun _ h _ => h⟩
theorem Step.drew {S : Nat → Prop} {w w' : World} (h : Step S w w') : Step S w w'.drew := ⟨h.1, h.2.1, fun w0 h0 hs => (h.2.2 w0 h0 hs).drew⟩
theorem Step.mono {S S' : Nat → Prop} {w w' : World} (h : Step S w w') (hs : ∀ b, S b → S' b) : Step S' w w' :=
  ⟨h.1, fun b hb hn => h.2.1 b hb (fun x => hn (hs b x)), fun w0 h0 h1 => h.2.2 w0 h0 (fun b x => h1 b (hs b x))⟩
theorem Step.trans {S S' : Nat → Prop} {w w1 w2 : World} (h : Step S w w1) (h' : Step S' w1 w2) (hs : ∀ b, S' b → S b ∨ w.heap.size ≤ b) : Step S w w2 :=
  ⟨Nat.le_trans h.1 h'.1, fun b hb hn => (h'.2.1 b (Nat.lt_of_lt_of_le hb h.1) (fun x => (hs b x).elim hn (fun y => absurd hb (Nat.not_lt.2 y)))).trans (h.2.1 b hb hn),
    fun w0 h0 h1 => h'.2.2 w0 (h.2.2 w0 h0 h1) (fun b x => (hs b x).elim (h1 b) (fun y => Nat.le_trans h0.2.2 y))⟩
theorem Step.alloc {S : Nat → Prop} {w w' : World} (h : Step S w w') (c : Array Value) (t : TypeId) : Step S w (w'.alloc (.cells c t)) :=
  ⟨Nat.le_trans h.1 (by simp), fun b hb hn => (heap_alloc_old w' _ (Nat.lt_of_lt_of_le hb h.1)).trans (h.2.1 b hb hn), fun w0 h0 hs => (h.2.2 w0 h0 hs).alloc c t⟩
theorem Step.setCell {S : Nat → Prop} {w w' : World} (h : Step S w w') {a : Addr} (v : Value) (ha : S a.block ∨ w.heap.size ≤ a.block) : Step S w (w'.setCell a v) :=
  ⟨by simpa [World.setCell] using h.1, fun b hb hn => (heap_setCell_other w' a b v (fun e => by subst e; exact ha.elim hn (fun y => absurd hb (Nat.not_lt.2 y)))).trans (h.2.1 b hb hn),
    fun w0 h0 hs => (h.2.2 w0 h0 hs).setCell (ha.elim (hs _) (fun y => Nat.le_trans h0.2.2 y)) v⟩
theorem Step.setCells {S : Nat → Prop} {w : World} {b : Nat} (hb : S b ∨ w.heap.size ≤ b) : ∀ (vs : List Value) (o : Nat) (w' : World), Step S w w' → Step S w (w'.setCells b o vs)
  | [], _, _, h => h
  | v :: r, o, _, h => Step.setCells hb r (o + 1) _ (h.setCell v hb)

theorem heap_setCells_row (b : Nat) (t : TypeId) : ∀ (vs : List Value) (o : Nat) (w : World) (C : Array Value), w.heap[b]? = some (.cells C t (0, 0)) →
    (w.setCells b o vs).heap[b]? = some (.cells (vs.foldl (fun p v => (p.1.setIfInBounds p.2 v, p.2 + 1)) (C, o)).1 t (0, 0))
  | [], _, _, _, h => h
  | v :: r, o, w, C, h => heap_setCells_row b t r (o + 1) _ _ (heap_setCell_same w b o C t v h)
theorem fold16 (f g : Nat → Int) : ((A16 g).toList.foldl (fun p v => (p.1.setIfInBounds p.2 v, p.2 + 1)) (A16 f, 0)).1 = A16 g := by
  kernel_rfl
theorem heap_setCells_A16 {w : World} {b : Nat} {t : TypeId} {f : Nat → Int} (g : Nat → Int) (h : w.heap[b]? = some (.cells (A16 f) t (0, 0))) :
    (w.setCells b 0 (A16 g).toList).heap[b]? = some (.cells (A16 g) t (0, 0)) :=
  (heap_setCells_row b t (A16 g).toList 0 w (A16 f) h).trans (by rw [fold16])

/-! ### The two body-less functions -/
theorem xor_map (w : World) (f g : Nat → Int) :
    (((A16 f).zip (A16 g)).mapM fun (p : Value × Value) => do pure (Value.int .u8 (Int.ofNat ((← asInt p.1).toNat ^^^ (← asInt p.2).toNat)))).run Yba.prog w = .ok (A16 (fun i => ((f i).toNat ^^^ (g i).toNat : Nat))) w := by
  kernel_rfl
theorem any_overlap_no (w : World) (a b : Nat) (oa ob : Nat) (ca cb : Array Value) (ta tb : TypeId) (hab : a ≠ b) (ha : w.heap[a]? = some (.cells ca ta (0, 0))) (hb : w.heap[b]? = some (.cells cb tb (0, 0))) :
    (callFunc 17 #[.slice (some ⟨a, oa, none⟩) 16 16, .slice (some ⟨b, ob, none⟩) 16 16]).run Yba.prog w = .ok (.value (.bool false)) w := by
  rw [run_callFunc_extern Yba.func17 (by kernel_rfl) (by kernel_rfl) (by kernel_rfl) (e := Extern.SlicesOverlaps.overlaps #[67, 67] #[4]) (by kernel_rfl)]
  have e : (Extern.SlicesOverlaps.overlaps #[67, 67] #[4] #[.slice (some ⟨a, oa, none⟩) 16 16, .slice (some ⟨b, ob, none⟩) 16 16]).run Yba.prog w = (do
    let .slice elem ← underlying 67 | stuck "slices.overlaps: slice type expected"
    let size ← sizeOf elem
    if 16 = 0 ∨ 16 = 0 ∨ size = 0 then pure (.bool false)
      else if a != b && (← frozen ⟨a, oa, none⟩) && (← frozen ⟨b, ob, none⟩) then unsupported .addressObserved
      else do
        if a != b then do
          noView ⟨a, oa, none⟩; noView ⟨b, ob, none⟩
          if ← mayBeOne ⟨a, oa, none⟩ ⟨b, ob, none⟩ then return .bool ((← choose (.extern "sameAddr.stringBytes" 2)) == 1)
        pure (.bool (a == b && oa < ob + 16 * size && ob < oa + 16 * size)) : Sem Value).run Yba.prog w := rfl
  rw [e]
  have hs : (sizeOf 5).run Yba.prog w = .ok 1 w := by kernel_rfl
  simp [run_underlying Yba.underlying67, hs, hab, World.frozen?, ha, hb, noView, viewAt, World.shape?, mayBeOne, stringish]
theorem xor_bytes (w : World) (d x y ox oy : Nat) (f g : Nat → Int) (hx : ∀ i, i < 16 → w.cell? ⟨x, ox + i, none⟩ = some (.int .u8 (f i))) (hy : ∀ i, i < 16 → w.cell? ⟨y, oy + i, none⟩ = some (.int .u8 (g i)))
    (C : Array Value) (t : TypeId) (hC : C.size = 16) (hd : w.heap[d]? = some (.cells C t (0, 0))) :
    (callFunc 16 #[.pointer (some ⟨d, 0, none⟩), .pointer (some ⟨x, ox, none⟩), .pointer (some ⟨y, oy, none⟩), .int .i64 16]).run Yba.prog w = .ok (.value (.tuple #[])) (w.setCells d 0 (A16 (fun i => ((f i).toNat ^^^ (g i).toNat : Nat))).toList) := by
  rw [run_callFunc_extern Yba.func16 (by kernel_rfl) (by kernel_rfl) (by kernel_rfl) (e := Extern.CryptoHooks.xorBytes) (by kernel_rfl)]
  have lx : (loadCells ⟨x, ox, none⟩ 16).run Yba.prog w = .ok (A16 f) w :=
    run_loadCells_list w ⟨x, ox, none⟩ (A16 f).toList (fun j v hv => by
      have hj : j < 16 := by have := (List.getElem?_eq_some_iff.1 hv).1; simpa [A16_size] using this
      rw [Addr.add_mid, hx j hj, ← hv]; simpa using (A16_get f j hj).symm)
  have ly : (loadCells ⟨y, oy, none⟩ 16).run Yba.prog w = .ok (A16 g) w :=
    run_loadCells_list w ⟨y, oy, none⟩ (A16 g).toList (fun j v hv => by
      have hj : j < 16 := by have := (List.getElem?_eq_some_iff.1 hv).1; simpa [A16_size] using this
      rw [Addr.add_mid, hy j hj, ← hv]; simpa using (A16_get g j hj).symm)
  have st : (storeCells ⟨d, 0, none⟩ (A16 (fun i => ((f i).toNat ^^^ (g i).toNat : Nat))).toList).run Yba.prog w = .ok () (w.setCells d 0 (A16 (fun i => ((f i).toNat ^^^ (g i).toNat : Nat))).toList) :=
    run_storeCells_cells d 0 _ 0 w (fun j hj => by
      have hj : j < 16 := by simpa [A16_size] using hj
      rw [cell_of_row w d (0 + 0 + j) C t (0, 0) hd, Array.getElem?_eq_getElem (by omega)]; rfl) (fun j _ => by simp [World.frozen?, hd]) (A16_one _)
  have e : (Extern.CryptoHooks.xorBytes #[.pointer (some ⟨d, 0, none⟩), .pointer (some ⟨x, ox, none⟩), .pointer (some ⟨y, oy, none⟩), .int .i64 16]).run Yba.prog w = (do
    let xs ← loadCells ⟨x, ox, none⟩ 16
    let ys ← loadCells ⟨y, oy, none⟩ 16
    let out ← (xs.zip ys).mapM fun (p : Value × Value) => do pure (Value.int .u8 (Int.ofNat ((← asInt p.1).toNat ^^^ (← asInt p.2).toNat)))
    storeCells ⟨d, 0, none⟩ out.toList
    pure (.tuple #[]) : Sem Value).run Yba.prog w := rfl
  rw [e]
  simp only [Sem.run_bind, lx, ly, Result.andThen_ok, xor_map, st, Sem.run_pure]
end Go.Proofs.Ybulkrfk
