import Derived.Test.YbulkrhaDoorSteps
import Derived.Deep.Slices
import Derived.SliceStrings
import Derived.SizedLaws
import Derived.ProofKit
namespace Go.Proofs.YbulkrhaDoor
open Go.ChangeShapes Go.WideShapes Go.ChangeAt Go.RowKit Go.Deep
set_option linter.unusedVariables false

theorem Ybad.cells25 : Ybad.prog.cellsOf 25 = 4 := by kernel_rfl
theorem Ybad.cells23 : Ybad.prog.cellsOf 23 = 1 := by kernel_rfl
theorem Ybad.cells9 : Ybad.prog.cellsOf 9 = 1 := by kernel_rfl
theorem Ybad.cells4 : Ybad.prog.cellsOf 4 = 1 := by kernel_rfl
theorem Ybad.bytes9 : Ybad.prog.bytesOf 9 = 16 := by kernel_rfl

theorem four {α : Type} {l : List α} (h : l.length = 4) : ∃ a b c d, l = [a, b, c, d] := by
  match l, h with
  | [a, b, c, d], _ => exact ⟨a, b, c, d, rfl⟩

section
variable {H : Type} {enc : TypeId × Value → H} {w : World} {base : Nat} {spare : Nat → Bool} {held : Bool}

/-- One record, opened: its four cells; its list of strings by index; the reach of that list. -/
theorem open_rec {fuel : Nat} {cs : List Value} {x : DataW H × List MemPlace} (h : DataW.trod enc Ybad.prog w base spare held fuel 25 cs = some x) (hr : ∀ n ∈ x.1.weights Ybad.prog 25, n ≤ reachBytes) :
    ∃ y : ByteArray × Option Addr × Nat × Nat × Bool × Bool × (Nat → ByteArray), cs = [.string y.1, .slice y.2.1 y.2.2.1 y.2.2.2.1, .bool y.2.2.2.2.1, .bool y.2.2.2.2.2.1] ∧ y.1.size ≤ maxLen ∧
      (0 < y.2.2.1 → ∃ b o, y.2.1 = some ⟨b, o, none⟩ ∧ ∀ j, j < y.2.2.1 → w.cell? ⟨b, o + j, none⟩ = some (.string (y.2.2.2.2.2.2 j))) ∧
      (∀ j, j < y.2.2.1 → (y.2.2.2.2.2.2 j).size ≤ maxLen) ∧ y.2.2.1 ≤ 140737488355328 := by
  obtain ⟨xs, n, _, rfl, hl, hlen, hf⟩ := DataW.trod_struct Ybad.underlying25 h
  rw [Ybad.cells25] at hl
  obtain ⟨c0, c1, c2, c3, rfl⟩ := four hl
  obtain ⟨y0, y1, y2, y3, rfl⟩ := four (show xs.length = 4 from hlen)
  have f0 : DataW.trod enc Ybad.prog w base spare held n 9 (([c0, c1, c2, c3].drop 0).take (Ybad.prog.cellsOf 9)) = some y0 := hf 0 _ rfl
  rw [Ybad.cells9] at f0
  have f1 : DataW.trod enc Ybad.prog w base spare held n 23 (([c0, c1, c2, c3].drop 1).take (Ybad.prog.cellsOf 23)) = some y1 := hf 1 _ rfl
  rw [Ybad.cells23] at f1
  have f2 : DataW.trod enc Ybad.prog w base spare held n 4 (([c0, c1, c2, c3].drop 2).take (Ybad.prog.cellsOf 4)) = some y2 := hf 2 _ rfl
  rw [Ybad.cells4] at f2
  have f3 : DataW.trod enc Ybad.prog w base spare held n 4 (([c0, c1, c2, c3].drop 3).take (Ybad.prog.cellsOf 4)) = some y3 := hf 3 _ rfl
  rw [Ybad.cells4] at f3
  obtain ⟨s, e0, x0, hs⟩ := DataW.trod_string Ybad.underlying9 f0
  obtain ⟨b2, e2, x2⟩ := DataW.trod_bool Ybad.underlying4 f2
  obtain ⟨b3, e3, x3⟩ := DataW.trod_bool Ybad.underlying4 f3
  obtain rfl : c0 = .string s := (List.cons.inj e0).1
  obtain rfl : c2 = .bool b2 := (List.cons.inj e2).1
  obtain rfl : c3 = .bool b3 := (List.cons.inj e3).1
  rcases open_strings Ybad.underlying23 Ybad.underlying9 Ybad.cells9 f1 with ⟨hcs, _⟩ | ⟨a, len, cap, ss, hcs, hb, hle, hm, hss, hx, hcell, hz⟩
  · obtain rfl : c1 = .slice none 0 0 := (List.cons.inj hcs).1
    exact ⟨(s, none, 0, 0, b2, b3, fun _ => s), rfl, hs, fun h => absurd h (Nat.lt_irrefl 0), fun j hj => absurd hj (Nat.not_lt_zero j), Nat.zero_le _⟩
  · obtain rfl : c1 = .slice (some a) len cap := (List.cons.inj hcs).1
    have hge : len ≤ ss.length := by rw [hss]; split <;> omega
    refine ⟨(s, some a, len, cap, b2, b3, fun j => ss.getD j ByteArray.empty), rfl, hs, fun h0 => ?_, fun j hj => ?_, ?_⟩
    · obtain ⟨b, o, spot⟩ := a
      have hc0 := hcell 0 (by show 0 < ss.length; have : 0 < len := h0; omega)
      have hspot : spot = none := by simpa [Addr.add] using World.cell?_spot hc0
      subst hspot
      refine ⟨b, o, rfl, fun j hj => ?_⟩
      have := hcell j (by have : j < len := hj; omega)
      rwa [add_plain] at this
    · have hj' : j < ss.length := by have : j < len := hj; omega
      refine hz _ ?_
      show ss.getD j ByteArray.empty ∈ ss
      rw [List.getD, List.getElem?_eq_getElem hj']
      exact List.getElem_mem hj'
    · have h1 := hr ((len + (ss.length - len)) * 16) (by
        have e1 : y1.1 = .slice (strs (ss.take len)) (strs (ss.drop len)) := by rw [hx]
        simp only [DataW.weights, Ybad.underlying25, List.map, DataW.weightsEach, e1, Ybad.underlying23, Ybad.bytes9, List.mem_append]
        right; left
        simp [strs, Nat.min_eq_left hge])
      simp only [reachBytes] at h1
      show len ≤ _
      omega

theorem weights_in_all {P : Program} {e : TypeId} {d : DataW H} {n : Nat} : ∀ {l : List (DataW H)}, d ∈ l → n ∈ d.weights P e → n ∈ DataW.weightsAll P e l
  | [], hd, _ => absurd hd (by simp)
  | x :: l, hd, hn => by
    rw [DataW.weightsAll, List.mem_append]
    rcases List.mem_cons.1 hd with rfl | hd
    · exact Or.inl hn
    · exact Or.inr (weights_in_all hd hn)

/-- The whole argument, opened: nil; or, where it is not empty, what the walk asks. -/
theorem open_in {fuel : Nat} {cs : List Value} {x : DataW H × List MemPlace} (h : DataW.trod enc Ybad.prog w base spare held fuel 22 cs = some x) (hr : ∀ n ∈ x.1.weights Ybad.prog 22, n ≤ reachBytes) :
    cs = [.slice none 0 0] ∨ ∃ a N cap, cs = [.slice (some a) N cap] ∧ (0 < N → ∃ qb qo nm ia il ic dl bk id, a = ⟨qb, qo, none⟩ ∧ In w qb qo N nm ia il ic dl bk id) := by
  rcases open_slice Ybad.underlying22 h with ⟨hcs, _⟩ | ⟨a, len, cap, m, n, D, Pl, hcs, hb, hl, hm, hmm, rfl, hx⟩
  · exact Or.inl hcs
  refine Or.inr ⟨a, len, cap, hcs, fun h0 => ?_⟩
  have hle : len ≤ m := by rw [hmm]; split <;> omega
  have each : ∀ i, i < len → ∃ y : ByteArray × Option Addr × Nat × Nat × Bool × Bool × (Nat → ByteArray),
      w.cells? base (a.add (i * 4)) 4 = some [.string y.1, .slice y.2.1 y.2.2.1 y.2.2.2.1, .bool y.2.2.2.2.1, .bool y.2.2.2.2.2.1] ∧ y.1.size ≤ maxLen ∧
      (0 < y.2.2.1 → ∃ b o, y.2.1 = some ⟨b, o, none⟩ ∧ ∀ j, j < y.2.2.1 → w.cell? ⟨b, o + j, none⟩ = some (.string (y.2.2.2.2.2.2 j))) ∧
      (∀ j, j < y.2.2.1 → (y.2.2.2.2.2.2 j).size ≤ maxLen) ∧ y.2.2.1 ≤ 140737488355328 := fun i hi => by
    obtain ⟨cs', h1, h2⟩ := hx i (by omega)
    rw [Ybad.cells25] at h1
    obtain ⟨y, rfl, hy⟩ := open_rec h2 (fun k hk => hr k (by
      simp only [DataW.weights, Ybad.underlying22, List.mem_cons, List.mem_append]
      exact Or.inr (Or.inl (weights_in_all (List.mem_map.2 ⟨i, List.mem_range.2 hi, rfl⟩) hk))))
    exact ⟨y, h1, hy⟩
  obtain ⟨Y, hY⟩ := choose_lt (α := ByteArray × Option Addr × Nat × Nat × Bool × Bool × (Nat → ByteArray)) each
  obtain ⟨b, o, spot⟩ := a
  have hspot : spot = none := by
    have hc := (World.cells?_some (hY 0 h0).1).2.2 0 (by omega)
    simpa [Addr.add] using World.cell?_spot (hc.trans rfl)
  subst hspot
  have cell : ∀ i, i < len → ∀ j, j < 4 → w.cell? ⟨b, o + i * 4 + j, none⟩ = [Value.string (Y i).1, .slice (Y i).2.1 (Y i).2.2.1 (Y i).2.2.2.1, .bool (Y i).2.2.2.2.1, .bool (Y i).2.2.2.2.2.1][j]? := fun i hi j hj => by
    have := (World.cells?_some (hY i hi).1).2.2 j hj
    rwa [add_plain, add_plain] at this
  exact ⟨b, o, fun i => (Y i).1, fun i => (Y i).2.1, fun i => (Y i).2.2.1, fun i => (Y i).2.2.2.1, fun i => (Y i).2.2.2.2.1, fun i => (Y i).2.2.2.2.2.1, fun i => (Y i).2.2.2.2.2.2, rfl,
    { c0 := fun i hi => cell i hi 0 (by omega), c1 := fun i hi => cell i hi 1 (by omega), c2 := fun i hi => cell i hi 2 (by omega), c3 := fun i hi => cell i hi 3 (by omega)
      ids := fun i hi => (hY i hi).2.2.1, nml := fun i hi => (hY i hi).2.1, idl := fun i hi => (hY i hi).2.2.2.1, ilm := fun i hi => (hY i hi).2.2.2.2 }⟩
end
end Go.Proofs.YbulkrhaDoor
