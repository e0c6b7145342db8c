import Derived.Maps.Views
import Derived.Maps.Keyed
namespace Go.Proofs.YbulkrhaDoor
open Go.Maps

/-- Was f i there before place i? -/
def seenB (f : Nat → ByteArray) (i : Nat) : Bool := (List.range i).any fun k => decide (f k = f i)
/-- How many different ones among the first n. -/
def dcount (f : Nat → ByteArray) : Nat → Nat
  | 0 => 0
  | n + 1 => dcount f n + if seenB f n then 0 else 1
theorem dcount_le (f : Nat → ByteArray) : ∀ n, dcount f n ≤ n
  | 0 => Nat.le_refl _
  | n + 1 => by have := dcount_le f n; unfold dcount; split <;> omega
theorem seenB_true {f : Nat → ByteArray} {i k : Nat} (hk : k < i) (h : f k = f i) : seenB f i = true := by
  unfold seenB
  rw [List.any_eq_true]
  exact ⟨k, by simpa using hk, by simpa using h⟩
theorem seenB_false {f : Nat → ByteArray} {i : Nat} (h : ∀ k, k < i → f k ≠ f i) : seenB f i = false := by
  unfold seenB
  rw [List.any_eq_false]
  intro k hk
  have := h k (by simpa using hk)
  simpa using this

def keyL (s : ByteArray) : Lit := .string s.data.toList
theorem keyL_inj {s t : ByteArray} (h : keyL s = keyL t) : s = t := by
  obtain ⟨⟨a⟩⟩ := s
  obtain ⟨⟨b⟩⟩ := t
  simpa [keyL] using h
theorem keyL_isKey (s : ByteArray) : WideAt.IsKeyLit (keyL s) := trivial
theorem keyL_ne {s t : ByteArray} (h : s ≠ t) : keyL s ≠ keyL t := fun e => h (keyL_inj e)

/-- A queue's messages after n stores, as a set of keys. -/
def Dm (f : Nat → ByteArray) : Nat → DataW Unit
  | 0 => .map []
  | n + 1 => (Dm f n).put (keyL (f n)) .nil
theorem Dm_tidy (f : Nat → ByteArray) : ∀ n, Tidy (Dm f n)
  | 0 => tidy_empty
  | n + 1 => (Dm_tidy f n).put (keyL_isKey _) _
theorem Dm_has (f : Nat → ByteArray) (s : ByteArray) : ∀ n, has (Dm f n) (keyL s) = (List.range n).any (fun k => decide (f k = s))
  | 0 => rfl
  | n + 1 => by
    rw [List.range_succ, List.any_append]
    show has ((Dm f n).put (keyL (f n)) .nil) (keyL s) = _
    by_cases h : f n = s
    · rw [h, has_put_same (Dm_tidy f n).isMap (keyL_isKey s)]; simp [h]
    · rw [has_put_other (keyL_ne (fun e => h e.symm)), Dm_has f s n]; simp [h]
theorem Dm_size (f : Nat → ByteArray) : ∀ n, size (Dm f n) = dcount f n
  | 0 => rfl
  | n + 1 => by
    show size ((Dm f n).put (keyL (f n)) .nil) = _
    rw [size_put (Dm_tidy f n), Dm_has f (f n) n, Dm_size f n]
    show _ = dcount f n + if seenB f n then 0 else 1
    unfold seenB
    split <;> simp_all

/-- The last place below n at which s stands. -/
def lastI (nm : Nat → ByteArray) (s : ByteArray) : Nat → Option Nat
  | 0 => none
  | n + 1 => if nm n = s then some n else lastI nm s n
theorem lastI_lt {nm : Nat → ByteArray} {s : ByteArray} : ∀ {n l : Nat}, lastI nm s n = some l → l < n ∧ nm l = s
  | 0, _, h => by simp [lastI] at h
  | n + 1, l, h => by
    unfold lastI at h
    split at h
    · rename_i e
      obtain rfl := Option.some.inj h
      exact ⟨Nat.lt_succ_self _, e⟩
    · have := lastI_lt h
      exact ⟨Nat.lt_succ_of_lt this.1, this.2⟩
/-- What the store's map holds at s. -/
def ptrAt (qb : Nat → Nat) : Option Nat → Value
  | none => .pointer none
  | some l => .pointer (some ⟨qb l, 0, none⟩)
def HoldsAt (D : DataW Value) (nm : Nat → ByteArray) (qb : Nat → Nat) (n : Nat) : Prop :=
  ∀ s, D.atKey (keyL s) (.held (.pointer none)) = .held (ptrAt qb (lastI nm s n))
theorem holdsAt_zero (nm : Nat → ByteArray) (qb : Nat → Nat) : HoldsAt (.map []) nm qb 0 := fun _ => rfl
theorem HoldsAt.step {D : DataW Value} {nm : Nat → ByteArray} {qb qb' : Nat → Nat} {n : Nat} (h : HoldsAt D nm qb n) (hD : IsMap D) (he : ∀ i, i < n → qb' i = qb i) :
    HoldsAt (D.put (keyL (nm n)) (.held (.pointer (some ⟨qb' n, 0, none⟩)))) nm qb' (n + 1) := fun s => by
  unfold lastI
  by_cases e : nm n = s
  · rw [if_pos e, e, atKey_put_same hD (keyL_isKey s)]; rfl
  · rw [if_neg e, atKey_put_other (keyL_ne (fun x => e x.symm)), h s]
    cases hl : lastI nm s n with
    | none => rfl
    | some l => simp only [ptrAt]; rw [he l (lastI_lt hl).1]
end Go.Proofs.YbulkrhaDoor
