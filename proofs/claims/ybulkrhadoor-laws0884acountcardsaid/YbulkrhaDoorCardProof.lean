import Derived.Test.YbulkrhaDoorLifted
import Derived.Test.YbulkrhaDoorTie
import Derived.Test.YbulkrhaDoorCards
import Derived.SevenTiedAt
namespace Go.Proofs.YbulkrhaDoor
open Go

/-- THE TIED CARD. -/
theorem lawS0884ACountCard_proved : Rows.LawS0884ACountCardSaid :=
  Claim7.holds_tied_plain_at .later [] [.sentinel] true (true, "d7afcf45b557ebbc9e1d92ce9066ab0a0bc096413f8d09532c10fd9fccb8365e") true
    lawS0884ACount_holds (fun _ h => by cases h) (by kernel_rfl) (fun _ h => by cases h) lawS0884ACount_row_tie rfl ⟨rfl, rfl⟩ (by kernel_rfl) rfl
    (fun f fn hf hfn => by
      obtain rfl : f = 3 := Option.some.inj ((show Ybad.prog.funcNamed "example.com/stanchion/stanchion/internal/store.LawS0884ACount" = some 3 by kernel_rfl).symm.trans hf) |>.symm
      obtain rfl : fn = Ybad.f3 := (Option.some.inj (Ybad.func3.symm.trans hfn)).symm
      exact ⟨by kernel_rfl, fun j t ht => by
        rw [Ybad.params3] at ht
        have h3 : t = 22 ∨ t = 5 ∨ t = 9 := by
          rcases j with _ | _ | _ | j
          · exact Or.inl (by simpa using ht.symm)
          · exact Or.inr (Or.inl (by simpa using ht.symm))
          · exact Or.inr (Or.inr (by simpa using ht.symm))
          · simp at ht
        rcases h3 with rfl | rfl | rfl
        · exact (show Ybad.prog.wantsStandIn 22 = false by kernel_rfl)
        · exact (show Ybad.prog.wantsStandIn 5 = false by kernel_rfl)
        · exact (show Ybad.prog.wantsStandIn 9 = false by kernel_rfl)⟩)
    (by kernel_rfl)
#print axioms lawS0884ACountCard_proved
end Go.Proofs.YbulkrhaDoor
