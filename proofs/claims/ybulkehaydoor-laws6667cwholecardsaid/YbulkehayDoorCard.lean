import Derived.Test.YbulkehayDoorLaw
import Derived.Test.YbulkehayDoorTie
import Derived.Test.YbulkehayDoorCards
import Derived.SevenTiedAt
namespace Go.Proofs.YbulkehayDoor
open Go

/-- ████ THE STATEMENT: the tied card ████ -/
theorem lawS6667CWhole.proved : Rows.LawS6667CWholeCardSaid :=
  Claim7.holds_tied_plain_at .later [] [.data] true (true, "a72f88ef5a15b4c4bfa6463dbbf1f80a565a29eb356be78c4bd86cf2a95f54dd") false
    row_holds (fun _ h => by cases h) (by kernel_rfl) (fun _ h => by cases h) lawS6667CWhole_row_tie rfl ⟨rfl, rfl⟩ (by kernel_rfl) rfl
    (fun f fn hf hfn => by
      obtain rfl : f = 3 := Option.some.inj ((show Ybad.prog.funcNamed Rows.lawS6667CWholeRow.func = some 3 by kernel_rfl).symm.trans hf) |>.symm
      obtain rfl : fn = Ybad.f3 := (Option.some.inj (Ybad.func3.symm.trans hfn)).symm
      refine ⟨by kernel_rfl, fun j t ht => ?_⟩
      rw [Ybad.params3] at ht
      have h3 : t = 22 ∨ t = 5 ∨ t = 23 ∨ t = 24 ∨ t = 4 := by
        match j, ht with
        | 0, ht => exact Or.inl (by simpa using ht.symm)
        | 1, ht => exact Or.inr (Or.inl (by simpa using ht.symm))
        | 2, ht => exact Or.inr (Or.inr (Or.inl (by simpa using ht.symm)))
        | 3, ht => exact Or.inr (Or.inr (Or.inl (by simpa using ht.symm)))
        | 4, ht => exact Or.inr (Or.inr (Or.inr (Or.inl (by simpa using ht.symm))))
        | 5, ht => exact Or.inr (Or.inr (Or.inr (Or.inr (by simpa using ht.symm))))
        | 6, ht => exact Or.inr (Or.inr (Or.inr (Or.inr (by simpa using ht.symm))))
        | j + 7, ht => simp at ht
      rcases h3 with rfl | rfl | rfl | rfl | rfl
      · exact (show Ybad.prog.wantsStandIn 22 = false by kernel_rfl)
      · exact (show Ybad.prog.wantsStandIn 5 = false by kernel_rfl)
      · exact (show Ybad.prog.wantsStandIn 23 = false by kernel_rfl)
      · exact (show Ybad.prog.wantsStandIn 24 = false by kernel_rfl)
      · exact (show Ybad.prog.wantsStandIn 4 = false by kernel_rfl))
    (by kernel_rfl)
end Go.Proofs.YbulkehayDoor
