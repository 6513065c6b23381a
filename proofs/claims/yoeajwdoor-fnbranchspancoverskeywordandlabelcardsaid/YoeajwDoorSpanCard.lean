import Derived.Test.YoeajwDoorSpanProof
namespace Go.Proofs.YoeajwDoor
open Go

theorem plainParams {t : TypeId} (h : t = 3 ∨ t = 4 ∨ t = 9) : Eajg.prog.wantsStandIn t = false := by
  rcases h with rfl | rfl | rfl
  · exact (show Eajg.prog.wantsStandIn 3 = false by kernel_rfl)
  · exact (show Eajg.prog.wantsStandIn 4 = false by kernel_rfl)
  · exact (show Eajg.prog.wantsStandIn 9 = false by kernel_rfl)

theorem span_card : Rows.FnBranchSpanCoversKeywordAndLabelCardSaid :=
  Claim7.holds_tied_plain_at .later [] [.data, .data, .data, .data] true (true, "554a69053efea3209ff943bad6b0dd9f005ec3fbef622fd814cfc10302f09aeb") false
    span_holds (fun _ h => by cases h) (by kernel_rfl) (fun _ h => by cases h) fnBranchSpanCoversKeywordAndLabel_row_tie rfl ⟨rfl, rfl⟩ (by kernel_rfl) rfl
    (fun f fn hf hfn => by
      obtain rfl : f = 4 := Option.some.inj ((show Eajg.prog.funcNamed Rows.fnBranchSpanCoversKeywordAndLabelRow.func = some 4 by kernel_rfl).symm.trans hf) |>.symm
      obtain rfl : fn = Eajg.f4 := (Option.some.inj (Eajg.func4.symm.trans hfn)).symm
      exact ⟨by kernel_rfl, fun j t ht => by
        rw [Eajg.params4] at ht
        refine plainParams ?_
        rcases j with _ | _ | _ | _ | j
        · exact Or.inl (by simpa using ht.symm)
        · exact Or.inr (Or.inl (by simpa using ht.symm))
        · exact Or.inl (by simpa using ht.symm)
        · exact Or.inr (Or.inr (by simpa using ht.symm))
        · simp at ht⟩)
    (by kernel_rfl)
#print axioms span_card
end Go.Proofs.YoeajwDoor
