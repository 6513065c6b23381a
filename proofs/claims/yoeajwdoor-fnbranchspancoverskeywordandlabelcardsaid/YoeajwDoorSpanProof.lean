import Derived.Test.YoeajwDoorSpan
import Derived.Test.YoeajwDoorLaid
import Derived.Test.YoeajwDoorCards
import Derived.Test.YoeajwDoorTie
import Derived.SevenTiedAt
namespace Go.Proofs.YoeajwDoor
open Go.ChangeShapes Go.WideShapes Go.ChangeAt Go.RowKit
open Go.WideMaps Go.WideElems
open Go.ChangeMaps (open_string shut_string)

set_option maxRecDepth 100000 in
theorem span_lifted (os : Os) (started : os.Started) (H : Type) (enc : TypeId × Value → H) :
    ReturnsInHanded {} Eajg.checked os 4 .any (fun w args => (Rows.fnBranchSpanCoversKeywordAndLabelSpec.pre enc Eajg.prog Eajg.f4 [] false w args ∧ laidMetH Eajg.prog laid4 w) ∧ sizedMet enc Eajg.prog Eajg.f4 (OpenSpec.ofChange Rows.fnBranchSpanCoversKeywordAndLabelSpec) false w args)
      (Rows.fnBranchSpanCoversKeywordAndLabelSpec.post enc Eajg.prog Eajg.f4 false true false false) := by
  refine returnsInHanded_of_change_and (C := Eajg.checked) (X := fun w _ => laidMetH Eajg.prog laid4 w) (fun _ _ _ hh h => h.of_heap hh) Eajg.own started (by kernel_rfl) Eajg.func4
    (ChangeSpec.witness_shaped (enc := enc) (C := Eajg.checked) (os := os) (X := fun w _ => laidMetH Eajg.prog laid4 w) false (World.doorLaid Eajg.prog 29 os) #[.int .i64 0, .bool false, .int .i64 0, .string ⟨#[]⟩] 8 rfl (World.shaped_of_RefB (by kernel_rfl) (by kernel_rfl)) (by kernel_rfl) (by kernel_rfl) (by kernel_rfl) (door_met os _)) ?_
  intro W base args ds gs before hval0 hW _ _ hL _
  have hval : ∀ (j : Nat) t v, Eajg.f4.params[j]? = some t → args[j]? = some v → Value.okWide Eajg.prog W .any base t v := hval0
  have hW' := hW
  obtain ⟨p, q, hA0, hV, rfl, hfz, hnd⟩ := hW
  have hA : DataW.TrodAll enc Eajg.prog W 0 (fun _ => true) true Eajg.f4.params.toList args.toList ds p := hA0
  have hV' : DataW.TrodVars enc Eajg.prog W (fun _ => true) Rows.fnBranchSpanCoversKeywordAndLabelSpec.vars gs q := hV
  rw [Eajg.params4] at hA hval
  obtain ⟨v0, v1, v2, v3, d0, d1, d2, d3, p0, p1, p2, p3, rfl, rfl, rfl, h0, h1, h2, h3⟩ := trodAll_four hA
  obtain ⟨g, rfl⟩ : ∃ g, gs = [g] := by
    match gs, hV' with
    | [], h => exact h.elim
    | [g], _ => exact ⟨g, rfl⟩
    | _ :: _ :: _, h => obtain ⟨_, _, _, _, _, _, _, _, _, _, hs, _⟩ := h; exact hs.elim
  obtain ⟨tp, rfl, rfl, rfl, w0⟩ := open_int Eajg.underlying3 (hval 0 3 v0 rfl rfl) h0
  obtain ⟨ic, rfl, rfl, rfl⟩ := open_bool Eajg.underlying4 (hval 1 4 v1 rfl rfl) h1
  obtain ⟨gap, rfl, rfl, rfl, w2⟩ := open_int Eajg.underlying3 (hval 2 3 v2 rfl rfl) h2
  obtain ⟨s, rfl, rfl, rfl, hs⟩ := open_string Eajg.underlying9 (hval 3 9 v3 rfl rfl) h3
  obtain ⟨kb, hb, eb⟩ := at_of_laid hL 60 (by omega) _ texts60
  obtain ⟨kc, hc, ec⟩ := at_of_laid hL 61 (by omega) _ texts61
  have s5 : kb.size = 5 := congrArg List.length eb
  have s8 : kc.size = 8 := congrArg List.length ec
  refine (span_any tp gap ic s kb kc W hs hb hc s5 s8).mono fun e W' ⟨he, hbel⟩ => ?_
  subst he
  refine ⟨_, rfl, _, _, _, [], [], q, hW', ?_, ?_, ?_, hbel.frame _, fun h => by cases h⟩
  · exact trodAll_mk1 (shut_bool Eajg.underlying4 true)
  · exact trodAll_cons_mk (shut_int Eajg.underlying3 w0) (trodAll_cons_mk (shut_bool Eajg.underlying4 ic) (trodAll_cons_mk (shut_int Eajg.underlying3 w2) (trodAll_mk1 (shut_string Eajg.underlying9 hs))))
  · exact Below.trodVars Eajg.laidOut hbel (by kernel_rfl) hV'

theorem span_holds : Rows.FnBranchSpanCoversKeywordAndLabelSaid :=
  OpenClaim.holds_of_wide 4 Eajg.f4 rfl rfl rfl rfl rfl rfl rfl ⟨rfl, rfl, rfl, rfl, rfl⟩ rfl rfl rfl rfl rfl (by kernel_rfl) Eajg.func4 (by kernel_rfl)
    (of_decide_eq_true (by kernel_rfl)) (by unfold Func.isWrapper; rw [if_neg (of_decide_eq_false (by kernel_rfl))]; exact ⟨rfl, rfl⟩)
    (fun os started H enc _ => span_lifted os started H enc)

end Go.Proofs.YoeajwDoor
