import Derived.Test.YoeajwSplits
import Derived.Test.YoeajwSplitsNone
import Derived.Test.YoeajwOpen
namespace Go.Proofs.Yoeajw
open Go.ChangeShapes Go.WideShapes Go.ChangeAt Go.RowKit
open Go.WideMaps Go.WideElems

set_option maxRecDepth 100000 in
theorem splits_lifted (os : Os) (started : os.Started) (H : Type) (enc : TypeId × Value → H) :
    ReturnsInHanded {} Eajg.checked os 4 .any (Rows.fnBlockStringSplitsBackSpec.pre6 enc Eajg.prog Eajg.f4 Rows.fnBlockStringSplitsBackRow.domain false) (Rows.fnBlockStringSplitsBackSpec.post enc Eajg.prog Eajg.f4 false true false false) := by
  refine returnsInHanded_of_change (C := Eajg.checked) Eajg.own started (by kernel_rfl) Eajg.func4
    (ChangeSpec.witness6 (enc := enc) (C := Eajg.checked) false ⟨#[], #[.slice none 0 0], []⟩ 8 (by kernel_rfl) (by kernel_rfl) (by kernel_rfl) (by kernel_rfl)) ?_
  intro W base args ds gs before hval0 hW hcnd _
  have hval : ∀ (j : Nat) t v, Eajg.f4.params[j]? = some t → args[j]? = some v → Value.okWide Eajg.prog W .any base t v := hval0
  have hW' := hW
  obtain ⟨p, q, hA0, hV, rfl, hfz, hnd⟩ := hW
  have hA : DataW.TrodAll enc Eajg.prog W 0 (fun _ => true) true Eajg.f4.params.toList args.toList ds p := hA0
  rw [Eajg.params4] at hA hval
  obtain ⟨v0, d0, rfl, rfl, h0⟩ := trodAll_one hA
  obtain ⟨rfl, rfl⟩ := trodVars_none hV
  have hlt : ∀ x ∈ p, x.block < W.heap.size := fun x hx => by simpa using hW'.lt x (by simp [hx])
  have walk : Calls Eajg.prog 4 #[v0] W fun e w' => e = .returned (.bool true) ∧ Below W.heap.size W w' := by
    rcases names_open (hval 0 23 v0 rfl rfl) h0 with ⟨a, cap, rfl⟩ | ⟨b, off, cap, xs, rfl, h1, h2, h3, h4, h5⟩
    · exact splits_none a cap W
    · exact splits_some b off cap xs W h1 h2 h3 h4 h5
  refine walk.mono fun e W' ⟨he, hbel⟩ => ?_
  subst he
  refine ⟨_, rfl, _, _, _, [], p, [], hW', ?_, ?_, rfl, hbel.frame _, fun h => by cases h⟩
  · exact trodAll_mk1 (shut_bool Eajg.underlying4 true)
  · exact trodAll_mk1 (Below.trod Eajg.laidOut (by kernel_rfl) (of_decide_eq_true (by kernel_rfl)) h0 hbel hlt)

theorem splits_holds : Rows.FnBlockStringSplitsBackSaid :=
  OpenClaim.holds_of_wide 4 Eajg.f4 rfl rfl rfl rfl rfl rfl rfl ⟨rfl, rfl, rfl, rfl, rfl⟩ rfl rfl rfl rfl rfl (by kernel_rfl) Eajg.func4 (by kernel_rfl)
    (of_decide_eq_true (by kernel_rfl)) (by unfold Func.isWrapper; rw [if_neg (of_decide_eq_false (by kernel_rfl))]; exact ⟨rfl, rfl⟩)
    (fun os started H enc _ => splits_lifted os started H enc)
#print axioms splits_holds
end Go.Proofs.Yoeajw
