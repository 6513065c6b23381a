import Derived.Test.YoeajwDoorRows
import Derived.ProofKit
import Derived.LaidMore
import Derived.OpenShut
import Derived.Stop.Joined
import Derived.OpenVars
namespace Go.Proofs.YoeajwDoor
open Go.ChangeShapes Go.WideShapes Go.ChangeAt Go.RowKit

theorem Eajg.own : ownKnob Eajg.prog.godebug = none := by kernel_rfl
theorem Eajg.laidOut : laidOutB Eajg.prog = true := by kernel_rfl
def tokName : String := Rows.fnBranchEndTableSpec.vars.headD ""
theorem gTok : Eajg.prog.globalNamed tokName = some 0 := by kernel_rfl
theorem tTok : (Eajg.prog.globals[0]?).map (·.type) = some 36 := by kernel_rfl
theorem cells9 : Eajg.prog.cellsOf 9 = 1 := by kernel_rfl

def laid4 : List (String × DataW Unit) := Rows.fnBranchEndTableRow.laid

theorem door_met (os : Os) (args : Array Value) : laidMetH Eajg.prog laid4 ((World.doorLaid Eajg.prog 29 os).forCall (fun _ _ => 0) ⟨#[], args, []⟩).memory :=
  laidMetH_of_parts3 (fuel := 8) (laidMet_of_run' 8 (by kernel_rfl) (by kernel_rfl)) (by kernel_rfl) (by kernel_rfl)

/-- The list of the table's texts. -/
def texts : List (DataW Unit) := match Rows.laid_github_com_d5_tengo_v2_token_tokens (H := Unit) with
  | .agg l => l
  | _ => []

theorem texts60 : texts[60]? = some (.lit (.string [98, 114, 101, 97, 107])) := rfl
theorem texts61 : texts[61]? = some (.lit (.string [99, 111, 110, 116, 105, 110, 117, 101])) := rfl

theorem at_of_laid {W : World} (h : laidMetH Eajg.prog laid4 W) (i : Nat) (hi : i < 75) (bs : List UInt8) (ht : texts[i]? = some (.lit (.string bs))) :
    ∃ s : ByteArray, W.cell? ⟨0, i, none⟩ = some (.string s) ∧ s.data.toList = bs := by
  rw [MakeChecks.laidMetH_plain _ _ _ (by kernel_rfl)] at h
  obtain ⟨ps, ⟨_, _, _, _, _, _, _, _, _, _, ⟨_, _, _, _, _, _, _, _, _, _, ⟨_, _, _, _, _, _, _, _, _, _, ⟨g, t, cs, f, p, q, hg, hty, hv, hd, _, _⟩, _⟩, _⟩, _⟩, _, _⟩ := h
  have hg' : Eajg.prog.globalNamed tokName = some g := hg
  obtain rfl := Option.some.inj (gTok.symm.trans hg')
  obtain rfl := Option.some.inj (tTok.symm.trans hty)
  obtain ⟨xs, m, rfl, hx, hlen, hn, hel⟩ := DataW.trod_array Eajg.underlying36 hd
  have e := hel i hi
  simp only [Prod.mk.injEq] at hx
  have hxs : texts = xs.map (·.1) := by
    have := hx.1
    unfold texts
    rw [this]
  rw [hxs, List.getElem?_map] at ht
  rw [cells9, Nat.mul_one] at e
  rcases hxi : xs[i]? with _ | x
  · rw [hxi] at ht; simp at ht
  · rw [hxi] at ht e
    obtain ⟨s, e1, e2, _⟩ := DataW.trod_string Eajg.underlying9 e
    refine ⟨s, ?_, ?_⟩
    · have := World.var?_cell hg hv i
      rw [this]
      have hti : (cs.toList.drop i)[0]? = some (.string s) := by
        have h2 := congrArg (·[0]?) e1
        simpa [List.getElem?_take] using h2
      simpa using hti
    · rw [e2] at ht
      simpa using ht

#print axioms at_of_laid
end Go.Proofs.YoeajwDoor
