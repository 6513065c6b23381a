import Derived.Test.YoeajwDoorEnd
import Derived.Lib.AppendStr
namespace Go.Proofs.YoeajwDoor
open Go.RowKit

/-- sameText at a row that holds the text's own bytes. -/
theorem same_text (a : ByteArray) (g cap : Nat) (w : World) (hs : a.size ≤ maxLen)
    (hc : ∀ j, (h : j < a.size) → w.cell? ⟨g, j, none⟩ = some (.int .u8 (a[j]'h).toNat)) :
    Calls Eajg.prog 9 #[.string a, .slice (some ⟨g, 0, none⟩) a.size cap] w fun e w' => e = .returned (.bool true) ∧ ∃ n, w' = w.drewN n := by
  unfold maxLen at hs
  have HC := hide hc
  clear hc
  go_enter Eajg.func9, Eajg.ntmps9
  go_wp2
  go_loopw [5] (fun i wr => ∃ k n : Nat, k ≤ a.size ∧ i = .int .i64 k ∧ wr = w.drewN n) (fun i _ => a.size - (intOf i).toNat)
  case atStart => exact ⟨0, 0, Nat.zero_le _, rfl, rfl⟩
  case round =>
    obtain ⟨k, n, hk, rfl, rfl⟩ := hrel
    by_cases hlt : k < a.size
    · have hcell := unhide HC k hlt
      have hcell' : (w.drewN n).cell? ⟨g, k, none⟩ = some (.int .u8 (a[k]'hlt).toNat) := hcell
      go_wp2
      go_quiet (fail)
      go_wp2
      go_roundw
      case rel => exact ⟨k + 1, _, by omega, by go_num, rfl⟩
      case measure => simp [intOf]; omega
    · go_wp2
      go_ret
      exact ⟨rfl, _, rfl⟩

end Go.Proofs.YoeajwDoor
