import Derived.Test.YoeajwDoorRows
import Derived.WalkKit
import Derived.WalkSpells
import Derived.WalkLawsBesides
import Derived.Deep.QuietTactic
import Derived.BigQuiet
namespace Go.Proofs.YoeajwDoor
open Go.RowKit

theorem hide {p : Prop} (h : p) : Hid p := h
theorem unhide {p : Prop} (h : Hid p) : p := h

set_option maxRecDepth 100000 in
set_option maxHeartbeats 400000 in
theorem tok_break (s : ByteArray) (w : World) (hc : w.cell? ⟨0, 60, none⟩ = some (.string s)) (hs : s.toList.isEmpty = false) :
    Calls Eajg.prog 11 #[.int .i64 60] w fun e w' => e = .returned (.string s) ∧ w' = w := by
  go_enter Eajg.func11, Eajg.ntmps11
  go_wp2
  go_ret
  exact ⟨rfl, rfl⟩

set_option maxRecDepth 100000 in
set_option maxHeartbeats 400000 in
theorem tok_cont (s : ByteArray) (w : World) (hc : w.cell? ⟨0, 61, none⟩ = some (.string s)) (hs : s.toList.isEmpty = false) :
    Calls Eajg.prog 11 #[.int .i64 61] w fun e w' => e = .returned (.string s) ∧ w' = w := by
  go_enter Eajg.func11, Eajg.ntmps11
  go_wp2
  go_ret
  exact ⟨rfl, rfl⟩

/-- The end of a label: its position and its length. -/
theorem ident_end (b : Nat) (s : ByteArray) (p : Int) (w : World) (h0 : w.cell? ⟨b, 0, none⟩ = some (.string s)) (h1 : w.cell? ⟨b, 1, none⟩ = some (.int .i64 p)) :
    Calls Eajg.prog 10 #[.pointer (some ⟨b, 0, none⟩)] w fun e w' => e = .returned (.int .i64 (wrap64 (p + s.size))) ∧ ∃ n, w' = w.drewN n := by
  go_enter Eajg.func10, Eajg.ntmps10
  go_wp2
  go_quiet (fail)
  go_wp2
  go_ret
  exact ⟨rfl, _, rfl⟩


/-- The end of a branch statement without a label. -/
theorem end_bare (b : Nat) (t : Int) (s : ByteArray) (p : Int) (w : World) (h0 : w.cell? ⟨b, 0, none⟩ = some (.int .i64 t)) (h1 : w.cell? ⟨b, 1, none⟩ = some (.int .i64 p)) (h2 : w.cell? ⟨b, 2, none⟩ = some (.pointer none))
    (ht : ∀ n, Calls Eajg.prog 11 #[.int .i64 t] (w.drewN n) fun e w' => e = .returned (.string s) ∧ w' = w.drewN n) :
    Calls Eajg.prog 6 #[.pointer (some ⟨b, 0, none⟩)] w fun e w' => e = .returned (.int .i64 (wrap64 (p + s.size))) ∧ ∃ n, w' = w.drewN n := by
  have H := hide ht
  clear ht
  go_enter Eajg.func6, Eajg.ntmps6
  go_wp2_with fail
  go_quiet ((go_at_call 11; exact Calls.quiet_of_same (unhide H _)))
  go_wp2
  go_ret
  exact ⟨rfl, _, rfl⟩

/-- The end of a branch statement with a label. -/
theorem end_lab (b c : Nat) (s : ByteArray) (p : Int) (w : World) (h2 : w.cell? ⟨b, 2, none⟩ = some (.pointer (some ⟨c, 0, none⟩))) (h0 : w.cell? ⟨c, 0, none⟩ = some (.string s)) (h1 : w.cell? ⟨c, 1, none⟩ = some (.int .i64 p)) :
    Calls Eajg.prog 6 #[.pointer (some ⟨b, 0, none⟩)] w fun e w' => e = .returned (.int .i64 (wrap64 (p + s.size))) ∧ ∃ n, w' = w.drewN n := by
  go_enter Eajg.func6, Eajg.ntmps6
  go_wp2_with (go_at_call 10; refine (ident_end c s p _ h0 h1).mono ?_; rintro e w' ⟨rfl, n, rfl⟩)
  go_ret
  exact ⟨rfl, _, rfl⟩

end Go.Proofs.YoeajwDoor
