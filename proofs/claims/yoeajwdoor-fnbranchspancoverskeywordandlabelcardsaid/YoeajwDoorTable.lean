import Derived.Test.YoeajwDoorEnd
namespace Go.Proofs.YoeajwDoor
open Go.RowKit

theorem big_table (tp lp : Int) (ic hl : Bool) (s : ByteArray) (w : World) (hs : s.size ≤ maxLen) (hbig : 1048576 < s.size) :
    Calls Eajg.prog 3 #[.int .i64 tp, .bool ic, .bool hl, .string s, .int .i64 lp] w fun e w' => e = .returned (.bool true) ∧ Below w.heap.size w w' := by
  unfold maxLen at hs
  go_enter Eajg.func3, Eajg.ntmps3
  go_wp2
  go_ret
  exact ⟨rfl, Below.refl _ _⟩

set_option maxHeartbeats 400000 in
theorem table_lab (tp lp : Int) (ic : Bool) (s : ByteArray) (w : World) (hsm : s.size ≤ 1048576) :
    Calls Eajg.prog 3 #[.int .i64 tp, .bool ic, .bool true, .string s, .int .i64 lp] w fun e w' => e = .returned (.bool true) ∧ Below w.heap.size w w' := by
  cases ic <;>
  · go_enter Eajg.func3, Eajg.ntmps3
    go_wp2_with (first | (go_at_call 6; refine (end_lab w.heap.size (w.heap.size + 1) s lp _ (by simp) (by simp) (by simp)).mono ?_; rintro e w' ⟨rfl, n, rfl⟩) | (go_at_call 5; go_in))
    go_ret
    exact ⟨by simp, below_drewN (((Below.refl _ _).alloc (Nat.le_refl _) _).alloc (by simp) _) _⟩


theorem pos_of_cell {w : World} {o : Nat} {v : Value} (h : w.cell? ⟨0, o, none⟩ = some v) : 0 < w.heap.size := by
  rcases Nat.eq_zero_or_pos w.heap.size with h0 | h1
  · simp [World.cell?, h0] at h
  · exact h1

theorem cell_alloc_drewN {w : World} {o : Nat} {v : Value} (h : w.cell? ⟨0, o, none⟩ = some v) (ob : Obj) (n : Nat) : ((w.alloc ob).drewN n).cell? ⟨0, o, none⟩ = some v := by
  have hp := pos_of_cell h
  rw [show ((w.alloc ob).drewN n).cell? ⟨0, o, none⟩ = (w.alloc ob).cell? ⟨0, o, none⟩ from rfl, World.cell?_alloc_lt _ _ ⟨0, o, none⟩ hp]
  exact h

theorem nonempty_of_size {s : ByteArray} {n : Nat} (h : s.size = n + 1) : s.toList.isEmpty = false := by
  rcases hl : s.toList with _ | ⟨x, l⟩
  · have : s.toList.length = s.size := by rw [ByteArray.toList_eq]; rfl
    rw [hl] at this
    simp at this
    omega
  · rfl

set_option maxHeartbeats 400000 in
theorem table_bare (tp lp : Int) (s kb kc : ByteArray) (w : World) (hsm : s.size ≤ 1048576) (hb : w.cell? ⟨0, 60, none⟩ = some (.string kb)) (hc : w.cell? ⟨0, 61, none⟩ = some (.string kc)) (h5 : kb.size = 5) (h8 : kc.size = 8) (ic : Bool) :
    Calls Eajg.prog 3 #[.int .i64 tp, .bool ic, .bool false, .string s, .int .i64 lp] w fun e w' => e = .returned (.bool true) ∧ Below w.heap.size w w' := by
  have nb := nonempty_of_size h5
  have nc := nonempty_of_size h8
  have hb' := cell_alloc_drewN hb
  have hc' := cell_alloc_drewN hc
  cases ic
  · have H := hide (fun ob n => tok_break kb ((w.alloc ob).drewN n) (hb' ob n) nb)
    have H5 := hide h5
    clear hb' hc' hb hc h5 h8 nb nc
    go_enter Eajg.func3, Eajg.ntmps3
    go_wp2_with (first | (go_at_call 6; refine (end_bare w.heap.size 60 kb tp _ (by simp) (by simp) (by simp) (unhide H _)).mono ?_; rintro e w' ⟨rfl, n, rfl⟩) | (go_at_call 5; go_in))
    go_ret
    exact ⟨by simp [unhide H5], below_drewN ((Below.refl _ _).alloc (Nat.le_refl _) _) _⟩
  · have H := hide (fun ob n => tok_cont kc ((w.alloc ob).drewN n) (hc' ob n) nc)
    have H8 := hide h8
    clear hb' hc' hb hc h5 h8 nb nc
    go_enter Eajg.func3, Eajg.ntmps3
    go_wp2_with (first | (go_at_call 6; refine (end_bare w.heap.size 61 kc tp _ (by simp) (by simp) (by simp) (unhide H _)).mono ?_; rintro e w' ⟨rfl, n, rfl⟩) | (go_at_call 5; go_in))
    go_ret
    exact ⟨by simp [unhide H8], below_drewN ((Below.refl _ _).alloc (Nat.le_refl _) _) _⟩

theorem table_any (tp lp : Int) (ic hl : Bool) (s kb kc : ByteArray) (w : World) (hs : s.size ≤ maxLen) (hb : w.cell? ⟨0, 60, none⟩ = some (.string kb)) (hc : w.cell? ⟨0, 61, none⟩ = some (.string kc)) (h5 : kb.size = 5) (h8 : kc.size = 8) :
    Calls Eajg.prog 3 #[.int .i64 tp, .bool ic, .bool hl, .string s, .int .i64 lp] w fun e w' => e = .returned (.bool true) ∧ Below w.heap.size w w' := by
  by_cases hbig : 1048576 < s.size
  · exact big_table tp lp ic hl s w hs hbig
  · cases hl
    · exact table_bare tp lp s kb kc w (by omega) hb hc h5 h8 ic
    · exact table_lab tp lp ic s w (by omega)

end Go.Proofs.YoeajwDoor
