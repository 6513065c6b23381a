import Derived.Test.YoeajwStmts
namespace Go.Proofs.Yoeajw
open Go.RowKit

/-- No names: nil, or an empty slice. -/
theorem zz_none (a : Option Addr) (cap : Nat) (w : World) :
    Calls Eajg.prog 10 #[.slice a 0 cap] w fun e w' => e = .returned (.bool true) ∧ w' = w := by
  go_enter Eajg.func10, Eajg.ntmps10
  go_wp2
  go_loop [4] (fun i => i = .int .i64 0) (fun _ => 0)
  case atStart => rfl
  case round =>
    obtain rfl := hrel
    go_wp2
    go_ret
    exact ⟨rfl, rfl⟩

theorem copy_none (a : Option Addr) (cap : Nat) (w : World) :
    Calls Eajg.prog 7 #[.slice a 0 cap] w fun e w' => (∃ a', e = .returned (.slice a' 0 0)) ∧ Below w.heap.size w w' := by
  obtain ⟨i0, hi, hz0, hz1, hz2⟩ := info_parts Eajg.info9
  have hq := fun w => Lib.run_eql_slice_nil (P := Eajg.prog) w 23 9 a 0 cap 0 0 Eajg.underlying23
  cases a with
  | none =>
    go_enter Eajg.func7, Eajg.ntmps7
    go_wp2
    go_ret
    exact ⟨⟨_, rfl⟩, Below.refl _ _⟩
  | some a =>
    go_enter Eajg.func7, Eajg.ntmps7
    go_wp2_with (at_make; refine wpList_make_full _ rfl _ _ 23 rfl w.heap.size 9 i0 (.string ⟨#[]⟩) 1 Eajg.underlying23 hi hz0 hz1 _ _ _ _ 0 rfl rfl rfl rfl (by omega) (by unfold maxLen; omega) (Nat.le_refl _) ?_; intro w1 hown1 hgrow1)
    have hb1 : Below w.heap.size w w1 := (Below.refl _ _).grown hgrow1 (Nat.le_refl _) (by simp)
    go_loop [4] (fun i => i = .int .i64 0) (fun _ => 0)
    case atStart => rfl
    case round =>
      obtain rfl := hrel
      go_wp2
      go_ret
      exact ⟨⟨_, rfl⟩, hb1⟩

set_option maxRecDepth 100000 in
set_option maxHeartbeats 1000000 in
theorem splits_none (a : Option Addr) (cap : Nat) (w : World) :
    Calls Eajg.prog 4 #[.slice a 0 cap] w fun e w' => e = .returned (.bool true) ∧ Below w.heap.size w w' := by
  obtain ⟨i1, hi1, hy0, hy1, hy2⟩ := info_parts Eajg.info51
  have HZ := hide (zz_none a cap w)
  have HCP := hide (copy_none a cap w)
  go_enter Eajg.func4, Eajg.ntmps4
  go_wp2_with fail
  refine (unhide HZ).mono ?_
  rintro e w' ⟨rfl, hw'⟩
  rw [hw']
  clear hw' w' HZ
  go_wp2
  go_loop [4] (fun i => i = .int .i64 0) (fun _ => 0)
  case atStart => rfl
  case round =>
    obtain rfl := hrel
    go_wp2
    go_loop [5] (fun i => i = .int .i64 0) (fun _ => 0)
    case atStart => rfl
    case round =>
      obtain rfl := hrel
      go_wp2_with fail
      refine (unhide HCP).mono ?_
      rintro e w1 ⟨⟨a', rfl⟩, hb1⟩
      go_wp2_with (at_make; refine wpList_make_own _ rfl _ _ 27 rfl w1.heap.size 51 i1 .nilIface 1 Eajg.underlying27 hi1 hy0 hy1 _ _ _ 0 rfl rfl rfl (by omega) (by unfold maxLen; omega) (Nat.le_refl _) ?_; intro w2 hown2 hgrow2)
      have S0 : Stmts [] w1.heap.size 0 w1 0 [] w2 := ⟨rfl, hown2, fun j v s h => by simp at h, (Below.refl _ _).grown hgrow2 (Nat.le_refl _) (by simp)⟩
      have HTX := hide (Stmts.text (xs := []) S0 (by simp) (by simp [sumTo]) (.int .i64 0) (.int .i64 0))
      have hb2 : Below w.heap.size w w2 := hb1.trans (S0.bel.mono hb1.size)
      clear S0 hown2 hgrow2
      go_loop [7, 8] (fun v i => v = .slice (some ⟨w1.heap.size, 0, none⟩) 0 0 ∧ i = .int .i64 0) (fun _ _ => 0)
      case atStart => exact ⟨rfl, rfl⟩
      case round =>
        obtain ⟨rfl, rfl⟩ := hrel
        go_wp2_with fail
        refine (unhide HTX).mono ?_
        rintro e w5 ⟨rfl, hb5⟩
        have hbw5 : Below w.heap.size w w5 := (hb2.alloc (by have := hb2.size; omega) _).trans (hb5.mono (by have := hb2.size; simp; omega))
        rw [show blockStr [] = ⟨#[123, 125]⟩ from rfl]
        clear HTX hb5 hb2 hb1
        go_wp2
        go_ret
        exact ⟨rfl, hbw5⟩

end Go.Proofs.Yoeajw
