import Derived.Test.YoeajwBlock
import Derived.Lib.SliceRun
namespace Go.Proofs.Yoeajw
open Go.RowKit

/-- The lengths of the first k names, summed. -/
def sumTo (xs : List ByteArray) (k : Nat) : Nat := ((xs.take k).map (·.size)).sum

theorem sumTo_succ (xs : List ByteArray) (k : Nat) (x : ByteArray) (h : xs[k]? = some x) : sumTo xs (k + 1) = sumTo xs k + x.size := by
  simp [sumTo, List.take_add_one, h]
theorem sumTo_zero (xs : List ByteArray) : sumTo xs 0 = 0 := rfl

/-- What zzBytes_FnBlockStringSplitsBack says of the names when it answers true: the lengths are small. -/
def Small (xs : List ByteArray) : Prop := ∀ (j : Nat) x, xs[j]? = some x → x.size ≤ 1048576

def ZzPost (xs : List ByteArray) (w : World) (e : Ending) (w' : World) : Prop := ∃ r : Bool, e = .returned (.bool r) ∧ w' = w ∧ (r = true → Small xs)

set_option maxHeartbeats 400000 in
theorem zz_any (b off cap : Nat) (xs : List ByteArray) (w : World) (hn : xs.length ≤ maxLen) (hsz : ∀ (j : Nat) x, xs[j]? = some x → x.size ≤ maxLen)
    (hc : ∀ (j : Nat) x, xs[j]? = some x → w.cell? ⟨b, off + j, none⟩ = some (.string x)) :
    Calls Eajg.prog 10 #[.slice (some ⟨b, off, none⟩) xs.length cap] w (ZzPost xs w) := by
  unfold maxLen at hn hsz
  have HC := hide hc
  have HZ := hide hsz
  clear hc hsz
  by_cases hbig : 1048576 < xs.length
  · go_enter Eajg.func10, Eajg.ntmps10
    go_wp2
    go_ret
    exact ⟨_, rfl, rfl, fun h => by cases h⟩
  · have t1 : decide ((1048576 : Int) < (xs.length : Int)) = false := by simp; omega
    go_enter Eajg.func10, Eajg.ntmps10
    go_wp2
    go_loop [3, 4] (fun z i => ∃ k q : Nat, k ≤ xs.length ∧ i = .int .i64 k ∧ z = .int .i64 q ∧ q ≤ 1048576 ∧ (∀ (j : Nat) x, j < k → xs[j]? = some x → x.size ≤ 1048576)) (fun _ i => xs.length - (intOf i).toNat)
    case atStart => exact ⟨0, xs.length, Nat.zero_le _, rfl, by go_num, by omega, fun j x h => absurd h (by omega)⟩
    case round =>
      obtain ⟨k, q, hk, rfl, rfl, hq, hsm⟩ := hrel
      have HSM := hide hsm
      clear hsm
      by_cases hlt : k < xs.length
      · obtain ⟨x, hx⟩ : ∃ x, xs[k]? = some x := ⟨_, List.getElem?_eq_getElem hlt⟩
        have hcell := unhide HC k x hx
        have hx63 := unhide HZ k x hx
        have HX := hide hx
        clear hx
        by_cases hxb : 1048576 < x.size
        · go_wp2
          go_ret
          exact ⟨_, rfl, rfl, fun h => by cases h⟩
        · by_cases hsum : 1048576 < q + x.size
          · go_wp2
            go_ret
            exact ⟨_, rfl, rfl, fun h => by cases h⟩
          · go_wp2
            go_round
            case rel =>
              refine ⟨k + 1, q + x.size, by omega, by go_num, by go_num, by omega, fun j y hj hy => ?_⟩
              by_cases hjk : j = k
              · subst hjk
                rw [unhide HX] at hy
                cases hy
                omega
              · exact unhide HSM j y (by omega) hy
            case measure => simp [intOf]; omega
      · go_wp2
        go_ret
        exact ⟨_, rfl, rfl, fun _ j y hy => unhide HSM j y (by have := (List.getElem?_eq_some_iff.1 hy).1; omega) hy⟩

/-- The copy's row behind k rounds. -/
def copyRow (xs : List ByteArray) (k : Nat) : List Value := (xs.take k).map Value.string ++ List.replicate (xs.length - k) (.string ⟨#[]⟩)

theorem copyRow_at (xs : List ByteArray) (k : Nat) (h : k < xs.length) : (copyRow xs k)[k]? = some (.string ⟨#[]⟩) := by
  unfold copyRow
  rw [List.getElem?_append_right (by simp; omega), List.getElem?_replicate, if_pos (by simp; omega)]

theorem copyRow_set (xs : List ByteArray) (k : Nat) (x : ByteArray) (hx : xs[k]? = some x) : (copyRow xs k).set k (.string x) = copyRow xs (k + 1) := by
  have h : k < xs.length := (List.getElem?_eq_some_iff.1 hx).1
  unfold copyRow
  have e : xs.length - k = (xs.length - (k + 1)) + 1 := by omega
  rw [e, List.replicate_succ, List.set_append_right _ _ (by simp; omega), List.take_add_one, hx]
  simp
  have : k - min k xs.length = 0 := by omega
  simp [this]

theorem copyRow_zero (xs : List ByteArray) : copyRow xs 0 = List.replicate xs.length (.string ⟨#[]⟩) := by simp [copyRow]
theorem copyRow_all (xs : List ByteArray) : copyRow xs xs.length = xs.map Value.string := by simp [copyRow]

theorem copy_step {xs : List ByteArray} {x : ByteArray} {k B g : Nat} {w wr : World} (hx : xs[k]? = some x) (hB : B ≤ g) (hlt : B ≤ wr.heap.size) (hbel : Below B w wr)
    (hown : wr.ownsRow g 9 1 (.slice (some ⟨g, 0, none⟩) xs.length xs.length) xs.length (copyRow xs k)) :
    (wr.setCell ⟨g, k, none⟩ (.string x)).ownsRow g 9 1 (.slice (some ⟨g, 0, none⟩) xs.length xs.length) xs.length (copyRow xs (k + 1)) ∧ Below B w (wr.setCell ⟨g, k, none⟩ (.string x)) := by
  obtain ⟨h1, h2⟩ := hown.stored k (.string x)
  rw [copyRow_set xs k x hx] at h1
  exact ⟨h1, hbel.grown h2 hlt (fun j hj => by cases hj; exact hB)⟩

set_option maxHeartbeats 400000 in
theorem copy_any (b off cap : Nat) (xs : List ByteArray) (w : World) (hb : b < w.heap.size) (hn : xs.length ≤ 1048576)
    (hc : ∀ (j : Nat) x, xs[j]? = some x → w.cell? ⟨b, off + j, none⟩ = some (.string x)) :
    Calls Eajg.prog 7 #[.slice (some ⟨b, off, none⟩) xs.length cap] w fun e w' => e = .returned (.slice (some ⟨w.heap.size, 0, none⟩) xs.length xs.length) ∧
      w'.ownsRow w.heap.size 9 1 (.slice (some ⟨w.heap.size, 0, none⟩) xs.length xs.length) xs.length (xs.map Value.string) ∧ Below w.heap.size w w' := by
  obtain ⟨i0, hi, hz0, hz1, hz2⟩ := info_parts Eajg.info9
  have HC := hide hc
  clear hc
  have hq := fun w => Lib.run_eql_slice_nil (P := Eajg.prog) w 23 9 (some ⟨b, off, none⟩) xs.length cap 0 0 Eajg.underlying23
  go_enter Eajg.func7, Eajg.ntmps7
  go_wp2_with (at_make; go_must (refine wpList_make_full _ rfl _ _ 23 rfl w.heap.size 9 i0 (.string ⟨#[]⟩) 1 Eajg.underlying23 hi hz0 hz1 _ _ _ _ xs.length rfl rfl rfl rfl (by rw [hz2]; omega) (by unfold maxLen; omega) (Nat.le_refl _) ?_); intro w1 hown1 hgrow1)
  have hb1 : Below w.heap.size w w1 := (Below.refl _ _).grown hgrow1 (Nat.le_refl _) (by simp)
  have hown1' : w1.ownsRow w.heap.size 9 1 (.slice (some ⟨w.heap.size, 0, none⟩) xs.length xs.length) xs.length (copyRow xs 0) := by
    rw [copyRow_zero]
    have e : (madeCells (Value.cells (.string ⟨#[]⟩)) (xs.length * 1)).toList = List.replicate xs.length (.string ⟨#[]⟩) := by
      rw [Nat.mul_one]; exact toList_madeCells_one _ _
    rw [← e]; exact hown1
  clear hown1 hgrow1 hq
  go_loopw [4] (fun i wr => ∃ k : Nat, k ≤ xs.length ∧ i = .int .i64 k ∧ wr.ownsRow w.heap.size 9 1 (.slice (some ⟨w.heap.size, 0, none⟩) xs.length xs.length) xs.length (copyRow xs k) ∧ Below w.heap.size w wr) (fun i _ => xs.length - (intOf i).toNat)
  case atStart => exact ⟨0, Nat.zero_le _, rfl, hown1', hb1⟩
  case round =>
    obtain ⟨k, hk, rfl, hown, hbel⟩ := hrel
    have hB := hbel.size
    by_cases hlt : k < xs.length
    · obtain ⟨x, hx⟩ : ∃ x, xs[k]? = some x := ⟨_, List.getElem?_eq_getElem hlt⟩
      have hcell : wr.cell? ⟨b, off + k, none⟩ = some (.string x) := (hbel.cell (p := ⟨b, off + k, none⟩) hb).trans (unhide HC k x hx)
      have hdst : wr.cell? ⟨w.heap.size, k, none⟩ = some (.string ⟨#[]⟩) := (hown.cellAt k (by omega)).trans (copyRow_at xs k hlt)
      have hfz : wr.frozen? ⟨w.heap.size, k, none⟩ = false := hown.frozenAt k
      have R := copy_step hx (Nat.le_refl _) hB hbel hown
      have HR := hide R
      clear R hx hown
      go_wp2
      go_roundw
      case rel => exact ⟨k + 1, by omega, by go_num, (unhide HR).1, (unhide HR).2⟩
      case measure => simp [intOf]; omega
    · obtain rfl : k = xs.length := by omega
      rw [copyRow_all] at hown
      go_wp2
      go_ret
      exact ⟨rfl, hown, hbel⟩

end Go.Proofs.Yoeajw
