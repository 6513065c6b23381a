import Derived.Test.YoeajwNames
import Derived.Test.YoeajwSplitsNone
namespace Go.Proofs.Yoeajw
open Go.RowKit

/-- A slice's address, and the strings behind it. -/
def StrsAt (W : World) (a : Option Addr) (xs : List ByteArray) : Prop :=
  ∀ (j : Nat) x, xs[j]? = some x → ∃ b off, a = some ⟨b, off, none⟩ ∧ b < W.heap.size ∧ W.cell? ⟨b, off + j, none⟩ = some (.string x)
def IntsAt (W : World) (a : Option Addr) (zs : List Int) : Prop :=
  ∀ (j : Nat) z, zs[j]? = some z → ∃ b off, a = some ⟨b, off, none⟩ ∧ b < W.heap.size ∧ W.cell? ⟨b, off + j, none⟩ = some (.int .i64 z)

theorem StrsAt.later {W W' : World} {a : Option Addr} {xs : List ByteArray} {B : Nat} (h : StrsAt W a xs) (hB : W.heap.size ≤ B) (hb : Below B W W') : StrsAt W' a xs := fun j x hx => by
  obtain ⟨b, off, ha, hlt, hc⟩ := h j x hx
  exact ⟨b, off, ha, Nat.lt_of_lt_of_le hlt hb.size, (hb.cell (p := ⟨b, off + j, none⟩) (Nat.lt_of_lt_of_le hlt hB)).trans hc⟩
theorem IntsAt.later {W W' : World} {a : Option Addr} {zs : List Int} {B : Nat} (h : IntsAt W a zs) (hB : W.heap.size ≤ B) (hb : Below B W W') : IntsAt W' a zs := fun j x hx => by
  obtain ⟨b, off, ha, hlt, hc⟩ := h j x hx
  exact ⟨b, off, ha, Nat.lt_of_lt_of_le hlt hb.size, (hb.cell (p := ⟨b, off + j, none⟩) (Nat.lt_of_lt_of_le hlt hB)).trans hc⟩

set_option maxHeartbeats 400000 in
theorem zzm_any (ak an : Option Addr) (n capk capn : Nat) (xs : List ByteArray) (w : World) (hn : n ≤ maxLen) (hm : xs.length ≤ maxLen) (hsz : ∀ (j : Nat) x, xs[j]? = some x → x.size ≤ maxLen)
    (hc : StrsAt w an xs) :
    Calls Eajg.prog 5 #[.slice ak n capk, .slice an xs.length capn] w (ZzPost xs w) := by
  unfold maxLen at hn hm hsz
  have HC := hide hc
  have HZ := hide hsz
  clear hc hsz
  by_cases hbig : 1048576 < n
  · go_enter Eajg.func5, Eajg.ntmps5
    go_wp2
    go_ret
    exact ⟨_, rfl, rfl, fun h => by cases h⟩
  by_cases hbig2 : 1048576 < xs.length
  · go_enter Eajg.func5, Eajg.ntmps5
    go_wp2
    go_ret
    exact ⟨_, rfl, rfl, fun h => by cases h⟩
  by_cases hbig3 : 1048576 < n + xs.length
  · go_enter Eajg.func5, Eajg.ntmps5
    go_wp2
    go_ret
    exact ⟨_, rfl, rfl, fun h => by cases h⟩
  · have t1 : decide ((1048576 : Int) < (n : Int)) = false := by simp; omega
    have t2 : decide ((1048576 : Int) < (xs.length : Int)) = false := by simp; omega
    have t3 : decide ((1048576 : Int) < (n : Int) + (xs.length : Int)) = false := by simp; omega
    go_enter Eajg.func5, Eajg.ntmps5
    go_wp2
    go_loop [5, 6] (fun z i => ∃ k q : Nat, k ≤ xs.length ∧ i = .int .i64 k ∧ z = .int .i64 q ∧ q ≤ 1048576 ∧ (∀ (j : Nat) x, j < k → xs[j]? = some x → x.size ≤ 1048576)) (fun _ i => xs.length - (intOf i).toNat)
    case atStart => exact ⟨0, n + xs.length, Nat.zero_le _, rfl, by go_num, by omega, fun j x h => absurd h (by omega)⟩
    case round =>
      obtain ⟨k, q, hk, rfl, rfl, hq, hsm⟩ := hrel
      have HSM := hide hsm
      clear hsm
      by_cases hlt : k < xs.length
      · obtain ⟨x, hx⟩ : ∃ x, xs[k]? = some x := ⟨_, List.getElem?_eq_getElem hlt⟩
        obtain ⟨b, off, ha, _, hcell⟩ := unhide HC k x hx
        subst ha
        have hx63 := unhide HZ k x hx
        have HX := hide hx
        clear hx
        by_cases hxb : 1048576 < x.size
        · go_wp2
          go_ret
          exact ⟨_, rfl, rfl, fun h => by cases h⟩
        · by_cases hsum : 1048576 < q + x.size
          · go_wp2
            go_ret
            exact ⟨_, rfl, rfl, fun h => by cases h⟩
          · go_wp2
            go_round
            case rel =>
              refine ⟨k + 1, q + x.size, by omega, by go_num, by go_num, by omega, fun j y hj hy => ?_⟩
              by_cases hjk : j = k
              · subst hjk
                rw [unhide HX] at hy
                cases hy
                omega
              · exact unhide HSM j y (by omega) hy
            case measure => simp [intOf]; omega
      · go_wp2
        go_ret
        exact ⟨_, rfl, rfl, fun _ j y hy => unhide HSM j y (by have := (List.getElem?_eq_some_iff.1 hy).1; omega) hy⟩

/-- copyStrings at whatever slice of strings. -/
theorem copyS_any (a : Option Addr) (cap : Nat) (xs : List ByteArray) (w : World) (hn : xs.length ≤ 1048576) (hc : StrsAt w a xs) :
    Calls Eajg.prog 7 #[.slice a xs.length cap] w fun e w' => ∃ a', e = .returned (.slice a' xs.length xs.length) ∧ StrsAt w' a' xs ∧ Below w.heap.size w w' := by
  rcases xs with _ | ⟨x, xs⟩
  · refine (copy_none a cap w).mono ?_
    rintro e w' ⟨⟨a', rfl⟩, hb⟩
    exact ⟨a', rfl, fun j x h => by simp at h, hb⟩
  · obtain ⟨b, off, rfl, hlt, _⟩ := hc 0 x rfl
    refine (copy_any b off cap (x :: xs) w hlt hn (fun j y hy => ?_)).mono ?_
    · obtain ⟨b', off', hab, _, hcell⟩ := hc j y hy
      cases hab
      exact hcell
    · rintro e w' ⟨rfl, hown, hb⟩
      refine ⟨_, rfl, fun j y hy => ⟨w.heap.size, 0, rfl, (hown.lt w.heap.size rfl).2, ?_⟩, hb⟩
      have hj := (List.getElem?_eq_some_iff.1 hy).1
      rw [Nat.zero_add, hown.cellAt j (by omega), List.getElem?_map, hy]
      rfl

/-- The copy's row behind k rounds. -/
def copyRowI (zs : List Int) (k : Nat) : List Value := (zs.take k).map (Value.int .i64) ++ List.replicate (zs.length - k) (.int .i64 0)

theorem copyRowI_at (xs : List Int) (k : Nat) (h : k < xs.length) : (copyRowI xs k)[k]? = some (.int .i64 0) := by
  unfold copyRowI
  rw [List.getElem?_append_right (by simp; omega), List.getElem?_replicate, if_pos (by simp; omega)]

theorem copyRowI_set (xs : List Int) (k : Nat) (x : Int) (hx : xs[k]? = some x) : (copyRowI xs k).set k (.int .i64 x) = copyRowI xs (k + 1) := by
  have h : k < xs.length := (List.getElem?_eq_some_iff.1 hx).1
  unfold copyRowI
  have e : xs.length - k = (xs.length - (k + 1)) + 1 := by omega
  rw [e, List.replicate_succ, List.set_append_right _ _ (by simp; omega), List.take_add_one, hx]
  simp
  have : k - min k xs.length = 0 := by omega
  simp [this]

theorem copyRowI_zero (xs : List Int) : copyRowI xs 0 = List.replicate xs.length (.int .i64 0) := by simp [copyRowI]
theorem copyRowI_all (xs : List Int) : copyRowI xs xs.length = xs.map (Value.int .i64) := by simp [copyRowI]

theorem copyI_step {xs : List Int} {x : Int} {k B g : Nat} {w wr : World} (hx : xs[k]? = some x) (hB : B ≤ g) (hlt : B ≤ wr.heap.size) (hbel : Below B w wr)
    (hown : wr.ownsRow g 3 1 (.slice (some ⟨g, 0, none⟩) xs.length xs.length) xs.length (copyRowI xs k)) :
    (wr.setCell ⟨g, k, none⟩ (.int .i64 x)).ownsRow g 3 1 (.slice (some ⟨g, 0, none⟩) xs.length xs.length) xs.length (copyRowI xs (k + 1)) ∧ Below B w (wr.setCell ⟨g, k, none⟩ (.int .i64 x)) := by
  obtain ⟨h1, h2⟩ := hown.stored k (.int .i64 x)
  rw [copyRowI_set xs k x hx] at h1
  exact ⟨h1, hbel.grown h2 hlt (fun j hj => by cases hj; exact hB)⟩

theorem Eajg.info3 : (Eajg.prog.info? 3).map (fun i => (i.zero, i.size, i.bytes)) = some (some (.int .i64 0), 1, 8) := by kernel_rfl

set_option maxHeartbeats 400000 in
theorem copyI_some (b off cap : Nat) (xs : List Int) (w : World) (hb : b < w.heap.size) (hn : xs.length ≤ 1048576)
    (hc : ∀ (j : Nat) x, xs[j]? = some x → w.cell? ⟨b, off + j, none⟩ = some (.int .i64 x)) :
    Calls Eajg.prog 6 #[.slice (some ⟨b, off, none⟩) xs.length cap] w fun e w' => e = .returned (.slice (some ⟨w.heap.size, 0, none⟩) xs.length xs.length) ∧
      w'.ownsRow w.heap.size 3 1 (.slice (some ⟨w.heap.size, 0, none⟩) xs.length xs.length) xs.length (xs.map (Value.int .i64)) ∧ Below w.heap.size w w' := by
  obtain ⟨i0, hi, hz0, hz1, hz2⟩ := info_parts Eajg.info3
  have HC := hide hc
  clear hc
  have hq := fun w => Lib.run_eql_slice_nil (P := Eajg.prog) w 22 3 (some ⟨b, off, none⟩) xs.length cap 0 0 Eajg.underlying22
  go_enter Eajg.func6, Eajg.ntmps6
  go_wp2_with (at_make; refine wpList_make_full _ rfl _ _ 22 rfl w.heap.size 3 i0 (.int .i64 0) 1 Eajg.underlying22 hi hz0 hz1 _ _ _ _ xs.length rfl rfl rfl rfl (by rw [hz2]; omega) (by unfold maxLen; omega) (Nat.le_refl _) ?_; intro w1 hown1 hgrow1)
  have hb1 : Below w.heap.size w w1 := (Below.refl _ _).grown hgrow1 (Nat.le_refl _) (by simp)
  have hown1' : w1.ownsRow w.heap.size 3 1 (.slice (some ⟨w.heap.size, 0, none⟩) xs.length xs.length) xs.length (copyRowI xs 0) := by
    rw [copyRowI_zero]
    have e : (madeCells (Value.cells (.int .i64 0)) (xs.length * 1)).toList = List.replicate xs.length (.int .i64 0) := by
      rw [Nat.mul_one]; exact toList_madeCells_one _ _
    rw [← e]; exact hown1
  clear hown1 hgrow1 hq
  go_loopw [4] (fun i wr => ∃ k : Nat, k ≤ xs.length ∧ i = .int .i64 k ∧ wr.ownsRow w.heap.size 3 1 (.slice (some ⟨w.heap.size, 0, none⟩) xs.length xs.length) xs.length (copyRowI xs k) ∧ Below w.heap.size w wr) (fun i _ => xs.length - (intOf i).toNat)
  case atStart => exact ⟨0, Nat.zero_le _, rfl, hown1', hb1⟩
  case round =>
    obtain ⟨k, hk, rfl, hown, hbel⟩ := hrel
    have hB := hbel.size
    by_cases hlt : k < xs.length
    · obtain ⟨x, hx⟩ : ∃ x, xs[k]? = some x := ⟨_, List.getElem?_eq_getElem hlt⟩
      have hcell : wr.cell? ⟨b, off + k, none⟩ = some (.int .i64 x) := (hbel.cell (p := ⟨b, off + k, none⟩) hb).trans (unhide HC k x hx)
      have hdst : wr.cell? ⟨w.heap.size, k, none⟩ = some (.int .i64 0) := (hown.cellAt k (by omega)).trans (copyRowI_at xs k hlt)
      have hfz : wr.frozen? ⟨w.heap.size, k, none⟩ = false := hown.frozenAt k
      have R := copyI_step hx (Nat.le_refl _) hB hbel hown
      have HR := hide R
      clear R hx hown
      go_wp2
      go_roundw
      case rel => exact ⟨k + 1, by omega, by go_num, (unhide HR).1, (unhide HR).2⟩
      case measure => simp [intOf]; omega
    · obtain rfl : k = xs.length := by omega
      rw [copyRowI_all] at hown
      go_wp2
      go_ret
      exact ⟨rfl, hown, hbel⟩

theorem copyI_none (a : Option Addr) (cap : Nat) (w : World) :
    Calls Eajg.prog 6 #[.slice a 0 cap] w fun e w' => (∃ a', e = .returned (.slice a' 0 0)) ∧ Below w.heap.size w w' := by
  obtain ⟨i0, hi, hz0, hz1, hz2⟩ := info_parts Eajg.info3
  have hq := fun w => Lib.run_eql_slice_nil (P := Eajg.prog) w 22 3 a 0 cap 0 0 Eajg.underlying22
  cases a with
  | none =>
    go_enter Eajg.func6, Eajg.ntmps6
    go_wp2
    go_ret
    exact ⟨⟨_, rfl⟩, Below.refl _ _⟩
  | some a =>
    go_enter Eajg.func6, Eajg.ntmps6
    go_wp2_with (at_make; refine wpList_make_full _ rfl _ _ 22 rfl w.heap.size 3 i0 (.int .i64 0) 1 Eajg.underlying22 hi hz0 hz1 _ _ _ _ 0 rfl rfl rfl rfl (by omega) (by unfold maxLen; omega) (Nat.le_refl _) ?_; intro w1 hown1 hgrow1)
    have hb1 : Below w.heap.size w w1 := (Below.refl _ _).grown hgrow1 (Nat.le_refl _) (by simp)
    go_loop [4] (fun i => i = .int .i64 0) (fun _ => 0)
    case atStart => rfl
    case round =>
      obtain rfl := hrel
      go_wp2
      go_ret
      exact ⟨⟨_, rfl⟩, hb1⟩

/-- copyInts at whatever slice of ints. -/
theorem copyI_any (a : Option Addr) (cap : Nat) (xs : List Int) (w : World) (hn : xs.length ≤ 1048576) (hc : IntsAt w a xs) :
    Calls Eajg.prog 6 #[.slice a xs.length cap] w fun e w' => ∃ a', e = .returned (.slice a' xs.length xs.length) ∧ IntsAt w' a' xs ∧ Below w.heap.size w w' := by
  rcases xs with _ | ⟨x, xs⟩
  · refine (copyI_none a cap w).mono ?_
    rintro e w' ⟨⟨a', rfl⟩, hb⟩
    exact ⟨a', rfl, fun j x h => by simp at h, hb⟩
  · obtain ⟨b, off, rfl, hlt, _⟩ := hc 0 x rfl
    refine (copyI_some b off cap (x :: xs) w hlt hn (fun j y hy => ?_)).mono ?_
    · obtain ⟨b', off', hab, _, hcell⟩ := hc j y hy
      cases hab
      exact hcell
    · rintro e w' ⟨rfl, hown, hb⟩
      refine ⟨_, rfl, fun j y hy => ⟨w.heap.size, 0, rfl, (hown.lt w.heap.size rfl).2, ?_⟩, hb⟩
      have hj := (List.getElem?_eq_some_iff.1 hy).1
      rw [Nat.zero_add, hown.cellAt j (by omega), List.getElem?_map, hy]
      rfl

/-- sameText at a row that holds the text's own bytes. -/
theorem same_text (a : ByteArray) (g cap : Nat) (w : World) (hs : a.size ≤ maxLen)
    (hc : ∀ j, (h : j < a.size) → w.cell? ⟨g, j, none⟩ = some (.int .u8 (a[j]'h).toNat)) :
    Calls Eajg.prog 8 #[.string a, .slice (some ⟨g, 0, none⟩) a.size cap] w fun e w' => e = .returned (.bool true) ∧ ∃ n, w' = w.drewN n := by
  unfold maxLen at hs
  have HC := hide hc
  clear hc
  go_enter Eajg.func8, Eajg.ntmps8
  go_wp2
  go_loopw [5] (fun i wr => ∃ k n : Nat, k ≤ a.size ∧ i = .int .i64 k ∧ wr = w.drewN n) (fun i _ => a.size - (intOf i).toNat)
  case atStart => exact ⟨0, 0, Nat.zero_le _, rfl, rfl⟩
  case round =>
    obtain ⟨k, n, hk, rfl, rfl⟩ := hrel
    by_cases hlt : k < a.size
    · have hcell := unhide HC k hlt
      have hcell' : (w.drewN n).cell? ⟨g, k, none⟩ = some (.int .u8 (a[k]'hlt).toNat) := hcell
      go_wp2
      go_quiet (fail)
      go_wp2
      go_roundw
      case rel => exact ⟨k + 1, _, by omega, by go_num, rfl⟩
      case measure => simp [intOf]; omega
    · go_wp2
      go_ret
      exact ⟨rfl, _, rfl⟩

end Go.Proofs.Yoeajw
