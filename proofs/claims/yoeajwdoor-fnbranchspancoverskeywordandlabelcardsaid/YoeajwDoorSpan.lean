import Derived.Test.YoeajwDoorSame
import Derived.Test.YoeajwDoorTable
import Derived.Deep.AppendLies
namespace Go.Proofs.YoeajwDoor
open Go.RowKit

theorem Eajg.info5 : (Eajg.prog.info? 5).map (fun i => (i.zero, i.size, i.bytes)) = some (some (.int .u8 0), 1, 1) := by kernel_rfl

theorem span_out (tp gap : Int) (ic : Bool) (s : ByteArray) (w : World) (hs : s.size ≤ maxLen)
    (h : 1048576 < s.size ∨ (s.size ≤ 1048576 ∧ 524288 < s.size) ∨ (s.size ≤ 524288 ∧ tp < 1) ∨ (s.size ≤ 524288 ∧ 1 ≤ tp ∧ 1099511627776 < tp) ∨ (s.size ≤ 524288 ∧ 1 ≤ tp ∧ tp ≤ 1099511627776 ∧ gap < 1) ∨ (s.size ≤ 524288 ∧ 1 ≤ tp ∧ tp ≤ 1099511627776 ∧ 1 ≤ gap ∧ 65536 < gap)) :
    Calls Eajg.prog 4 #[.int .i64 tp, .bool ic, .int .i64 gap, .string s] w fun e w' => e = .returned (.bool true) ∧ Below w.heap.size w w' := by
  unfold maxLen at hs
  rcases h with h | ⟨h, h'⟩ | ⟨h, h'⟩ | ⟨h, h', h''⟩ | ⟨h, h', h'', h3⟩ | ⟨h, h', h'', h3, h4⟩
  all_goals
    go_enter Eajg.func4, Eajg.ntmps4
    go_wp2
    go_ret
    exact ⟨rfl, Below.refl _ _⟩


/-- A string appended to a row of bytes that the call owns: the new value written out. -/
theorem wpList_append_str_lies {P : Program} (w : World) {ops : Array Oper} {rest : List Oper} {o : Oper} {a : Act} {Q : Exit → Act → World → Prop} (hgd : o.guard = none) (sl x : Operand) (t u : TypeId)
    (ho : o.op = .call { callee := .builtin .append, args := #[sl, x], argTypes := #[t, u] })
    (base : Nat) (e : TypeId) (i : TypeInfo) (ht : P.underlying t = some (.slice e)) (hu : P.underlying u = some .string) (hi : P.info? e = some i) (hz : i.zero = some (.int .u8 0))
    (hsize : i.size = 1) (hby : i.bytes = 1)
    (v : Value) (n : Nat) (xs : List Value) (hs : a.eval sl = v) (hown : w.ownsRow base e 1 v n xs) (s : ByteArray) (hx : a.eval x = .string s)
    (hpos : 0 < n + s.size) (h63 : n + s.size ≤ maxLen) (hbytes : n + s.size ≤ 140737488355328) (hbase : base ≤ w.heap.size)
    (h : ∀ g cap w', w'.ownsRow base e 1 (.slice (some ⟨g, 0, none⟩) (n + s.size) cap) (n + s.size) (xs ++ Lib.strCells s) → w.grownBy w' v.ownBlock → base ≤ g → g < w'.heap.size → n + s.size ≤ cap →
      wpList P ops Q rest (a.put o.dst (.slice (some ⟨g, 0, none⟩) (n + s.size) cap)) w') : wpList P ops Q (o :: rest) a w := by
  refine Lib.wpList_append_own_string w hgd sl x t u ho base e i ht hu hi hz hsize hby v n xs hs hown s hx h63 hbytes hbase ?_
  intro v' w' h1 h2 _
  obtain ⟨g, cap, rfl, hb, hg⟩ := h1.form hpos
  refine h g cap w' h1 h2 hb hg ?_
  rcases h1.2 with ⟨h0, _⟩ | ⟨g', cap', cur, hv, _, _, hn, _⟩
  · cases h0
  · cases hv; exact hn

def brk : ByteArray := ⟨#[98, 114, 101, 97, 107]⟩
def cont : ByteArray := ⟨#[99, 111, 110, 116, 105, 110, 117, 101]⟩
def rowAt (kw : ByteArray) (k : Nat) : List Value := Lib.strCells kw ++ List.replicate k (.int .u8 32)

theorem row_step {kw : ByteArray} {k n B : Nat} {w wr w1 : World} {v v' : Value} {ob : Obj} (hB : B ≤ wr.heap.size) (hbel : Below B w wr) (hown : wr.ownsRow B 5 1 v n (rowAt kw k))
    (hown' : w1.ownsRow B 5 1 v' (n + 1) (rowAt kw k ++ [.int .u8 32])) (hgrow : (wr.alloc ob).grownBy w1 v.ownBlock) :
    w1.ownsRow B 5 1 v' (n + 1) (rowAt kw (k + 1)) ∧ Below B w w1 := by
  refine ⟨?_, ?_⟩
  · have : rowAt kw (k + 1) = rowAt kw k ++ [.int .u8 32] := by simp [rowAt, List.replicate_succ']
    rw [this]; exact hown'
  · exact (hbel.alloc hB ob).grown hgrow (by simp; omega) (fun b hb => (hown.lt b hb).1)

/-- The end of a bare break statement, in a world that has kept the table. -/
theorem end_brk (B b : Nat) (tp : Int) (kb : ByteArray) (w W : World) (h1 : 1 ≤ tp) (h2 : tp ≤ 1099511627776) (hbel : Below B w W) (hB : 0 < B) (hc : w.cell? ⟨0, 60, none⟩ = some (.string kb)) (hk : kb.size = 5)
    (c0 : W.cell? ⟨b, 0, none⟩ = some (.int .i64 60)) (c1 : W.cell? ⟨b, 1, none⟩ = some (.int .i64 tp)) (c2 : W.cell? ⟨b, 2, none⟩ = some (.pointer none)) :
    Calls Eajg.prog 6 #[.pointer (some ⟨b, 0, none⟩)] W fun e w' => e = .returned (.int .i64 (tp + 5)) ∧ ∃ n, w' = W.drewN n := by
  have hcW : W.cell? ⟨0, 60, none⟩ = some (.string kb) := (hbel.cell (p := ⟨0, 60, none⟩) hB).trans hc
  refine (end_bare b 60 kb tp W c0 c1 c2 (fun n => tok_break kb (W.drewN n) hcW (nonempty_of_size hk))).mono ?_
  rintro e w' ⟨rfl, n, rfl⟩
  refine ⟨?_, n, rfl⟩
  rw [hk, IntWalk.wrap64_in (tp + (5 : Nat)) ⟨by omega, by omega⟩]
  rfl

theorem end_cnt (B b : Nat) (tp : Int) (kc : ByteArray) (w W : World) (h1 : 1 ≤ tp) (h2 : tp ≤ 1099511627776) (hbel : Below B w W) (hB : 0 < B) (hc : w.cell? ⟨0, 61, none⟩ = some (.string kc)) (hk : kc.size = 8)
    (c0 : W.cell? ⟨b, 0, none⟩ = some (.int .i64 61)) (c1 : W.cell? ⟨b, 1, none⟩ = some (.int .i64 tp)) (c2 : W.cell? ⟨b, 2, none⟩ = some (.pointer none)) :
    Calls Eajg.prog 6 #[.pointer (some ⟨b, 0, none⟩)] W fun e w' => e = .returned (.int .i64 (tp + 8)) ∧ ∃ n, w' = W.drewN n := by
  have hcW : W.cell? ⟨0, 61, none⟩ = some (.string kc) := (hbel.cell (p := ⟨0, 61, none⟩) hB).trans hc
  refine (end_bare b 61 kc tp W c0 c1 c2 (fun n => tok_cont kc (W.drewN n) hcW (nonempty_of_size hk))).mono ?_
  rintro e w' ⟨rfl, n, rfl⟩
  refine ⟨?_, n, rfl⟩
  rw [hk, IntWalk.wrap64_in (tp + (8 : Nat)) ⟨by omega, by omega⟩]
  rfl

theorem end_lab' (b c : Nat) (s : ByteArray) (p q : Int) (W : World) (h1 : 0 ≤ p) (h2 : q ≤ 1199511627776) (hq : q = p + s.size) (c2 : W.cell? ⟨b, 2, none⟩ = some (.pointer (some ⟨c, 0, none⟩))) (c0 : W.cell? ⟨c, 0, none⟩ = some (.string s)) (c1 : W.cell? ⟨c, 1, none⟩ = some (.int .i64 p)) :
    Calls Eajg.prog 6 #[.pointer (some ⟨b, 0, none⟩)] W fun e w' => e = .returned (.int .i64 q) ∧ ∃ n, w' = W.drewN n := by
  refine (end_lab b c s p W c2 c0 c1).mono ?_
  rintro e w' ⟨rfl, n, rfl⟩
  refine ⟨?_, n, rfl⟩
  rw [hq, IntWalk.wrap64_in (p + s.size) ⟨by omega, by omega⟩]

theorem cell_a (w : World) (A B C : Obj) (j : Nat) : (((w.alloc A).alloc B).alloc C).cell? ⟨w.heap.size, j, none⟩ = (w.alloc A).cell? ⟨w.heap.size, j, none⟩ := by
  rw [World.cell?_alloc_lt _ _ ⟨w.heap.size, j, none⟩ (by simp; omega), World.cell?_alloc_lt _ _ ⟨w.heap.size, j, none⟩ (by simp)]
theorem cell_b (w : World) (A B C : Obj) (j : Nat) : (((w.alloc A).alloc B).alloc C).cell? ⟨w.heap.size + 1, j, none⟩ = ((w.alloc A).alloc B).cell? ⟨w.heap.size + 1, j, none⟩ := by
  rw [World.cell?_alloc_lt _ _ ⟨w.heap.size + 1, j, none⟩ (by simp)]
theorem cell_c (w : World) (A B : Obj) (cs : Array Value) (t : TypeId) (j : Nat) (v : Value) (h : cs[j]? = some v) : (((w.alloc A).alloc B).alloc (.cells cs t)).cell? ⟨w.heap.size + 1 + 1, j, none⟩ = some v := by
  rw [World.cell?_alloc_at _ _ _ _ (by simp)]
  exact h
theorem cell_g (w : World) (A B C : Obj) (g j : Nat) (hg : g < w.heap.size) : (((w.alloc A).alloc B).alloc C).cell? ⟨g, j, none⟩ = w.cell? ⟨g, j, none⟩ := by
  rw [World.cell?_alloc_lt _ _ ⟨g, j, none⟩ (by simp; omega), World.cell?_alloc_lt _ _ ⟨g, j, none⟩ (by simp; omega), World.cell?_alloc_lt _ _ ⟨g, j, none⟩ hg]

theorem rowAt_get (kw : ByteArray) (k : Nat) (l : List Value) (j : Nat) (h : j < kw.size) : (rowAt kw k ++ l)[j]? = some (.int .u8 (kw[j]'h).toNat) := by
  have hl : j < kw.data.toList.length := by simpa using h
  have h1 : (Lib.strCells kw)[j]? = some (.int .u8 (kw[j]'h).toNat) := by
    unfold Lib.strCells
    rw [List.getElem?_map, List.getElem?_eq_getElem hl]
    rfl
  unfold rowAt
  rw [List.append_assoc, List.getElem?_append_left (by rw [Lib.strCells_length]; exact h)]
  exact h1

set_option maxHeartbeats 1000000 in
theorem span_break (tp : Int) (gap : Nat) (s kb : ByteArray) (w : World) (hcb : w.cell? ⟨0, 60, none⟩ = some (.string kb)) (h5 : kb.size = 5) (hs : s.size ≤ 524288) (h1 : 1 ≤ tp) (h2 : tp ≤ 1099511627776) (h3 : 1 ≤ gap) (h4 : gap ≤ 65536) :
    Calls Eajg.prog 4 #[.int .i64 tp, .bool false, .int .i64 gap, .string s] w fun e w' => e = .returned (.bool true) ∧ Below w.heap.size w w' := by
  obtain ⟨i0, hi, hz0, hz1, hz2⟩ := info_parts Eajg.info5
  have hpos := pos_of_cell hcb
  have HB := hide hcb
  have H5 := hide h5
  clear hcb h5
  have hi3 : (1 : Int) ≤ gap := by omega
  have hi4 : (gap : Int) ≤ 65536 := by omega
  have hsz : ∀ w1 : World, w.grownBy w1 none → w.heap.size ≤ w1.heap.size := fun w1 h => h.size
  have t1 : decide (524288 < (s.size : Int)) = false := by simp; omega
  have t2 : decide (1048576 < (s.size : Int)) = false := by simp; omega
  have t3 : decide (tp < 1) = false := by simp; omega
  have t4 : decide (1099511627776 < tp) = false := by simp; omega
  have t5 : decide (9223372036852678655 < tp) = false := by simp; omega
  have t6 : decide ((gap : Int) < 1) = false := by simp; omega
  have t7 : decide (65536 < (gap : Int)) = false := by simp; omega
  go_enter Eajg.func4, Eajg.ntmps4
  go_wp2_with (first | (go_at_call 7; go_in) | (at_make; refine wpList_make_own _ rfl _ _ 33 rfl w.heap.size 5 i0 (.int .u8 0) 1 Eajg.underlying33 hi hz0 hz1 _ _ _ (5 + gap + s.size) rfl rfl (by simp) (by rw [hz2]; omega) (by unfold maxLen; omega) (Nat.le_refl _) ?_; intro w1 hown1 hgrow1) | (at_builtin; refine Lib.wpList_append_own_string _ rfl _ _ 33 9 rfl w.heap.size 5 i0 Eajg.underlying33 Eajg.underlying9 hi hz0 hz1 hz2 _ 0 [] rfl hown1 brk rfl (by unfold maxLen; decide) (by decide) (hsz _ hgrow1) ?_; intro v2 w2 hown2 hgrow2 hnil2))
  have hb2 : Below w.heap.size w w2 := (((Below.refl _ _).grown hgrow1 (Nat.le_refl _) (by simp)).grown hgrow2 (hsz _ hgrow1) (fun b hb => (hown1.lt b hb).1))
  have hown2' : w2.ownsRow w.heap.size 5 1 v2 (5 + 0) (rowAt brk 0) := by simpa [rowAt, show brk.size = 5 from rfl] using hown2
  clear hown1 hgrow1 hown2 hgrow2 hnil2 hsz
  go_loopw [11, 12] (fun v i wr => ∃ k : Nat, k ≤ gap ∧ i = .int .i64 k ∧ wr.ownsRow w.heap.size 5 1 v (5 + k) (rowAt brk k) ∧ Below w.heap.size w wr) (fun _ i _ => gap - (intOf i).toNat)
  case atStart => exact ⟨0, Nat.zero_le _, rfl, hown2', hb2⟩
  case round =>
    obtain ⟨k, hk, rfl, hown, hbel⟩ := hrel
    have hB := hbel.size
    by_cases hlt : k < gap
    · go_wp2_with (at_builtin; refine wpList_append_own _ rfl _ _ 33 rfl w.heap.size 5 i0 (.int .u8 0) 1 1 Eajg.underlying33 hi hz0 hz1 hz2 rfl (by decide) _ _ _ rfl (hown.alloc _) ⟨wr.heap.size, 0, none⟩ 1 1 [.int .u8 32] rfl rfl (cell_one_new _ _ _) (by intro u hu; simp at hu; subst hu; rfl) (by unfold maxLen; omega) (by omega) (by simp; omega) ?_; intro v3 w3 hown3 hgrow3 hnil3)
      have R := row_step hB hbel hown hown3 hgrow3
      clear hown3 hgrow3 hnil3 hown
      go_wp2
      go_roundw
      case rel => exact ⟨k + 1, by omega, by go_num, R.1, R.2⟩
      case measure => simp [intOf]; omega
    · obtain rfl : k = gap := by omega
      go_wp2_with (at_builtin; refine wpList_append_str_lies _ rfl _ _ 33 9 rfl w.heap.size 5 i0 Eajg.underlying33 Eajg.underlying9 hi hz0 hz1 hz2 _ _ _ rfl hown s rfl (by omega) (by unfold maxLen; omega) (by omega) hB ?_; intro g cap w4 hown4 hgrow4 hbg hg hcap)
      have hb4 : Below w.heap.size w w4 := hbel.grown hgrow4 hB (fun b hb => (hown.lt b hb).1)
      have hB4 := hb4.size
      have HC := hide hown4.cellAt
      clear hown4 hgrow4 hown hbel
      go_wp2_with (go_at_call 8; go_in)
      refine (end_brk w.heap.size w4.heap.size tp kb w _ h1 h2 (by exact ((hb4.alloc (by omega) _).alloc (by simp; omega) _).alloc (by simp; omega) _) hpos (unhide HB) (unhide H5) (by rw [cell_a]; simp) (by rw [cell_a]; simp) (by rw [cell_a]; simp)).mono ?_
      rintro e w5 ⟨rfl, n5, rfl⟩
      go_wp2_with fail
      rw [show (tp + 5 - tp).toNat = 5 from by omega]
      refine (same_text brk g cap _ (by unfold maxLen; decide) ?_).mono ?_
      · intro j hj
        have hj5 : j < 5 := hj
        have := unhide HC j (by omega)
        rw [rowAt_get brk _ _ j hj] at this
        rw [← this]
        exact cell_g _ _ _ _ g j hg
      rintro e w6 ⟨rfl, n6, rfl⟩
      go_wp2_with fail
      refine (end_lab' (w4.heap.size + 1 + 1) (w4.heap.size + 1) s (tp + 5 + k) (tp + 5 + k + s.size) _ (by omega) (by omega) rfl (by exact cell_c _ _ _ _ _ _ _ rfl) (by exact (cell_b _ _ _ _ _).trans (by simp)) (by exact (cell_b _ _ _ _ _).trans (by simp))).mono ?_
      rintro e w7 ⟨rfl, n7, rfl⟩
      go_wp2_with fail
      refine (end_brk w.heap.size w4.heap.size tp kb w _ h1 h2 (by exact below_drewN (((hb4.alloc (by omega) _).alloc (by simp; omega) _).alloc (by simp; omega) _) _) hpos (unhide HB) (unhide H5) (by exact (cell_a _ _ _ _ _).trans (by simp)) (by exact (cell_a _ _ _ _ _).trans (by simp)) (by exact (cell_a _ _ _ _ _).trans (by simp))).mono ?_
      rintro e w8 ⟨rfl, n8, rfl⟩
      go_wp2_with fail
      refine (end_lab' (w4.heap.size + 1 + 1) (w4.heap.size + 1) s (tp + 5 + k) (tp + 5 + k + s.size) _ (by omega) (by omega) rfl (by exact cell_c _ _ _ _ _ _ _ rfl) (by exact (cell_b _ _ _ _ _).trans (by simp)) (by exact (cell_b _ _ _ _ _).trans (by simp))).mono ?_
      rintro e w9 ⟨rfl, n9, rfl⟩
      go_wp2_with fail
      go_ret
      refine ⟨?_, below_drewN (((hb4.alloc (by omega) _).alloc (by simp; omega) _).alloc (by simp; omega) _) _⟩
      simp
      omega

set_option maxHeartbeats 1000000 in
theorem span_cont (tp : Int) (gap : Nat) (s kb : ByteArray) (w : World) (hcb : w.cell? ⟨0, 61, none⟩ = some (.string kb)) (h5 : kb.size = 8) (hs : s.size ≤ 524288) (h1 : 1 ≤ tp) (h2 : tp ≤ 1099511627776) (h3 : 1 ≤ gap) (h4 : gap ≤ 65536) :
    Calls Eajg.prog 4 #[.int .i64 tp, .bool true, .int .i64 gap, .string s] w fun e w' => e = .returned (.bool true) ∧ Below w.heap.size w w' := by
  obtain ⟨i0, hi, hz0, hz1, hz2⟩ := info_parts Eajg.info5
  have hpos := pos_of_cell hcb
  have HB := hide hcb
  have H5 := hide h5
  clear hcb h5
  have hi3 : (1 : Int) ≤ gap := by omega
  have hi4 : (gap : Int) ≤ 65536 := by omega
  have hsz : ∀ w1 : World, w.grownBy w1 none → w.heap.size ≤ w1.heap.size := fun w1 h => h.size
  have t1 : decide (524288 < (s.size : Int)) = false := by simp; omega
  have t2 : decide (1048576 < (s.size : Int)) = false := by simp; omega
  have t3 : decide (tp < 1) = false := by simp; omega
  have t4 : decide (1099511627776 < tp) = false := by simp; omega
  have t5 : decide (9223372036852678655 < tp) = false := by simp; omega
  have t6 : decide ((gap : Int) < 1) = false := by simp; omega
  have t7 : decide (65536 < (gap : Int)) = false := by simp; omega
  go_enter Eajg.func4, Eajg.ntmps4
  go_wp2_with (first | (go_at_call 7; go_in) | (at_make; refine wpList_make_own _ rfl _ _ 33 rfl w.heap.size 5 i0 (.int .u8 0) 1 Eajg.underlying33 hi hz0 hz1 _ _ _ (8 + gap + s.size) rfl rfl (by simp) (by rw [hz2]; omega) (by unfold maxLen; omega) (Nat.le_refl _) ?_; intro w1 hown1 hgrow1) | (at_builtin; refine Lib.wpList_append_own_string _ rfl _ _ 33 9 rfl w.heap.size 5 i0 Eajg.underlying33 Eajg.underlying9 hi hz0 hz1 hz2 _ 0 [] rfl hown1 cont rfl (by unfold maxLen; decide) (by decide) (hsz _ hgrow1) ?_; intro v2 w2 hown2 hgrow2 hnil2))
  have hb2 : Below w.heap.size w w2 := (((Below.refl _ _).grown hgrow1 (Nat.le_refl _) (by simp)).grown hgrow2 (hsz _ hgrow1) (fun b hb => (hown1.lt b hb).1))
  have hown2' : w2.ownsRow w.heap.size 5 1 v2 (8 + 0) (rowAt cont 0) := by simpa [rowAt, show cont.size = 8 from rfl] using hown2
  clear hown1 hgrow1 hown2 hgrow2 hnil2 hsz
  go_loopw [11, 12] (fun v i wr => ∃ k : Nat, k ≤ gap ∧ i = .int .i64 k ∧ wr.ownsRow w.heap.size 5 1 v (8 + k) (rowAt cont k) ∧ Below w.heap.size w wr) (fun _ i _ => gap - (intOf i).toNat)
  case atStart => exact ⟨0, Nat.zero_le _, rfl, hown2', hb2⟩
  case round =>
    obtain ⟨k, hk, rfl, hown, hbel⟩ := hrel
    have hB := hbel.size
    by_cases hlt : k < gap
    · go_wp2_with (at_builtin; refine wpList_append_own _ rfl _ _ 33 rfl w.heap.size 5 i0 (.int .u8 0) 1 1 Eajg.underlying33 hi hz0 hz1 hz2 rfl (by decide) _ _ _ rfl (hown.alloc _) ⟨wr.heap.size, 0, none⟩ 1 1 [.int .u8 32] rfl rfl (cell_one_new _ _ _) (by intro u hu; simp at hu; subst hu; rfl) (by unfold maxLen; omega) (by omega) (by simp; omega) ?_; intro v3 w3 hown3 hgrow3 hnil3)
      have R := row_step hB hbel hown hown3 hgrow3
      clear hown3 hgrow3 hnil3 hown
      go_wp2
      go_roundw
      case rel => exact ⟨k + 1, by omega, by go_num, R.1, R.2⟩
      case measure => simp [intOf]; omega
    · obtain rfl : k = gap := by omega
      go_wp2_with (at_builtin; refine wpList_append_str_lies _ rfl _ _ 33 9 rfl w.heap.size 5 i0 Eajg.underlying33 Eajg.underlying9 hi hz0 hz1 hz2 _ _ _ rfl hown s rfl (by omega) (by unfold maxLen; omega) (by omega) hB ?_; intro g cap w4 hown4 hgrow4 hbg hg hcap)
      have hb4 : Below w.heap.size w w4 := hbel.grown hgrow4 hB (fun b hb => (hown.lt b hb).1)
      have hB4 := hb4.size
      have HC := hide hown4.cellAt
      clear hown4 hgrow4 hown hbel
      go_wp2_with (go_at_call 8; go_in)
      refine (end_cnt w.heap.size w4.heap.size tp kb w _ h1 h2 (by exact ((hb4.alloc (by omega) _).alloc (by simp; omega) _).alloc (by simp; omega) _) hpos (unhide HB) (unhide H5) (by rw [cell_a]; simp) (by rw [cell_a]; simp) (by rw [cell_a]; simp)).mono ?_
      rintro e w5 ⟨rfl, n5, rfl⟩
      go_wp2_with fail
      rw [show (tp + 8 - tp).toNat = 8 from by omega]
      refine (same_text cont g cap _ (by unfold maxLen; decide) ?_).mono ?_
      · intro j hj
        have hj5 : j < 8 := hj
        have := unhide HC j (by omega)
        rw [rowAt_get cont _ _ j hj] at this
        rw [← this]
        exact cell_g _ _ _ _ g j hg
      rintro e w6 ⟨rfl, n6, rfl⟩
      go_wp2_with fail
      refine (end_lab' (w4.heap.size + 1 + 1) (w4.heap.size + 1) s (tp + 8 + k) (tp + 8 + k + s.size) _ (by omega) (by omega) rfl (by exact cell_c _ _ _ _ _ _ _ rfl) (by exact (cell_b _ _ _ _ _).trans (by simp)) (by exact (cell_b _ _ _ _ _).trans (by simp))).mono ?_
      rintro e w7 ⟨rfl, n7, rfl⟩
      go_wp2_with fail
      refine (end_cnt w.heap.size w4.heap.size tp kb w _ h1 h2 (by exact below_drewN (((hb4.alloc (by omega) _).alloc (by simp; omega) _).alloc (by simp; omega) _) _) hpos (unhide HB) (unhide H5) (by exact (cell_a _ _ _ _ _).trans (by simp)) (by exact (cell_a _ _ _ _ _).trans (by simp)) (by exact (cell_a _ _ _ _ _).trans (by simp))).mono ?_
      rintro e w8 ⟨rfl, n8, rfl⟩
      go_wp2_with fail
      refine (end_lab' (w4.heap.size + 1 + 1) (w4.heap.size + 1) s (tp + 8 + k) (tp + 8 + k + s.size) _ (by omega) (by omega) rfl (by exact cell_c _ _ _ _ _ _ _ rfl) (by exact (cell_b _ _ _ _ _).trans (by simp)) (by exact (cell_b _ _ _ _ _).trans (by simp))).mono ?_
      rintro e w9 ⟨rfl, n9, rfl⟩
      go_wp2_with fail
      go_ret
      refine ⟨?_, below_drewN (((hb4.alloc (by omega) _).alloc (by simp; omega) _).alloc (by simp; omega) _) _⟩
      simp
      omega

theorem span_any (tp gap : Int) (ic : Bool) (s kb kc : ByteArray) (w : World) (hs : s.size ≤ maxLen) (hb : w.cell? ⟨0, 60, none⟩ = some (.string kb)) (hc : w.cell? ⟨0, 61, none⟩ = some (.string kc)) (h5 : kb.size = 5) (h8 : kc.size = 8) :
    Calls Eajg.prog 4 #[.int .i64 tp, .bool ic, .int .i64 gap, .string s] w fun e w' => e = .returned (.bool true) ∧ Below w.heap.size w w' := by
  by_cases hin : s.size ≤ 524288 ∧ 1 ≤ tp ∧ tp ≤ 1099511627776 ∧ 1 ≤ gap ∧ gap ≤ 65536
  · obtain ⟨q1, q2, q3, q4, q5⟩ := hin
    obtain ⟨n, rfl⟩ := Int.eq_ofNat_of_zero_le (show 0 ≤ gap by omega)
    cases ic
    · exact span_break tp n s kb w hb h5 q1 q2 q3 (by omega) (by omega)
    · exact span_cont tp n s kc w hc h8 q1 q2 q3 (by omega) (by omega)
  · exact span_out tp gap ic s w hs (by omega)

end Go.Proofs.YoeajwDoor
