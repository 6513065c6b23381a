import Derived.Test.YoeajwBlock
namespace Go.Proofs.Yoeajw
open Go.RowKit

/-- The text of a block, as bytes. -/
def blockText (ss : List ByteArray) : List UInt8 := 123 :: (Lib.join (ss.map (·.data.toList)) [59, 32] ++ [125])
def blockStr (ss : List ByteArray) : ByteArray := ⟨(blockText ss).toArray⟩

def strVals (ss : List ByteArray) (k : Nat) : List Value := (ss.take k).map Value.string

theorem strVals_succ (ss : List ByteArray) (k : Nat) (s : ByteArray) (h : ss[k]? = some s) : strVals ss (k + 1) = strVals ss k ++ [.string s] := by
  simp [strVals, List.take_add_one, h]

theorem slot_form {w : World} {base : Nat} {e : TypeId} {size : Nat} {v : Value} {n : Nat} {xs : List Value} (h : w.ownsRow base e size v n xs) : ∃ a cap, v = .slice a n cap := by
  rcases h.2 with ⟨rfl, rfl⟩ | ⟨g, cap, cur, rfl, _⟩
  · exact ⟨_, _, rfl⟩
  · exact ⟨_, _, rfl⟩

theorem own_later {w w' : World} {base : Nat} {e : TypeId} {size : Nat} {v : Value} {n : Nat} {xs : List Value} (h : w.ownsRow base e size v n xs) (hb : Below w.heap.size w w') : w'.ownsRow base e size v n xs := by
  refine ⟨h.1, ?_⟩
  rcases h.2 with h0 | ⟨g, cap, cur, hv, hbg, hg, h1, h2, h3, h4⟩
  · exact .inl h0
  · refine .inr ⟨g, cap, cur, hv, hbg, ?_, h1, h2, h3, h4⟩
    have hlt : g < w.heap.size := by
      rcases Nat.lt_or_ge g w.heap.size with hlt | hge
      · exact hlt
      · rw [Array.getElem?_eq_none hge] at hg; cases hg
    rw [hb.block g hlt]; exact hg

theorem row_say {ss : List ByteArray} {s : ByteArray} {k B : Nat} {w wr w1 w2 : World} {v v' : Value} {ob : Obj} (hs : ss[k]? = some s) (hB : B ≤ wr.heap.size) (hbel : Below B w wr) (hb1 : Below wr.heap.size wr w1) (hown : wr.ownsRow B 9 1 v k (strVals ss k))
    (hown' : w2.ownsRow B 9 1 v' (k + 1) (strVals ss k ++ [.string s])) (hgrow : (w1.alloc ob).grownBy w2 v.ownBlock) :
    w2.ownsRow B 9 1 v' (k + 1) (strVals ss (k + 1)) ∧ Below B w w2 := by
  refine ⟨?_, ?_⟩
  · rw [strVals_succ ss k s hs]; exact hown'
  · have h1 : Below B w w1 := hbel.trans (hb1.mono hB)
    exact (h1.alloc (by have := hb1.size; omega) ob).grown hgrow (by have := hb1.size; simp; omega) (fun b hb => (hown.lt b hb).1)

/-- strings.Join at a slice of strings that the call owns. -/
theorem join_own (B n : Nat) (v : Value) (ss : List ByteArray) (sep : ByteArray) (w : World) (hn : ss.length = n) (hown : w.ownsRow B 9 1 v n (strVals ss n)) (hN : n ≤ 1048576) (hS : (Lib.join (ss.map (·.data.toList)) sep.data.toList).length ≤ 1073741824) :
    Calls Eajg.prog 11 #[v, .string sep] w fun e w' => e = .returned (.string ⟨(Lib.join (ss.map (·.data.toList)) sep.data.toList).toArray⟩) ∧ Below w.heap.size w w' := by
  rcases Nat.eq_zero_or_pos n with h0 | hpos
  · subst h0
    obtain ⟨a, c, rfl⟩ := slot_form hown
    obtain rfl : ss = [] := List.eq_nil_of_length_eq_zero hn
    refine (Eajg.strings_Join_none a c sep w).mono ?_
    rintro e w' ⟨rfl, rfl⟩
    exact ⟨rfl, Below.refl _ _⟩
  · obtain ⟨g, cap, rfl, hbg, hg⟩ := hown.form hpos
    have hcap : n ≤ cap := by
      rcases hown.2 with ⟨h0, _⟩ | ⟨g', cap', cur, hv, _, _, hc, _⟩
      · cases h0
      · cases hv; exact hc
    have h := Eajg.strings_Join g 0 cap ss sep w (fun j x hx => by
      have hj : j < ss.length := (List.getElem?_eq_some_iff.1 hx).1
      rw [Nat.zero_add, hown.cellAt j (by omega)]
      unfold strVals
      rw [List.getElem?_map, List.getElem?_take_of_lt (by omega), hx]
      rfl) hg (by omega) (by omega) (by omega)
    rw [hn] at h
    exact h

set_option maxHeartbeats 1000000 in
theorem blk_any (b bk cap : Nat) (vs : List Value) (ss : List ByteArray) (w : World) (hlen : ss.length = vs.length) (hN : vs.length ≤ 1048576)
    (hbk : bk < w.heap.size) (hS : (Lib.join (ss.map (·.data.toList)) [59, 32]).length ≤ 1073741824)
    (h0 : w.cell? ⟨b, 0, none⟩ = some (.slice (some ⟨bk, 0, none⟩) vs.length cap))
    (hc : ∀ (j : Nat) v, vs[j]? = some v → w.cell? ⟨bk, j, none⟩ = some v) (hsay : ∀ (j : Nat) v s, vs[j]? = some v → ss[j]? = some s → Says w v s) :
    Calls Eajg.prog 9 #[.pointer (some ⟨b, 0, none⟩)] w fun e w' => e = .returned (.string (blockStr ss)) ∧ Below w.heap.size w w' := by
  obtain ⟨i0, hi, hz0, hz1, hz2⟩ := info_parts Eajg.info9
  have HC := hide hc
  have HS := hide hsay
  have HJ := hide hS
  have HL := hide hlen
  clear hc hsay hS hlen
  go_enter Eajg.func9, Eajg.ntmps9
  go_wp2
  go_loopw [3, 11] (fun v i wr => ∃ k : Nat, k ≤ vs.length ∧ i = .int .i64 k ∧ wr.ownsRow w.heap.size 9 1 v k (strVals ss k) ∧ Below w.heap.size w wr) (fun _ i _ => vs.length - (intOf i).toNat)
  case atStart => exact ⟨0, Nat.zero_le _, rfl, by simpa [strVals] using World.ownsRow_nil _ _ _ _, Below.refl _ _⟩
  case round =>
    obtain ⟨k, hk, rfl, hown, hbel⟩ := hrel
    have hB := hbel.size
    by_cases hlt : k < vs.length
    · obtain ⟨v, hv⟩ : ∃ v, vs[k]? = some v := ⟨_, List.getElem?_eq_getElem hlt⟩
      obtain ⟨s, hs⟩ : ∃ s, ss[k]? = some s := ⟨_, List.getElem?_eq_getElem (by rw [unhide HL]; exact hlt)⟩
      have hcell : wr.cell? ⟨bk, k, none⟩ = some v := (hbel.cell (p := ⟨bk, k, none⟩) hbk).trans (unhide HC k v hv)
      obtain ⟨t, f, p, rfl, ht, hcall⟩ := unhide HS k v s hv hs
      have HV := hide hs
      have HCALL := hide (hcall wr hbel)
      clear hv hs hcall
      rcases ht with ⟨rfl, rfl⟩ | ⟨rfl, rfl⟩ | ⟨rfl, rfl⟩ | ⟨rfl, rfl⟩
      · have hm := meth29 p
        go_wp2_with (first | (go_at_call 34; refine (unhide HCALL).mono ?_; rintro e w1 ⟨rfl, hb1⟩) | (at_builtin; refine wpList_append_own _ rfl _ _ 23 rfl w.heap.size 9 i0 (.string ⟨#[]⟩) 1 16 Eajg.underlying23 hi hz0 hz1 hz2 rfl (by decide) _ _ _ rfl ((own_later hown hb1).alloc _) ⟨w1.heap.size, 0, none⟩ 1 1 [.string s] rfl rfl (cell_one_new _ _ _) (by intro u hu; simp at hu; subst hu; rfl) (by unfold maxLen; omega) (by omega) (by have := hb1.size; simp; omega) ?_; intro v3 w3 hown3 hgrow3 hnil3))
        have R := row_say (unhide HV) hB hbel hb1 hown hown3 hgrow3
        go_roundw
        case rel => exact ⟨k + 1, by omega, by go_num, R.1, R.2⟩
        case measure => simp [intOf]; omega
      · have hm := meth38 p
        go_wp2_with (first | (go_at_call 41; refine (unhide HCALL).mono ?_; rintro e w1 ⟨rfl, hb1⟩) | (at_builtin; refine wpList_append_own _ rfl _ _ 23 rfl w.heap.size 9 i0 (.string ⟨#[]⟩) 1 16 Eajg.underlying23 hi hz0 hz1 hz2 rfl (by decide) _ _ _ rfl ((own_later hown hb1).alloc _) ⟨w1.heap.size, 0, none⟩ 1 1 [.string s] rfl rfl (cell_one_new _ _ _) (by intro u hu; simp at hu; subst hu; rfl) (by unfold maxLen; omega) (by omega) (by have := hb1.size; simp; omega) ?_; intro v3 w3 hown3 hgrow3 hnil3))
        have R := row_say (unhide HV) hB hbel hb1 hown hown3 hgrow3
        go_roundw
        case rel => exact ⟨k + 1, by omega, by go_num, R.1, R.2⟩
        case measure => simp [intOf]; omega
      · have hm := meth41 p
        go_wp2_with (first | (go_at_call 45; refine (unhide HCALL).mono ?_; rintro e w1 ⟨rfl, hb1⟩) | (at_builtin; refine wpList_append_own _ rfl _ _ 23 rfl w.heap.size 9 i0 (.string ⟨#[]⟩) 1 16 Eajg.underlying23 hi hz0 hz1 hz2 rfl (by decide) _ _ _ rfl ((own_later hown hb1).alloc _) ⟨w1.heap.size, 0, none⟩ 1 1 [.string s] rfl rfl (cell_one_new _ _ _) (by intro u hu; simp at hu; subst hu; rfl) (by unfold maxLen; omega) (by omega) (by have := hb1.size; simp; omega) ?_; intro v3 w3 hown3 hgrow3 hnil3))
        have R := row_say (unhide HV) hB hbel hb1 hown hown3 hgrow3
        go_roundw
        case rel => exact ⟨k + 1, by omega, by go_num, R.1, R.2⟩
        case measure => simp [intOf]; omega
      · have hm := meth44 p
        go_wp2_with (first | (go_at_call 9; refine (unhide HCALL).mono ?_; rintro e w1 ⟨rfl, hb1⟩) | (at_builtin; refine wpList_append_own _ rfl _ _ 23 rfl w.heap.size 9 i0 (.string ⟨#[]⟩) 1 16 Eajg.underlying23 hi hz0 hz1 hz2 rfl (by decide) _ _ _ rfl ((own_later hown hb1).alloc _) ⟨w1.heap.size, 0, none⟩ 1 1 [.string s] rfl rfl (cell_one_new _ _ _) (by intro u hu; simp at hu; subst hu; rfl) (by unfold maxLen; omega) (by omega) (by have := hb1.size; simp; omega) ?_; intro v3 w3 hown3 hgrow3 hnil3))
        have R := row_say (unhide HV) hB hbel hb1 hown hown3 hgrow3
        go_roundw
        case rel => exact ⟨k + 1, by omega, by go_num, R.1, R.2⟩
        case measure => simp [intOf]; omega
    · obtain rfl : k = vs.length := by omega
      have hjo := join_own w.heap.size vs.length u3 ss ⟨#[59, 32]⟩ wr (unhide HL) hown hN (unhide HJ)
      obtain ⟨J, hJ⟩ : ∃ J : ByteArray, J = ⟨(Lib.join (ss.map (·.data.toList)) [59, 32]).toArray⟩ := ⟨_, rfl⟩
      have hJs : J.size ≤ 1073741824 := by rw [hJ]; exact unhide HJ
      have HJO : Hid (Calls Eajg.prog 11 #[u3, .string ⟨#[59, 32]⟩] wr fun e w' => e = .returned (.string J) ∧ Below wr.heap.size wr w') := by rw [hJ]; exact hjo
      have HJE : Hid (blockStr ss = (⟨#[123]⟩ : ByteArray) ++ J ++ ⟨#[125]⟩) := by
        unfold Hid blockStr blockText
        rw [hJ, ByteArray.mk_append_mk, ByteArray.mk_append_mk]
        simp
      clear hown hjo hJ
      go_wp2_with (go_at_call 11; refine (unhide HJO).mono ?_; rintro e w1 ⟨rfl, hb1⟩)
      go_ret
      refine ⟨?_, hbel.trans (hb1.mono hB)⟩
      rw [unhide HJE]
      rfl

theorem blockStr_size (ss : List ByteArray) : (blockStr ss).size = (Lib.join (ss.map (·.data.toList)) [59, 32]).length + 2 := by
  show (blockText ss).toArray.size = _
  simp [blockText]

theorem blockStr_first (ss : List ByteArray) (h : 0 < (blockStr ss).size) : ((blockStr ss)[0]'h).toNat = 123 := rfl

theorem blockStr_last (ss : List ByteArray) (h : (blockStr ss).size - 1 < (blockStr ss).size) : ((blockStr ss)[(blockStr ss).size - 1]'h).toNat = 125 := by
  have hs := blockStr_size ss
  have e : (blockText ss)[(blockStr ss).size - 1]? = some 125 := by
    rw [hs]
    simp [blockText]
  have hl : (blockStr ss).size - 1 < (blockText ss).length := by
    have : (blockStr ss).size = (blockText ss).length := by show (blockText ss).toArray.size = _; simp
    omega
  have e2 : (blockStr ss)[(blockStr ss).size - 1]'h = (blockText ss)[(blockStr ss).size - 1]'hl := by
    show (blockText ss).toArray[(blockStr ss).size - 1]'(by simpa using hl) = _
    simp
  rw [e2]
  rw [List.getElem?_eq_getElem hl] at e
  rw [Option.some.inj e]
  rfl

theorem blockStr_inner (ss : List ByteArray) : ((blockStr ss).extract 1 ((blockStr ss).size - 1)).data.toList = Lib.join (ss.map (·.data.toList)) [59, 32] := by
  rw [blockStr_size]
  have e : (blockStr ss).data.toList = 123 :: (Lib.join (ss.map (·.data.toList)) [59, 32] ++ [125]) := by simp [blockStr, blockText]
  rw [ByteArray.data_extract, Array.toList_extract, e]
  simp [List.extract]

end Go.Proofs.Yoeajw
