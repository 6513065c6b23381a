import Derived.Test.YoeajwStmts
import Derived.Test.YoeajwScan
namespace Go.Proofs.Yoeajw
open Go.RowKit

/-- A name that is not empty and holds no semicolon. -/
def Good (x : ByteArray) : Prop := 0 < x.size ∧ ∀ (i : Nat) (h : i < x.size), (x[i]'h).toNat ≠ 59

/-- WHERE THE SCAN STANDS: in the c-th name or at its end; or behind the text. -/
def Scan (xs : List ByteArray) (I : ByteArray) (cv sv jv : Value) : Prop :=
  (∃ (c j : Nat) (x : ByteArray), xs[c]? = some x ∧ cv = .int .i64 c ∧ sv = .int .i64 (pos xs c) ∧ jv = .int .i64 j ∧ pos xs c ≤ j ∧ j ≤ pos xs c + x.size) ∨
  (cv = .int .i64 xs.length ∧ jv = .int .i64 ((I.size + 1 : Nat) : Int))

theorem no_step {x : ByteArray} {m : Nat} (h : ∀ (i : Nat) (h : i < x.size), i < m → (x[i]'h).toNat ≠ 59) (hm : m < x.size) (h59 : ((((x[m]'hm).toNat : Nat) : Int) == 59) = false) :
    ∀ (i : Nat) (h : i < x.size), i < m + 1 → (x[i]'h).toNat ≠ 59 := fun i hi hlt => by
  by_cases e : i = m
  · subst e
    have : (((x[i]'hi).toNat : Nat) : Int) ≠ 59 := by simpa using h59
    omega
  · exact h i hi (by omega)

theorem good_step {xs : List ByteArray} {k : Nat} {x : ByteArray} (h : ∀ (j : Nat) x, j < k → xs[j]? = some x → Good x) (hx : xs[k]? = some x) (hp : 0 < x.size) (hno : ∀ (i : Nat) (h : i < x.size), (x[i]'h).toNat ≠ 59) :
    ∀ (j : Nat) x, j < k + 1 → xs[j]? = some x → Good x := fun j y hj hy => by
  by_cases e : j = k
  · subst e
    rw [hx] at hy
    cases hy
    exact ⟨hp, hno⟩
  · exact h j y (by omega) hy

set_option maxRecDepth 100000 in
set_option maxHeartbeats 2000000 in
theorem splits_some (b off cap : Nat) (xs : List ByteArray) (w : World) (hb : b < w.heap.size) (hpos : 0 < xs.length) (hn : xs.length ≤ maxLen) (hsz : ∀ (j : Nat) x, xs[j]? = some x → x.size ≤ maxLen)
    (hc : ∀ (j : Nat) x, xs[j]? = some x → w.cell? ⟨b, off + j, none⟩ = some (.string x)) :
    Calls Eajg.prog 4 #[.slice (some ⟨b, off, none⟩) xs.length cap] w fun e w' => e = .returned (.bool true) ∧ Below w.heap.size w w' := by
  have HZZ := hide (zz_any b off cap xs w hn hsz hc)
  have HC := hide hc
  unfold maxLen at hn
  clear hc hsz
  go_enter Eajg.func4, Eajg.ntmps4
  go_wp2_with fail
  refine (unhide HZZ).mono ?_
  rintro e w' ⟨r, rfl, hw', hsm⟩
  rw [hw']
  clear hw' w' HZZ
  have HSM := hide hsm
  clear hsm
  cases r
  · clear HSM
    go_wp2
    go_ret
    exact ⟨rfl, Below.refl _ _⟩
  by_cases hbig : 131072 < xs.length
  · clear HSM
    go_wp2
    go_ret
    exact ⟨rfl, Below.refl _ _⟩
  have hsmall : Small xs := unhide HSM rfl
  have HSM' := hide hsmall
  clear HSM hsmall
  have t1 : decide ((131072 : Int) < (xs.length : Int)) = false := by simp; omega
  go_wp2
  go_loop [3, 4] (fun z i => ∃ k : Nat, k ≤ xs.length ∧ i = .int .i64 k ∧ z = .int .i64 ((8 * xs.length + sumTo xs k : Nat) : Int) ∧ 8 * xs.length + sumTo xs k ≤ 1048576) (fun _ i => xs.length - (intOf i).toNat)
  case atStart => exact ⟨0, Nat.zero_le _, rfl, by simp [sumTo_zero], by simp [sumTo_zero]; omega⟩
  case round =>
    obtain ⟨k, hk, rfl, rfl, hq⟩ := hrel
    by_cases hlt : k < xs.length
    · obtain ⟨x, hx⟩ : ∃ x, xs[k]? = some x := ⟨_, List.getElem?_eq_getElem hlt⟩
      have hcell := unhide HC k x hx
      have hx20 := unhide HSM' k x hx
      have HX := hide (sumTo_succ xs k x hx)
      clear hx
      by_cases hsum : 1048576 < 8 * xs.length + sumTo xs k + x.size
      · go_wp2
        go_ret
        exact ⟨rfl, Below.refl _ _⟩
      · go_wp2
        go_round
        case rel => exact ⟨k + 1, by omega, by go_num, by rw [unhide HX]; go_num, by rw [unhide HX]; omega⟩
        case measure => simp [intOf]; omega
    · obtain rfl : k = xs.length := by omega
      clear hlt hk
      go_wp2
      go_loop [5] (fun i => ∃ k : Nat, k ≤ xs.length ∧ i = .int .i64 k ∧ ∀ (j : Nat) x, j < k → xs[j]? = some x → Good x) (fun i => xs.length - (intOf i).toNat)
      case atStart => exact ⟨0, Nat.zero_le _, rfl, fun j x h => absurd h (by omega)⟩
      case round =>
        obtain ⟨k, hk, rfl, hgood⟩ := hrel
        have HG := hide hgood
        clear hgood
        by_cases hlt : k < xs.length
        · obtain ⟨x, hx⟩ : ∃ x, xs[k]? = some x := ⟨_, List.getElem?_eq_getElem hlt⟩
          have hcell := unhide HC k x hx
          have hx20 := unhide HSM' k x hx
          have HX := hide hx
          clear hx
          by_cases hx0 : x.size = 0
          · have t2 : (((x.size : Nat) : Int) == 0) = true := by simp [hx0]
            clear hx0
            go_wp2
            go_ret
            exact ⟨rfl, Below.refl _ _⟩
          · have t2 : (((x.size : Nat) : Int) == 0) = false := by simp [hx0]
            have hxp : 0 < x.size := by omega
            clear hx0
            go_wp2
            go_loop [6] (fun i => ∃ m : Nat, m ≤ x.size ∧ i = .int .i64 m ∧ ∀ (i : Nat) (h : i < x.size), i < m → (x[i]'h).toNat ≠ 59) (fun i => x.size - (intOf i).toNat)
            case atStart => exact ⟨0, Nat.zero_le _, rfl, fun i h hi => absurd hi (by omega)⟩
            case round =>
              obtain ⟨m, hm, rfl, hno⟩ := hrel
              have HNO := hide hno
              clear hno
              by_cases hmlt : m < x.size
              · go_wp2
                · go_ret
                  exact ⟨rfl, Below.refl _ _⟩
                · have h59 : ((((x[m]'hmlt).toNat : Nat) : Int) == 59) = false := by assumption
                  go_round
                  case rel => exact ⟨m + 1, by omega, by go_num, no_step (unhide HNO) hmlt h59⟩
                  case measure => simp [intOf]; omega
              · go_wp2
                go_round
                case rel => exact ⟨k + 1, by omega, by go_num, good_step (unhide HG) (unhide HX) hxp (fun i h => unhide HNO i h (by omega))⟩
                case measure => simp [intOf]; omega
        · obtain rfl : k = xs.length := by omega
          have HGA : Hid (∀ (j : Nat) x, xs[j]? = some x → Good x) := fun j x hx => unhide HG j x (List.getElem?_eq_some_iff.1 hx).1 hx
          clear hlt hk HG
          have hqn : xs.length ≤ 131072 := by omega
          have HQ := hide hq
          clear hq
          obtain ⟨i1, hi1, hy0, hy1, hy2⟩ := info_parts Eajg.info51
          go_wp2_with (first | (go_at_call 7; refine (copy_any b off cap xs _ hb (by omega) (unhide HC)).mono ?_; rintro e w1 ⟨rfl, hown1, hb1⟩) | (at_make; refine wpList_make_own _ rfl _ _ 27 rfl w1.heap.size 51 i1 .nilIface 1 Eajg.underlying27 hi1 hy0 hy1 _ _ _ xs.length rfl rfl rfl (by rw [hy2]; omega) (by unfold maxLen; omega) (Nat.le_refl _) ?_; intro w2 hown2 hgrow2))
          have hgw : w.heap.size < w1.heap.size := (hown1.lt w.heap.size rfl).2
          have hcopy : ∀ (j : Nat) x, xs[j]? = some x → w1.cell? ⟨w.heap.size, j, none⟩ = some (.string x) := fun j x hx => by
            have hj : j < xs.length := (List.getElem?_eq_some_iff.1 hx).1
            rw [hown1.cellAt j (by omega), List.getElem?_map, hx]; rfl
          have HCP := hide hcopy
          have S0 : Stmts xs w1.heap.size xs.length w1 0 [] w2 := ⟨rfl, hown2, fun j v s h => by simp at h, (Below.refl _ _).grown hgrow2 (Nat.le_refl _) (by simp)⟩
          clear hcopy hown1 hown2 hgrow2 HC
          go_loopw [7, 8] (fun v i wr => ∃ (k : Nat) (vs : List Value), k ≤ xs.length ∧ i = .int .i64 k ∧ v = .slice (some ⟨w1.heap.size, 0, none⟩) k xs.length ∧ Stmts xs w1.heap.size xs.length w1 k vs wr) (fun _ i _ => xs.length - (intOf i).toNat)
          case atStart => exact ⟨0, [], Nat.zero_le _, rfl, rfl, S0⟩
          case round =>
            clear S0
            obtain ⟨k, vs, hk, rfl, rfl, S⟩ := hrel
            have hgr : w1.heap.size < wr.heap.size := (S.own.lt w1.heap.size rfl).2
            by_cases hlt : k < xs.length
            · obtain ⟨x, hx⟩ : ∃ x, xs[k]? = some x := ⟨_, List.getElem?_eq_getElem hlt⟩
              have hcell : wr.cell? ⟨w.heap.size, k, none⟩ = some (.string x) := (S.bel.cell (p := ⟨w.heap.size, k, none⟩) hgw).trans (unhide HCP k x hx)
              have HX := hide hx
              clear hx
              go_wp2_with (at_builtin; refine wpList_append_fits _ rfl _ _ 27 rfl w1.heap.size 51 i1 1 Eajg.underlying27 hi1 hy1 w1.heap.size k xs.length vs rfl (((S.own.alloc _).alloc _).alloc _) ⟨wr.heap.size + 1 + 1, 0, none⟩ 1 1 [.iface 29 (.pointer (some ⟨wr.heap.size + 1, 0, none⟩))] rfl rfl (by exact cell_third3 _ _ _ _ _) (by intro u hu; simp at hu; subst hu; rfl) (by omega) ?_; intro w3 hown3 hgrow3)
              have S' := S.next hgr (unhide HX) hown3 hgrow3
              clear hown3 hgrow3
              go_roundw
              case rel => exact ⟨k + 1, _, by omega, by go_num, rfl, S'⟩
              case measure => simp [intOf]; omega
            · obtain rfl : k = xs.length := by omega
              have hq' := unhide HQ
              have htx := S.text hqn (by omega) (.int .i64 0) (.int .i64 0)
              obtain ⟨T, hT⟩ : ∃ T, T = blockStr xs := ⟨_, rfl⟩
              obtain ⟨hT2, hT3⟩ : 2 ≤ T.size ∧ T.size ≤ 2097152 := by
                have := join_bound xs
                rw [hT, blockStr_size]
                omega
              rw [← hT] at htx
              have HTX := hide htx
              have HT := hide hT
              have hcp : ∀ (j : Nat) x, xs[j]? = some x → wr.cell? ⟨w.heap.size, j, none⟩ = some (.string x) := fun j x hx => (S.bel.cell (p := ⟨w.heap.size, j, none⟩) hgw).trans (unhide HCP j x hx)
              have HCP' := hide hcp
              have hbw : Below w.heap.size w wr := hb1.trans (S.bel.mono (by omega))
              clear hq' hlt hk hT htx hcp HCP HQ HSM'
              go_wp2_with fail
              refine (unhide HTX).mono ?_
              rintro e w5 ⟨rfl, hb5⟩
              have hcp5 : ∀ (j : Nat) x, xs[j]? = some x → w5.cell? ⟨w.heap.size, j, none⟩ = some (.string x) := fun j x hx => by
                rw [hb5.cell (p := ⟨w.heap.size, j, none⟩) (by simp; omega), World.cell?_alloc_lt _ _ ⟨w.heap.size, j, none⟩ (by simp; omega)]
                exact unhide HCP' j x hx
              have hbw5 : Below w.heap.size w w5 := (hbw.alloc (by omega) _).trans (hb5.mono (by simp; omega))
              have HC5 := hide hcp5
              clear HTX HCP' hb5 S hbw hcp5 hgr hb1 hgw
              have b0 : ((((T[0]'(by omega)).toNat : Nat) : Int) != 123) = false := by
                have := unhide HT
                subst this
                rw [blockStr_first]; rfl
              have bL : ((((T[T.size - 1]'(by omega)).toNat : Nat) : Int) != 125) = false := by
                have := unhide HT
                subst this
                rw [blockStr_last]; rfl
              have bd : decide ((T.size : Int) < 2) = false := by simp; omega
              have n0 : ((xs.length : Int) == 0) = false := by rw [beq_eq_false_iff_ne]; omega
              go_wp2_with fail
              obtain ⟨I, hI⟩ : ∃ I, I = T.extract 1 (T.size - 1) := ⟨_, rfl⟩
              rw [← hI]
              have hIl : I.data.toList = Lib.join (parts xs) [59, 32] := by rw [hI, unhide HT]; exact blockStr_inner xs
              have hIs : I.size ≤ 2097152 := by
                have := size_of hIl
                have h2 := blockStr_size xs
                have h3 : (Lib.join (parts xs) [59, 32]).length = (Lib.join (xs.map (·.data.toList)) [59, 32]).length := rfl
                rw [← unhide HT] at h2
                omega
              have HI := hide hIl
              clear hI hIl bL b0 bd
              go_loopw [11, 12, 13] (fun cv sv jv wr => Scan xs I cv sv jv ∧ ∃ nq, wr = w5.drewN nq) (fun _ _ jv _ => I.size + 1 - (intOf jv).toNat)
              case atStart =>
                obtain ⟨x, hx⟩ : ∃ x, xs[0]? = some x := ⟨_, List.getElem?_eq_getElem hpos⟩
                exact ⟨.inl ⟨0, 0, x, hx, rfl, rfl, rfl, Nat.le_refl _, Nat.zero_le _⟩, 0, rfl⟩
              case round =>
                obtain ⟨hscan, nq, rfl⟩ := hrel
                rcases hscan with ⟨c, jj, x, hx, rfl, rfl, rfl, hj1, hj2⟩ | ⟨rfl, rfl⟩
                · have hle := scan_le (unhide HI) hx
                  have hcn : c < xs.length := (List.getElem?_eq_some_iff.1 hx).1
                  have hcell : w5.cell? ⟨w.heap.size, c, none⟩ = some (.string x) := unhide HC5 c x hx
                  by_cases hin : jj < pos xs c + x.size
                  · have hI1 : jj < I.size := by omega
                    have hne : ((((I[jj]'hI1).toNat : Nat) : Int) == 59) = false := by
                      obtain ⟨i, rfl⟩ : ∃ i, jj = pos xs c + i := ⟨jj - pos xs c, by omega⟩
                      rw [scan_byte (unhide HI) hx (i := i) (by omega) hI1]
                      have := (unhide HGA c x hx).2 i (by omega)
                      simpa using fun h => this (by omega)
                    have HX := hide hx
                    clear hx
                    go_wp2
                    go_roundw
                    case rel => exact ⟨.inl ⟨c, jj + 1, x, unhide HX, rfl, rfl, by go_num, by omega, by omega⟩, nq, rfl⟩
                    case measure => simp [intOf]; omega
                  · have hcell' : (w5.drewN nq).cell? ⟨w.heap.size, c, none⟩ = some (.string x) := hcell
                    have hext := scan_ext (unhide HI) hx
                    by_cases hc : c + 1 = xs.length
                    · have hl1 := scan_last (unhide HI) hx hc
                      obtain rfl : jj = I.size := by omega
                      rw [← hl1] at hext
                      have HX := hide hx
                      have HCN := hide hc
                      have hlp : pos xs c ≤ I.size := by omega
                      clear hx hc hl1 hle hin hj2
                      go_wp2
                      go_quiet (fail)
                      go_wp2
                      have hc2 := unhide HCN
                      go_roundw
                      case rel => exact ⟨.inr ⟨by go_num, by go_num⟩, _, rfl⟩
                      case measure => simp [intOf]
                    · obtain rfl : jj = pos xs c + x.size := by omega
                      obtain ⟨hs1, hs2, hs3⟩ := scan_sep (unhide HI) hx (by omega)
                      have hI1 : pos xs c + x.size < I.size := by omega
                      have hI2 : pos xs c + x.size + 1 < I.size := by omega
                      have e59 : ((((I[pos xs c + x.size]'hI1).toNat : Nat) : Int) == 59) = true := by rw [hs2 hI1]; rfl
                      have e32 : ((((I[pos xs c + x.size + 1]'hI2).toNat : Nat) : Int) != 32) = false := by rw [hs3 hI2]; rfl
                      have HX := hide hx
                      have HP := hide (pos_succ hx)
                      have hcn1 : c + 1 < xs.length := by omega
                      clear hx hc hs2 hs3 hin hj2
                      go_wp2
                      go_quiet (fail)
                      go_wp2
                      obtain ⟨y, hy⟩ : ∃ y, xs[c + 1]? = some y := ⟨_, List.getElem?_eq_getElem hcn1⟩
                      go_roundw
                      case rel => exact ⟨.inl ⟨c + 1, pos xs (c + 1), y, hy, by go_num, by rw [unhide HP]; go_num, by rw [unhide HP]; go_num, Nat.le_refl _, Nat.le_add_right _ _⟩, _, rfl⟩
                      case measure => simp [intOf]; omega
                · go_wp2
                  go_ret
                  exact ⟨by simp, below_drewN hbw5 _⟩

end Go.Proofs.Yoeajw
