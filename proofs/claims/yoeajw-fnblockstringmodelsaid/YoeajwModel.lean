import Derived.Test.YoeajwText
import Derived.Test.YoeajwParts
import Derived.Deep.DeepCutAuto
namespace Go.Proofs.Yoeajw
open Go.RowKit

/-- Behind the two 'make's: nothing gathered yet. -/
theorem mod_start {n : Nat} {w2 w3 w4 : World} {c : Nat} (hown3 : w3.ownsRow w2.heap.size 51 1 (.slice (some ⟨w2.heap.size, 0, none⟩) 0 n) 0 []) (hgrow3 : w2.grownBy w3 none)
    (hown4 : w4.ownsRow (w2.heap.size + 1) 5 1 (.slice (some ⟨w3.heap.size, 0, none⟩) 0 c) 0 []) (hgrow4 : w3.grownBy w4 none) : Mod w2.heap.size n w2 0 [] [] (.slice (some ⟨w3.heap.size, 0, none⟩) 0 c) [] w4 := by
  refine ⟨rfl, rfl, hown3.kept hgrow4 (.inr (by simp [Value.ownBlock])), hown4, fun j v s h => by simp at h, ?_⟩
  exact ((Below.refl _ _).grown hgrow3 (Nat.le_refl _) (by simp)).grown hgrow4 hgrow3.size (by simp)

set_option maxRecDepth 100000 in
set_option maxHeartbeats 4000000 in
theorem model_any (ak an : Option Addr) (capk capn : Nat) (zs : List Int) (xs : List ByteArray) (w : World) (hn : zs.length ≤ maxLen) (hm : xs.length ≤ maxLen) (hsz : ∀ (j : Nat) x, xs[j]? = some x → x.size ≤ maxLen)
    (hz : IntsAt w ak zs) (hx : StrsAt w an xs) :
    Calls Eajg.prog 3 #[.slice ak zs.length capk, .slice an xs.length capn] w fun e w' => e = .returned (.bool true) ∧ Below w.heap.size w w' := by
  have HZZ := hide (zzm_any ak an zs.length capk capn xs w hn hm hsz hx)
  have HZ := hide hz
  have HX := hide hx
  unfold maxLen at hn hm
  clear hz hx hsz
  go_enter Eajg.func3, Eajg.ntmps3
  go_wp2_with fail
  refine (unhide HZZ).mono ?_
  rintro e w' ⟨r, rfl, hw', hsm⟩
  rw [hw']
  clear hw' w' HZZ
  have HSM := hide hsm
  clear hsm
  cases r
  · clear HSM
    go_wp2
    go_ret
    exact ⟨rfl, Below.refl _ _⟩
  by_cases hbig : 131072 < zs.length
  · clear HSM
    have t1 : decide ((131072 : Int) < (zs.length : Int)) = true := by simp; omega
    go_wp2
    go_ret
    exact ⟨rfl, Below.refl _ _⟩
  have t1 : decide ((131072 : Int) < (zs.length : Int)) = false := by simp; omega
  by_cases hbig2 : 131072 < xs.length
  · clear HSM
    have t2 : decide ((131072 : Int) < (xs.length : Int)) = true := by simp; omega
    go_wp2
    go_ret
    exact ⟨rfl, Below.refl _ _⟩
  have t2 : decide ((131072 : Int) < (xs.length : Int)) = false := by simp; omega
  have hsmall : Small xs := unhide HSM rfl
  have HSM' := hide hsmall
  clear HSM hsmall
  go_wp2
  go_loop [5, 6] (fun z i => ∃ k : Nat, k ≤ xs.length ∧ i = .int .i64 k ∧ z = .int .i64 ((8 * zs.length + 8 * xs.length + sumTo xs k : Nat) : Int) ∧ sumTo xs k ≤ 1048576) (fun _ i => xs.length - (intOf i).toNat)
  case atStart => exact ⟨0, Nat.zero_le _, rfl, by simp [sumTo_zero], by simp [sumTo_zero]⟩
  case round =>
    obtain ⟨k, hk, rfl, rfl, hq⟩ := hrel
    by_cases hlt : k < xs.length
    · obtain ⟨x, hx⟩ : ∃ x, xs[k]? = some x := ⟨_, List.getElem?_eq_getElem hlt⟩
      obtain ⟨b, off, ha, _, hcell⟩ := unhide HX k x hx
      subst ha
      have hx20 := unhide HSM' k x hx
      have HS := hide (sumTo_succ xs k x hx)
      clear hx
      by_cases hsum : 1048576 < 8 * zs.length + 8 * xs.length + sumTo xs k + x.size
      · go_wp2
        go_ret
        exact ⟨rfl, Below.refl _ _⟩
      · go_wp2
        go_round
        case rel => exact ⟨k + 1, by omega, by go_num, by rw [unhide HS]; go_num, by rw [unhide HS]; omega⟩
        case measure => simp [intOf]; omega
    · obtain rfl : k = xs.length := by omega
      clear hlt hk HSM'
      by_cases hsum : 1048576 < 8 * zs.length + 8 * xs.length + sumTo xs xs.length
      · go_wp2
        go_ret
        exact ⟨rfl, Below.refl _ _⟩
      have t3 : decide ((1048576 : Int) < 8 * (zs.length : Int) + 8 * (xs.length : Int) + (sumTo xs xs.length : Int)) = false := by simp; omega
      clear hsum
      have hnz : zs.length ≤ 131072 := by omega
      have hnx : xs.length ≤ 131072 := by omega
      have HCI := hide (copyI_any ak capk zs w (by omega) (unhide HZ))
      clear HZ
      go_wp2_with fail
      refine (unhide HCI).mono ?_
      rintro e w1 ⟨ak', rfl, hz1, hb1⟩
      have HCS := hide (copyS_any an capn xs w1 (by omega) ((unhide HX).later (Nat.le_refl _) hb1))
      have HZ1 := hide hz1
      clear HCI HX hz1
      go_wp2_with fail
      refine (unhide HCS).mono ?_
      rintro e w2 ⟨an', rfl, hx2, hb2⟩
      have HX2 := hide hx2
      have HZ2 := hide ((unhide HZ1).later (Nat.le_refl _) hb2)
      have hbw2 : Below w.heap.size w w2 := hb1.trans (hb2.mono hb1.size)
      clear HCS hx2 HZ1 hb1 hb2
      obtain ⟨i1, hi1, hy0, hy1, hy2⟩ := info_parts Eajg.info51
      obtain ⟨i5, hi5, hv0, hv1, hv2⟩ := info_parts Eajg.info5
      go_wp2_with (first | (at_make; refine wpList_make_own _ rfl _ _ 27 rfl w2.heap.size 51 i1 .nilIface 1 Eajg.underlying27 hi1 hy0 hy1 _ _ _ zs.length rfl rfl rfl (by rw [hy2]; omega) (by unfold maxLen; omega) (Nat.le_refl _) ?_; intro w3 hown3 hgrow3) | (at_make; refine wpList_make_own _ rfl _ _ 28 rfl (w2.heap.size + 1) 5 i5 (.int .u8 0) 1 Eajg.underlying28 hi5 hv0 hv1 _ _ _ 16 rfl rfl rfl (by rw [hv2]; omega) (by unfold maxLen; omega) ((hown3.lt w2.heap.size rfl).2) ?_; intro w4 hown4 hgrow4; have M0 := mod_start hown3 hgrow3 hown4 hgrow4) | (at_builtin; refine wp_want rfl (.tmp 58) (.tmp 59) rfl [123] rfl _ rfl rfl rfl M0 (by simp) ?_; intro want w5 M1))
      have M1' : Mod w2.heap.size zs.length w2 0 [] (texts zs xs 0) want (wantRow (texts zs xs 0)) w5 := by rw [texts_zero, wantRow_nil]; exact M1
      have HSX : Hid (sumTo xs xs.length ≤ 1048576) := hq
      clear M0 M1 hown3 hgrow3 hown4 hgrow4 hq
      go_loopw [7, 8, 9] (fun v want i wr => ∃ (k : Nat) (vs : List Value), k ≤ zs.length ∧ i = .int .i64 k ∧ v = .slice (some ⟨w2.heap.size, 0, none⟩) k zs.length ∧ Mod w2.heap.size zs.length w2 k vs (texts zs xs k) want (wantRow (texts zs xs k)) wr) (fun _ _ i _ => zs.length - (intOf i).toNat)
      case atStart => exact ⟨0, [], Nat.zero_le _, rfl, rfl, M1'⟩
      case round =>
        clear M1'
        obtain ⟨k, vs, hk, rfl, rfl, M⟩ := hrel
        have hgt := M.gt
        by_cases hlt : k < zs.length
        · obtain ⟨z, hz⟩ : ∃ z, zs[k]? = some z := ⟨_, List.getElem?_eq_getElem hlt⟩
          obtain ⟨bk, offk, ha, hbk, hck⟩ := unhide HZ2 k z hz
          subst ha
          have hcellk : wr.cell? ⟨bk, offk + k, none⟩ = some (.int .i64 z) := (M.bel.cell (p := ⟨bk, offk + k, none⟩) hbk).trans hck
          have HT := hide (texts_succ zs xs k z hz)
          have hjl : (Lib.join (parts (texts zs xs k)) [59, 32]).length ≤ 4194304 := by
            have := texts_join zs xs k
            have := unhide HSX
            omega
          have hwl : (wantRow (texts zs xs k)).length ≤ 4194305 := by rw [wantRow_length]; omega
          have hns : (nameAt xs k).size ≤ 1048576 := Nat.le_trans (nameAt_size xs k) (unhide HSX)
          obtain ⟨s, hs⟩ : ∃ s, s = nameAt xs k := ⟨_, rfl⟩
          rw [← hs] at hns
          have HS := hide hs
          clear hs hck hjl hz
          obtain ⟨K, hK⟩ : ∃ K, K = kindOf z := ⟨_, rfl⟩
          have HK := hide hK
          obtain ⟨hK0, hK3⟩ : 0 ≤ K ∧ K ≤ 3 := by rw [hK]; exact kind_range z
          clear hK
          have hq2 : z.tmod 4 < 4 := Int.tmod_lt_of_pos z (by decide)
          have hq1 : -4 < z.tmod 4 := by have := Int.lt_tmod_of_pos z (show (0 : Int) < 4 by decide); omega
          go_upto_if 73 with fail
          go_cut [10] (fun kv wx => kv = .int .i64 K ∧ wx = wr)
          case first =>
            by_cases hneg : z.tmod 4 < 0
            · go_wp2
              go_meet
              case rel => exact ⟨by rw [unhide HK, kindOf, if_pos hneg], rfl⟩
            · go_wp2
              go_meet
              case rel => exact ⟨by rw [unhide HK, kindOf, if_neg (by omega)], rfl⟩
          case rest =>
            obtain ⟨rfl, hwc⟩ := hcut
            rw [hwc]
            clear hwc hq1 hq2
            go_upto_if 79 with fail
            go_cut [11] (fun nv wx => nv = .string s ∧ wx = wr)
            case first =>
              by_cases hm2 : k < xs.length
              · obtain ⟨bn, offn, ha, hbn, hcn⟩ := unhide HX2 k s (by rw [unhide HS]; unfold nameAt; rw [List.getElem?_eq_getElem hm2]; rfl)
                subst ha
                have hcelln : wr.cell? ⟨bn, offn + k, none⟩ = some (.string s) := (M.bel.cell (p := ⟨bn, offn + k, none⟩) hbn).trans hcn
                clear hcn
                go_wp2
                go_meet
                case rel => exact ⟨rfl, rfl⟩
              · go_wp2
                go_meet
                case rel =>
                  refine ⟨?_, rfl⟩
                  rw [unhide HS]
                  unfold nameAt
                  rw [List.getElem?_eq_none (by omega)]
                  rfl
            case rest =>
              obtain ⟨rfl, hwc⟩ := hcut
              rw [hwc]
              clear hwc
              go_upto_if 85 with fail
              go_cut [8] (fun wv wx => Mod w2.heap.size zs.length w2 k vs (texts zs xs k) wv (wantRow (texts zs xs k) ++ sepL k) wx)
              case first =>
                by_cases hk0 : 0 < k
                · go_wp2_with (at_builtin; refine wp_want rfl (.tmp 86) (.tmp 87) rfl [59, 32] rfl _ rfl rfl rfl M (by simp; omega) ?_; intro want2 w6 M2)
                  go_meet
                  case rel => rw [sepL_pos hk0]; exact M2
                · go_wp2
                  go_meet
                  case rel =>
                    obtain rfl : k = 0 := by omega
                    rw [sepL_zero, List.append_nil]
                    exact M
              case rest =>
                have M2 := hcut
                have hg2 := M2.gt
                have hsl := sepL_length k
                clear hcut M hgt
                have hKc : K = 0 ∨ K = 1 ∨ K = 2 ∨ K = 3 := by omega
                rcases hKc with rfl | rfl | rfl | rfl
                · go_wp2_with (first | (at_builtin; refine wp_stmt rfl (.tmp 119) (.tmp 129) rfl rfl _ (by simp) rfl rfl (by exact (Mod.alloc (Mod.alloc M2 _) _)) (by omega) rfl (by exact says_new _ _ _ _ hg2) ?_; intro w7 M3) | (at_builtin; refine wp_wantStr rfl (.tmp 131) (.tmp 132) rfl rfl rfl M3 (by simp; omega) ?_; intro want3 w8 M4))
                  have Mf := M4.fin (unhide HT) (unhide HS) (by unfold txt; rw [← unhide HK]; rfl) (by simp)
                  clear M2 M3 M4
                  go_roundw
                  case rel => exact ⟨k + 1, _, by omega, by go_num, rfl, Mf⟩
                  case measure => simp [intOf]; omega
                · go_wp2_with (first | (at_builtin; refine wp_stmt rfl (.tmp 136) (.tmp 142) rfl rfl _ (by simp) rfl rfl (by exact Mod.alloc M2 _) (by omega) rfl (by exact saysBut_empty _ _ _) ?_; intro w7 M3) | (at_builtin; refine wp_want rfl (.tmp 144) (.tmp 145) rfl [59] rfl _ rfl rfl rfl M3 (by simp; omega) ?_; intro want3 w8 M4))
                  have Mf := M4.fin (unhide HT) (unhide HS) (by unfold txt; rw [← unhide HK]; rfl) (by simp [Lib.strCells])
                  clear M2 M3 M4
                  go_roundw
                  case rel => exact ⟨k + 1, _, by omega, by go_num, rfl, Mf⟩
                  case measure => simp [intOf]; omega
                · go_wp2_with (first | (at_builtin; refine wp_stmt rfl (.tmp 149) (.tmp 157) rfl rfl _ (by simp) rfl rfl (by exact Mod.alloc M2 _) (by omega) rfl (by exact saysBut_bad _ _ _) ?_; intro w7 M3) | (at_builtin; refine wp_wantStr (t := bad) rfl (.tmp 159) _ rfl rfl rfl M3 (by rw [List.length_append]; have : bad.size = 15 := rfl; omega) ?_; intro want3 w8 M4))
                  have Mf := M4.fin (unhide HT) (unhide HS) (by unfold txt; rw [← unhide HK]; rfl) (by simp [bad])
                  clear M2 M3 M4
                  go_roundw
                  case rel => exact ⟨k + 1, _, by omega, by go_num, rfl, Mf⟩
                  case measure => simp [intOf]; omega
                · go_wp2_with (first | (at_make; refine wpList_make_own _ rfl _ _ 27 rfl wc.heap.size 51 i1 .nilIface 1 Eajg.underlying27 hi1 hy0 hy1 _ _ _ 1 rfl rfl rfl (by rw [hy2]; omega) (by unfold maxLen; omega) (Nat.le_refl _) ?_; intro w7 hown7 hgrow7) | (at_builtin; refine wpList_append_fits _ rfl (.tmp 91) (.tmp 99) 27 rfl wc.heap.size 51 i1 1 Eajg.underlying27 hi1 hy1 wc.heap.size 0 1 [] rfl (((hown7.alloc _).alloc _).alloc _) ⟨w7.heap.size + 1 + 1, 0, none⟩ 1 1 [.iface 29 (.pointer (some ⟨w7.heap.size + 1, 0, none⟩))] rfl rfl (by exact cell_third3 _ _ _ _ _) (by intro u hu; simp at hu; subst hu; rfl) (by omega) ?_; intro w8 hown8 hgrow8; have HI := hide (says_inner (g := w2.heap.size) (lb := .int .i64 0) (rb := .int .i64 0) hg2 hns hgrow7 hown7 hown8 hgrow8); have M5 := M2.later (unhide HI).1; clear hown7 hgrow7 hown8 hgrow8) | (at_builtin; refine wp_stmt rfl (.tmp 101) (.tmp 106) rfl rfl _ (by simp) rfl rfl (by exact Mod.alloc M5 _) (by omega) rfl (by exact (unhide HI).2) ?_; intro w9 M6) | (at_builtin; refine wp_want rfl (.tmp 108) (.tmp 109) rfl [123] rfl _ rfl rfl rfl M6 (by simp; omega) ?_; intro want3 w10 M7) | (at_builtin; refine wp_wantStr rfl (.tmp 111) (.tmp 112) rfl rfl rfl M7 (by simp; omega) ?_; intro want4 w11 M8) | (at_builtin; refine wp_want rfl (.tmp 114) (.tmp 115) rfl [125] rfl _ rfl rfl rfl M8 (by simp [Lib.strCells_length]; omega) ?_; intro want5 w12 M9))
                  have Mf := M9.fin (unhide HT) (unhide HS) (by unfold txt; rw [← unhide HK]; rfl) (by rw [strCells_block]; simp)
                  clear M2 M5 M6 M7 M8 M9
                  go_roundw
                  case rel => exact ⟨k + 1, _, by omega, by go_num, rfl, Mf⟩
                  case measure => simp [intOf]; omega
        · obtain rfl : k = zs.length := by omega
          have hjl : (Lib.join (parts (texts zs xs zs.length)) [59, 32]).length ≤ 4194304 := by
            have := texts_join zs xs zs.length
            have := unhide HSX
            omega
          have hwl : (wantRow (texts zs xs zs.length)).length ≤ 4194305 := by rw [wantRow_length]; omega
          obtain ⟨T, hT⟩ : ∃ T, T = blockStr (texts zs xs zs.length) := ⟨_, rfl⟩
          have hTN : (wantRow (texts zs xs zs.length) ++ [125].map (Value.int .u8)).length = T.size := by
            rw [hT, show [125].map (Value.int .u8) = [.int .u8 125] from rfl, wantRow_all, Lib.strCells_length]
          have hTs : T.size ≤ 4194310 := by
            have := blockStr_size (texts zs xs zs.length)
            have e : (Lib.join (parts (texts zs xs zs.length)) [59, 32]).length = (Lib.join ((texts zs xs zs.length).map (·.data.toList)) [59, 32]).length := rfl
            rw [hT]
            omega
          have hTp : 0 < T.size := by
            have := blockStr_size (texts zs xs zs.length)
            rw [hT]
            omega
          have HN := hide hTN
          have HTT := hide hT
          have HJ := hide hjl
          clear hT hTN hjl hlt hk HZ2 HX2
          go_wp2_with (at_builtin; refine wp_wantF rfl (.tmp 161) (.tmp 162) rfl [125] rfl _ rfl rfl rfl M (by simp; omega) T.size (unhide HN) hTp ?_; intro gw capw w6 M2 hgw)
          have htx := M2.text hnz (by exact Nat.le_trans (unhide HJ) (by omega)) (.int .i64 1) (.int .i64 ((zs.length : Int) + 2))
          rw [← unhide HTT] at htx
          refine htx.mono ?_
          rintro e w7 ⟨rfl, hb7⟩
          have hcs : ∀ j, (h : j < T.size) → w7.cell? ⟨gw, j, none⟩ = some (.int .u8 (T[j]'h).toNat) := fun j h => by
            have hl := unhide HN
            rw [hb7.cell (p := ⟨gw, j, none⟩) (by simp; omega), World.cell?_alloc_lt _ _ ⟨gw, j, none⟩ hgw]
            have hown := M2.wnt
            rw [hl] at hown
            rw [hown.cellAt j (by omega), show [125].map (Value.int .u8) = [.int .u8 125] from rfl, wantRow_all, ← unhide HTT]
            exact strCells_get T j h
          have hsz2 := M2.bel.size
          have hb6 : Below w.heap.size w w6 := hbw2.trans (M2.bel.mono hbw2.size)
          have hb8 : Below w.heap.size w w7 := (hb6.alloc hb6.size _).trans (hb7.mono (by have := hb6.size; simp; omega))
          have HST := hide (same_text T gw capw w7 (by unfold maxLen; omega) hcs)
          clear htx hcs hb6 M M2 hb7
          go_wp2_with fail
          refine (unhide HST).mono ?_
          rintro e w8 ⟨rfl, n8, rfl⟩
          go_wp2
          go_ret
          exact ⟨rfl, below_drewN hb8 _⟩

end Go.Proofs.Yoeajw
