import Derived.Test.YoeajwStmts
import Derived.Lib.AppendStr
namespace Go.Proofs.Yoeajw
open Go.RowKit

theorem Eajg.info5 : (Eajg.prog.info? 5).map (fun i => (i.zero, i.size, i.bytes)) = some (some (.int .u8 0), 1, 1) := by kernel_rfl

/-- The blocks that may turn while the statements are gathered: the statements' own row, and every row of bytes. -/
def Xb (g : Nat) (W : World) (k : Nat) : Prop := k = g ∨ ∃ cur fr, W.heap[k]? = some (.cells cur 5 fr)

theorem xb_of_own {g k b n : Nat} {W : World} {v : Value} {xs : List Value} (h : W.ownsRow b 5 1 v n xs) (hk : v.ownBlock = some k) : Xb g W k := by
  rcases h.2 with ⟨rfl, _⟩ | ⟨g', cap, cur, rfl, _, hg, _⟩
  · cases hk
  · cases hk
    exact .inr ⟨cur, _, hg⟩

theorem not_xb {g k : Nat} {W : World} {cs : Array Value} {t : TypeId} {fr : Nat × Nat} (hk : k ≠ g) (h : W.heap[k]? = some (.cells cs t fr)) (ht : t ≠ 5) : ¬ Xb g W k := by
  rintro (h0 | ⟨cur, fr', h1⟩)
  · exact hk h0
  · rw [h] at h1
    cases h1
    exact ht rfl

theorem says_keep {g : Nat} {W W' : World} {v : Value} {s : ByteArray} (h : SaysBut (Xb g W) W v s) (hsz : W.heap.size ≤ W'.heap.size) (hk : ∀ k, k < W.heap.size → ¬ Xb g W k → W'.heap[k]? = W.heap[k]?) : SaysBut (Xb g W') W' v s := by
  refine h.step hsz hk (fun k hlt hx => Classical.byContradiction fun hn => ?_)
  have e := hk k hlt hn
  rcases hx with h0 | ⟨cur, fr, h1⟩
  · exact hn (.inl h0)
  · exact hn (.inr ⟨cur, fr, by rw [← e]; exact h1⟩)

/-- WHAT HOLDS WHILE THE BLOCK AND THE WANTED TEXT ARE BUILT: k statements in the row g, their texts ss; the wanted text's cells so far; below g the world is w0. -/
structure Mod (g n : Nat) (w0 : World) (k : Nat) (vs : List Value) (ss : List ByteArray) (want : Value) (cs : List Value) (W : World) : Prop where
  len : vs.length = k
  slen : ss.length = k
  stm : W.ownsRow g 51 1 (.slice (some ⟨g, 0, none⟩) k n) k vs
  wnt : W.ownsRow (g + 1) 5 1 want cs.length cs
  say : ∀ (j : Nat) v s, vs[j]? = some v → ss[j]? = some s → SaysBut (Xb g W) W v s
  bel : Below g w0 W

theorem Mod.gt {g n : Nat} {w0 : World} {k : Nat} {vs : List Value} {ss : List ByteArray} {want : Value} {cs : List Value} {W : World} (h : Mod g n w0 k vs ss want cs W) : g < W.heap.size := (h.stm.lt g rfl).2

theorem Mod.later {g n : Nat} {w0 : World} {k : Nat} {vs : List Value} {ss : List ByteArray} {want : Value} {cs : List Value} {W W' : World} (h : Mod g n w0 k vs ss want cs W) (hb : Below W.heap.size W W') : Mod g n w0 k vs ss want cs W' :=
  ⟨h.len, h.slen, own_later h.stm hb, own_later h.wnt hb, fun j v s hv hs => says_keep (h.say j v s hv hs) hb.size (fun i hi _ => hb.block i hi), h.bel.trans (hb.mono (Nat.le_of_lt h.gt))⟩

theorem Mod.alloc {g n : Nat} {w0 : World} {k : Nat} {vs : List Value} {ss : List ByteArray} {want : Value} {cs : List Value} {W : World} (h : Mod g n w0 k vs ss want cs W) (o : Obj) : Mod g n w0 k vs ss want cs (W.alloc o) :=
  h.later ((Below.refl _ _).alloc (Nat.le_refl _) _)

/-- Behind an append to the wanted text. -/
theorem Mod.wanted {g n : Nat} {w0 : World} {k : Nat} {vs : List Value} {ss : List ByteArray} {want want' : Value} {cs news : List Value} {W W' : World} (h : Mod g n w0 k vs ss want cs W)
    (hown : W'.ownsRow (g + 1) 5 1 want' (cs ++ news).length (cs ++ news)) (hgrow : W.grownBy W' want.ownBlock) : Mod g n w0 k vs ss want' (cs ++ news) W' := by
  have hne : (Value.slice (some ⟨g, 0, none⟩) k n).ownBlock ≠ want.ownBlock := fun e => by
    have := (h.wnt.lt g e.symm).1
    omega
  refine ⟨h.len, h.slen, h.stm.kept hgrow (.inr hne), hown, fun j v s hv hs => says_keep (h.say j v s hv hs) hgrow.size (fun i hi hx => hgrow.block i hi (fun e => hx (xb_of_own h.wnt e.symm))), ?_⟩
  exact h.bel.grown hgrow (Nat.le_of_lt h.gt) (fun b hb => by have := (h.wnt.lt b hb).1; omega)

/-- 'want = append(want, bytes..)': the bytes lie in a new block first. -/
theorem wp_want {W1 : World} {ops : Array Oper} {rest : List Oper} {o : Oper} {a : Act} {Q : Exit → Act → World → Prop} (hgd : o.guard = none) (s x : Operand)
    (ho : o.op = .call { callee := .builtin .append, args := #[s, x], argTypes := #[28, 28] }) (bs : List Int) {W : World} (hW : W1 = W.alloc (.cells (bs.map (Value.int .u8)).toArray 5)) (H : Nat) (hH : W.heap.size = H)
    {g n : Nat} {w0 : World} {k : Nat} {vs : List Value} {ss : List ByteArray} {want : Value} {cs : List Value} (hs : a.eval s = want) (hx : a.eval x = .slice (some ⟨H, 0, none⟩) bs.length bs.length)
    (h : Mod g n w0 k vs ss want cs W) (hlen : cs.length + bs.length ≤ 1099511627776)
    (hK : ∀ want' w', Mod g n w0 k vs ss want' (cs ++ bs.map (Value.int .u8)) w' → wpList Eajg.prog ops Q rest (a.put o.dst want') w') : wpList Eajg.prog ops Q (o :: rest) a W1 := by
  obtain ⟨i0, hi, hz0, hz1, hz2⟩ := info_parts Eajg.info5
  subst hW
  subst hH
  have hgt := h.gt
  refine wpList_append_own _ hgd s x 28 ho (g + 1) 5 i0 (.int .u8 0) 1 1 Eajg.underlying28 hi hz0 hz1 hz2 rfl (by decide) want cs.length cs hs (h.wnt.alloc _) ⟨W.heap.size, 0, none⟩ bs.length bs.length (bs.map (Value.int .u8)) hx (by simp) ?_ ?_ (by unfold maxLen; omega) (by omega) (by simp; omega) ?_
  · intro j u hu
    have : (⟨W.heap.size, 0, none⟩ : Addr).add j = ⟨W.heap.size, j, none⟩ := by
      unfold Addr.add
      split <;> simp_all
    rw [this, World.cell?_alloc_at _ _ _ _ rfl]
    simpa using hu
  · intro u hu
    obtain ⟨b, _, rfl⟩ := List.mem_map.1 hu
    rfl
  · intro v' w' hown hgrow _
    refine hK v' w' ((h.alloc _).wanted ?_ hgrow)
    rw [List.length_append, List.length_map]
    exact hown

/-- As 'wp_want', the new value written out. -/
theorem wp_wantF {W1 : World} {ops : Array Oper} {rest : List Oper} {o : Oper} {a : Act} {Q : Exit → Act → World → Prop} (hgd : o.guard = none) (s x : Operand)
    (ho : o.op = .call { callee := .builtin .append, args := #[s, x], argTypes := #[28, 28] }) (bs : List Int) {W : World} (hW : W1 = W.alloc (.cells (bs.map (Value.int .u8)).toArray 5)) (H : Nat) (hH : W.heap.size = H)
    {g n : Nat} {w0 : World} {k : Nat} {vs : List Value} {ss : List ByteArray} {want : Value} {cs : List Value} (hs : a.eval s = want) (hx : a.eval x = .slice (some ⟨H, 0, none⟩) bs.length bs.length)
    (h : Mod g n w0 k vs ss want cs W) (hlen : cs.length + bs.length ≤ 1099511627776) (N : Nat) (hN : (cs ++ bs.map (Value.int .u8)).length = N) (hpos : 0 < N)
    (hK : ∀ gw capw w', Mod g n w0 k vs ss (.slice (some ⟨gw, 0, none⟩) N capw) (cs ++ bs.map (Value.int .u8)) w' → gw < w'.heap.size → wpList Eajg.prog ops Q rest (a.put o.dst (.slice (some ⟨gw, 0, none⟩) N capw)) w') : wpList Eajg.prog ops Q (o :: rest) a W1 := by
  refine wp_want hgd s x ho bs hW H hH hs hx h hlen ?_
  intro want' w' M
  obtain ⟨gw, capw, hv, _, hlt⟩ := M.wnt.form (by rw [hN]; exact hpos)
  rw [hN] at hv
  rw [hv] at M ⊢
  exact hK gw capw w' M hlt

/-- 'want = append(want, s...)', s a string. -/
theorem wp_wantStr {W : World} {ops : Array Oper} {rest : List Oper} {o : Oper} {a : Act} {Q : Exit → Act → World → Prop} (hgd : o.guard = none) (s x : Operand)
    (ho : o.op = .call { callee := .builtin .append, args := #[s, x], argTypes := #[28, 9] })
    {g n : Nat} {w0 : World} {k : Nat} {vs : List Value} {ss : List ByteArray} {want : Value} {cs : List Value} {t : ByteArray} (hs : a.eval s = want) (hx : a.eval x = .string t)
    (h : Mod g n w0 k vs ss want cs W) (hlen : cs.length + t.size ≤ 1099511627776)
    (hK : ∀ want' w', Mod g n w0 k vs ss want' (cs ++ Lib.strCells t) w' → wpList Eajg.prog ops Q rest (a.put o.dst want') w') : wpList Eajg.prog ops Q (o :: rest) a W := by
  obtain ⟨i0, hi, hz0, hz1, hz2⟩ := info_parts Eajg.info5
  have hgt := h.gt
  refine Lib.wpList_append_own_string _ hgd s x 28 9 ho (g + 1) 5 i0 Eajg.underlying28 Eajg.underlying9 hi hz0 hz1 hz2 want cs.length cs hs h.wnt t hx (by unfold maxLen; omega) (by omega) (by omega) ?_
  intro v' w' hown hgrow _
  refine hK v' w' (h.wanted ?_ hgrow)
  rw [List.length_append, Lib.strCells_length]
  exact hown

/-- 'stmts = append(stmts, v)': v lies in a new block first; there is room. -/
theorem wp_stmt {W1 : World} {ops : Array Oper} {rest : List Oper} {o : Oper} {a : Act} {Q : Exit → Act → World → Prop} (hgd : o.guard = none) (s x : Operand)
    (ho : o.op = .call { callee := .builtin .append, args := #[s, x], argTypes := #[27, 27] }) {W : World} {v : Value} (hW : W1 = W.alloc (.cells #[v] 51)) (H : Nat) (hH : W.heap.size = H)
    {g n : Nat} {w0 : World} {k : Nat} {vs : List Value} {ss : List ByteArray} {want : Value} {cs : List Value} {t : ByteArray} (hs : a.eval s = .slice (some ⟨g, 0, none⟩) k n) (hx : a.eval x = .slice (some ⟨H, 0, none⟩) 1 1)
    (h : Mod g n w0 k vs ss want cs W) (hroom : k + 1 ≤ n) (h1 : v.oneCell' = true) (hsay : SaysBut (Xb g W) W v t)
    (hK : ∀ w', Mod g n w0 (k + 1) (vs ++ [v]) (ss ++ [t]) want cs w' → wpList Eajg.prog ops Q rest (a.put o.dst (.slice (some ⟨g, 0, none⟩) (k + 1) n)) w') : wpList Eajg.prog ops Q (o :: rest) a W1 := by
  obtain ⟨i1, hi1, hy0, hy1, hy2⟩ := info_parts Eajg.info51
  subst hW
  subst hH
  have hgt := h.gt
  refine wpList_append_fits _ hgd s x 27 ho g 51 i1 1 Eajg.underlying27 hi1 hy1 g k n vs hs (h.stm.alloc _) ⟨W.heap.size, 0, none⟩ 1 1 [v] hx rfl (cell_one_new _ _ _) (by intro u hu; simp at hu; subst hu; exact h1) hroom ?_
  intro w' hown hgrow
  have hsz : W.heap.size + 1 ≤ w'.heap.size := by have := hgrow.size; simp at this; omega
  have hkeep : ∀ i, i < W.heap.size → ¬ Xb g W i → w'.heap[i]? = W.heap[i]? := fun i hi hx => by
    rw [hgrow.block i (by simp; omega) (fun e => hx (.inl (Option.some.inj e))), Below.heap_alloc _ _ _ hi]
  have hne : want.ownBlock ≠ some g := fun e => by
    have := (h.wnt.lt g e).1
    omega
  refine hK w' ⟨by simp [h.len], by simp [h.slen], hown, (h.wnt.alloc _).kept hgrow (.inr hne), ?_, (h.bel.alloc (Nat.le_of_lt hgt) _).grown hgrow (by simp; omega) (fun i hi => by cases hi; exact Nat.le_refl _)⟩
  intro j v' s' hv hs'
  by_cases hj : j < k
  · rw [List.getElem?_append_left (by rw [h.len]; exact hj)] at hv
    rw [List.getElem?_append_left (by rw [h.slen]; exact hj)] at hs'
    exact says_keep (h.say j v' s' hv hs') (by omega) hkeep
  · have hlt : j < (vs ++ [v]).length := (List.getElem?_eq_some_iff.1 hv).1
    have hjk : j = k := by simp [h.len] at hlt; omega
    subst hjk
    rw [List.getElem?_append_right (by rw [h.len]; exact Nat.le_refl _), h.len] at hv
    rw [List.getElem?_append_right (by rw [h.slen]; exact Nat.le_refl _), h.slen] at hs'
    simp at hv hs'
    subst hv
    subst hs'
    exact says_keep hsay (by omega) hkeep

/-- A block of one identifier statement. -/
theorem saysBut_block {X : Nat → Prop} {W : World} {b d e c : Nat} {s : ByteArray} (hb : b < W.heap.size) (hd : d < W.heap.size) (he : e < W.heap.size) (hc : c < W.heap.size) (xb : ¬ X b) (xd : ¬ X d) (xe : ¬ X e) (xc : ¬ X c)
    (h0 : W.cell? ⟨b, 0, none⟩ = some (.slice (some ⟨d, 0, none⟩) 1 1)) (h1 : W.cell? ⟨d, 0, none⟩ = some (.iface 29 (.pointer (some ⟨e, 0, none⟩))))
    (h2 : W.cell? ⟨e, 0, none⟩ = some (.iface 30 (.pointer (some ⟨c, 0, none⟩)))) (h3 : W.cell? ⟨c, 0, none⟩ = some (.string s)) (hs : s.size ≤ 1048576) :
    SaysBut X W (.iface 44 (.pointer (some ⟨b, 0, none⟩))) (blockStr [s]) := by
  refine ⟨44, 9, ⟨b, 0, none⟩, rfl, .inr (.inr (.inr ⟨rfl, rfl⟩)), fun W' hsz hag => ?_⟩
  have k0 := (World.cell?_of_block (w := W) (a := ⟨b, 0, none⟩) (hag b hb xb)).trans h0
  have k1 := (World.cell?_of_block (w := W) (a := ⟨d, 0, none⟩) (hag d hd xd)).trans h1
  have k2 := (World.cell?_of_block (w := W) (a := ⟨e, 0, none⟩) (hag e he xe)).trans h2
  have k3 := (World.cell?_of_block (w := W) (a := ⟨c, 0, none⟩) (hag c hc xc)).trans h3
  refine blk_any b d 1 [.iface 29 (.pointer (some ⟨e, 0, none⟩))] [s] W' rfl (by simp) (Nat.lt_of_lt_of_le hd hsz) ?_ k0 ?_ ?_
  · show (Lib.join [s.data.toList] [59, 32]).length ≤ _
    rw [Lib.join_one]
    have : s.data.toList.length = s.size := rfl
    omega
  · intro j v hv
    match j, hv with
    | 0, hv => simp at hv; subst hv; exact k1
  · intro j v t hv ht
    match j, hv, ht with
    | 0, hv, ht =>
      simp at hv ht
      subst hv
      subst ht
      exact (saysBut_expr (X := fun _ => False) (Nat.lt_of_lt_of_le he hsz) (Nat.lt_of_lt_of_le hc hsz) (fun h => h) (fun h => h) k2 k3).says

/-- The text of a block of all the statements that have been gathered. -/
theorem Mod.text {g n : Nat} {w0 : World} {vs : List Value} {ss : List ByteArray} {want : Value} {cs : List Value} {W : World} (h : Mod g n w0 n vs ss want cs W) (hn : n ≤ 131072) (hS : (Lib.join (ss.map (·.data.toList)) [59, 32]).length ≤ 1073741824) (lb rb : Value) :
    Calls Eajg.prog 9 #[.pointer (some ⟨W.heap.size, 0, none⟩)] (W.alloc (.cells #[.slice (some ⟨g, 0, none⟩) n n, lb, rb] 46)) fun e w' => e = .returned (.string (blockStr ss)) ∧
      Below (W.alloc (.cells #[.slice (some ⟨g, 0, none⟩) n n, lb, rb] 46)).heap.size (W.alloc (.cells #[.slice (some ⟨g, 0, none⟩) n n, lb, rb] 46)) w' := by
  have hg := h.gt
  have hb : Below W.heap.size W (W.alloc (.cells #[.slice (some ⟨g, 0, none⟩) n n, lb, rb] 46)) := (Below.refl _ _).alloc (Nat.le_refl _) _
  refine blk_any W.heap.size g n vs ss _ (by rw [h.len, h.slen]) (by rw [h.len]; omega) (by simp; omega) hS (by rw [h.len]; simp) ?_ ?_
  · intro j v hv
    have hj : j < vs.length := (List.getElem?_eq_some_iff.1 hv).1
    rw [hb.cell (p := ⟨g, j, none⟩) hg, h.stm.cellAt j (by rw [← h.len]; omega), hv]
  · intro j v s hv hs
    exact (h.say j v s hv hs).says.later hb

end Go.Proofs.Yoeajw
