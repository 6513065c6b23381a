import Derived.Test.YoeajwMod
import Derived.Test.YoeajwScan
namespace Go.Proofs.Yoeajw
open Go.RowKit

def bad : ByteArray := ⟨#[60, 98, 97, 100, 32, 115, 116, 97, 116, 101, 109, 101, 110, 116, 62]⟩
def semi : ByteArray := ⟨#[59]⟩

/-- A statement's kind, as the program reckons it. -/
def kindOf (z : Int) : Int := if z.tmod 4 < 0 then z.tmod 4 + 4 else z.tmod 4
theorem kind_range (z : Int) : 0 ≤ kindOf z ∧ kindOf z ≤ 3 := by
  have h1 := Int.tmod_lt_of_pos z (show (0 : Int) < 4 by decide)
  have h2 : -4 < z.tmod 4 := by
    have := Int.lt_tmod_of_pos z (show (0 : Int) < 4 by decide)
    omega
  unfold kindOf
  split <;> omega

/-- A statement's text. -/
def txt (z : Int) (s : ByteArray) : ByteArray := if kindOf z = 0 then s else if kindOf z = 1 then semi else if kindOf z = 2 then bad else blockStr [s]
def nameAt (xs : List ByteArray) (i : Nat) : ByteArray := (xs[i]?).getD ⟨#[]⟩
def texts (zs : List Int) (xs : List ByteArray) (k : Nat) : List ByteArray := (List.range k).map fun i => txt ((zs[i]?).getD 0) (nameAt xs i)

theorem texts_zero (zs : List Int) (xs : List ByteArray) : texts zs xs 0 = [] := rfl
theorem texts_length (zs : List Int) (xs : List ByteArray) (k : Nat) : (texts zs xs k).length = k := by simp [texts]
theorem texts_succ (zs : List Int) (xs : List ByteArray) (k : Nat) (z : Int) (h : zs[k]? = some z) : texts zs xs (k + 1) = texts zs xs k ++ [txt z (nameAt xs k)] := by
  simp [texts, List.range_succ, h]

theorem blockStr_one (s : ByteArray) : (blockStr [s]).size = s.size + 2 := by
  rw [blockStr_size]
  show (Lib.join [s.data.toList] [59, 32]).length + 2 = _
  rw [Lib.join_one]
  rfl

theorem txt_size (z : Int) (s : ByteArray) : (txt z s).size ≤ s.size + 15 := by
  unfold txt
  split
  · omega
  split
  · have : semi.size = 1 := rfl
    omega
  split
  · have : bad.size = 15 := rfl
    omega
  · rw [blockStr_one]; omega

theorem sumTo_next (xs : List ByteArray) (k : Nat) : sumTo xs (k + 1) = sumTo xs k + (nameAt xs k).size := by
  unfold sumTo nameAt
  rw [List.take_add_one]
  rcases xs[k]? with _ | x
  · simp
    rfl
  · simp

theorem sumTo_le (xs : List ByteArray) (k : Nat) : sumTo xs k ≤ sumTo xs xs.length := by
  by_cases h : k ≤ xs.length
  · induction hd : xs.length - k generalizing k with
    | zero =>
      have : k = xs.length := by omega
      rw [this]; exact Nat.le_refl _
    | succ d ih =>
      have := ih (k + 1) (by omega) (by omega)
      rw [sumTo_next] at this
      omega
  · have e : sumTo xs k = sumTo xs xs.length := by
      unfold sumTo
      rw [List.take_of_length_le (by omega), List.take_of_length_le (Nat.le_refl _)]
    omega

theorem nameAt_size (xs : List ByteArray) (k : Nat) : (nameAt xs k).size ≤ sumTo xs xs.length := by
  have h1 := sumTo_next xs k
  have h2 := sumTo_le xs (k + 1)
  omega

theorem texts_sum (zs : List Int) (xs : List ByteArray) : ∀ k, sumTo (texts zs xs k) k ≤ sumTo xs k + 15 * k
  | 0 => by simp [sumTo]
  | k + 1 => by
    have ih := texts_sum zs xs k
    have e : texts zs xs (k + 1) = texts zs xs k ++ [txt ((zs[k]?).getD 0) (nameAt xs k)] := by simp [texts, List.range_succ]
    have h1 : sumTo (texts zs xs (k + 1)) (k + 1) = sumTo (texts zs xs k) k + (txt ((zs[k]?).getD 0) (nameAt xs k)).size := by
      unfold sumTo
      rw [List.take_of_length_le (by rw [texts_length]; exact Nat.le_refl _), List.take_of_length_le (by rw [texts_length]; exact Nat.le_refl _), e]
      simp
    have h2 := txt_size ((zs[k]?).getD 0) (nameAt xs k)
    rw [h1, sumTo_next]
    omega

/-- The joined texts are short. -/
theorem texts_join (zs : List Int) (xs : List ByteArray) (k : Nat) : (Lib.join (parts (texts zs xs k)) [59, 32]).length ≤ sumTo xs xs.length + 17 * k := by
  have h1 := join_bound (texts zs xs k)
  rw [texts_length] at h1
  have h2 := texts_sum zs xs k
  have h3 := sumTo_le xs k
  have e : (Lib.join (parts (texts zs xs k)) [59, 32]).length = (Lib.join ((texts zs xs k).map (·.data.toList)) [59, 32]).length := rfl
  omega

/-- The wanted text's cells, its closing brace not yet there. -/
def wantRow (ss : List ByteArray) : List Value := Value.int .u8 123 :: (Lib.join (parts ss) [59, 32]).map fun b => Value.int .u8 b.toNat

theorem wantRow_nil : wantRow [] = [.int .u8 123] := by simp [wantRow, parts, Lib.join_nil]

theorem wantRow_length (ss : List ByteArray) : (wantRow ss).length = (Lib.join (parts ss) [59, 32]).length + 1 := by simp [wantRow]

theorem join_snoc : ∀ (ls : List (List UInt8)) (x : List UInt8), Lib.join (ls ++ [x]) [59, 32] = Lib.join ls [59, 32] ++ ((if ls = [] then [] else [59, 32]) ++ x)
  | [], x => by simp [Lib.join_one, Lib.join_nil]
  | [y], x => by
    rw [show ([y] ++ [x] : List (List UInt8)) = y :: x :: [] from rfl, join_cons2, Lib.join_one, Lib.join_one]
    simp
  | y :: z :: r, x => by
    have ih := join_snoc (z :: r) x
    rw [show (y :: z :: r ++ [x] : List (List UInt8)) = y :: z :: (r ++ [x]) from rfl, join_cons2, join_cons2]
    rw [show (z :: (r ++ [x]) : List (List UInt8)) = z :: r ++ [x] from rfl, ih]
    simp

/-- What is written ahead of the k-th statement. -/
def sepL (k : Nat) : List Value := if k = 0 then [] else [.int .u8 59, .int .u8 32]
theorem sepL_zero : sepL 0 = [] := rfl
theorem sepL_pos {k : Nat} (h : 0 < k) : sepL k = [.int .u8 59, .int .u8 32] := by unfold sepL; rw [if_neg (by omega)]
theorem sepL_length (k : Nat) : (sepL k).length ≤ 2 := by unfold sepL; split <;> simp

theorem wantRow_snoc (ss : List ByteArray) (t : ByteArray) : wantRow (ss ++ [t]) = wantRow ss ++ ((if ss = [] then [] else [.int .u8 59, .int .u8 32]) ++ Lib.strCells t) := by
  unfold wantRow
  have e : parts (ss ++ [t]) = parts ss ++ [t.data.toList] := by simp [parts]
  rw [e, join_snoc]
  by_cases h : ss = []
  · subst h
    simp [parts, Lib.strCells]
  · have h' : parts ss ≠ [] := by
      intro h0
      exact h (by simpa [parts] using h0)
    rw [if_neg h, if_neg h']
    simp [Lib.strCells]

/-- The wanted text whole: the block's own text. -/
theorem wantRow_all (ss : List ByteArray) : wantRow ss ++ [.int .u8 125] = Lib.strCells (blockStr ss) := by
  unfold wantRow Lib.strCells blockStr blockText
  simp [parts]

theorem strCells_block (s : ByteArray) : Lib.strCells (blockStr [s]) = [.int .u8 123] ++ Lib.strCells s ++ [.int .u8 125] := by
  unfold Lib.strCells blockStr blockText
  simp [Lib.join_one]

theorem strCells_get (a : ByteArray) (j : Nat) (h : j < a.size) : (Lib.strCells a)[j]? = some (.int .u8 (a[j]'h).toNat) := by
  have hl : j < a.data.toList.length := by simpa using h
  unfold Lib.strCells
  rw [List.getElem?_map, List.getElem?_eq_getElem hl]
  rfl

/-- A new identifier statement says its name. -/
theorem says_new (g : Nat) (W : World) (s : ByteArray) (p : Int) (hg : g < W.heap.size) :
    SaysBut (Xb g ((W.alloc (.cells #[.string s, .int .i64 p] 33)).alloc (.cells #[.iface 30 (.pointer (some ⟨W.heap.size, 0, none⟩))] 37))) ((W.alloc (.cells #[.string s, .int .i64 p] 33)).alloc (.cells #[.iface 30 (.pointer (some ⟨W.heap.size, 0, none⟩))] 37))
      (.iface 29 (.pointer (some ⟨W.heap.size + 1, 0, none⟩))) s := by
  have e1 : ((W.alloc (.cells #[.string s, .int .i64 p] 33)).alloc (.cells #[.iface 30 (.pointer (some ⟨W.heap.size, 0, none⟩))] 37)).heap[W.heap.size]? = some (.cells #[.string s, .int .i64 p] 33) := by
    rw [Below.heap_alloc _ _ _ (by simp)]; exact (MapKept.heap_alloc W _).1
  have e2 : ((W.alloc (.cells #[.string s, .int .i64 p] 33)).alloc (.cells #[.iface 30 (.pointer (some ⟨W.heap.size, 0, none⟩))] 37)).heap[W.heap.size + 1]? = some (.cells #[.iface 30 (.pointer (some ⟨W.heap.size, 0, none⟩))] 37) := by
    have := (MapKept.heap_alloc (W.alloc (.cells #[.string s, .int .i64 p] 33)) (.cells #[.iface 30 (.pointer (some ⟨W.heap.size, 0, none⟩))] 37)).1
    rw [show (W.alloc (.cells #[.string s, .int .i64 p] 33)).heap.size = W.heap.size + 1 from by simp] at this
    exact this
  refine saysBut_expr (c := W.heap.size) (by simp) (by simp; omega) (not_xb (by omega) e2 (by decide)) (not_xb (by omega) e1 (by decide)) ?_ ?_
  · rw [World.cell?_alloc_at _ _ _ _ (by simp)]; rfl
  · rw [World.cell?_alloc_lt _ _ ⟨W.heap.size, 0, none⟩ (by simp), World.cell?_alloc_at _ _ _ _ rfl]; rfl

/-- A new block of one identifier statement: the row of the inner statements was made first (d), then the identifier, the statement, the append; then the block itself. -/
theorem says_inner {g : Nat} {w6 w7 w8 : World} {s : ByteArray} {p : Int} {C : Obj} {lb rb : Value} (hg : g < w6.heap.size) (hs : s.size ≤ 1048576) (hgrow7 : w6.grownBy w7 none) (hown7 : w7.ownsRow w6.heap.size 51 1 (.slice (some ⟨w6.heap.size, 0, none⟩) 0 1) 0 [])
    (hown8 : w8.ownsRow w6.heap.size 51 1 (.slice (some ⟨w6.heap.size, 0, none⟩) 1 1) 1 [.iface 29 (.pointer (some ⟨w7.heap.size + 1, 0, none⟩))])
    (hgrow8 : (((w7.alloc (.cells #[.string s, .int .i64 p] 33)).alloc (.cells #[.iface 30 (.pointer (some ⟨w7.heap.size, 0, none⟩))] 37)).alloc C).grownBy w8 (some w6.heap.size)) :
    Below w6.heap.size w6 w8 ∧ SaysBut (Xb g (w8.alloc (.cells #[.slice (some ⟨w6.heap.size, 0, none⟩) 1 1, lb, rb] 46))) (w8.alloc (.cells #[.slice (some ⟨w6.heap.size, 0, none⟩) 1 1, lb, rb] 46)) (.iface 44 (.pointer (some ⟨w8.heap.size, 0, none⟩))) (blockStr [s]) := by
  have h67 : w6.heap.size < w7.heap.size := (hown7.lt w6.heap.size rfl).2
  have h78 : w7.heap.size + 3 ≤ w8.heap.size := by have := hgrow8.size; simp at this; omega
  refine ⟨?_, ?_⟩
  · have hb7 : Below w6.heap.size w6 w7 := (Below.refl _ _).grown hgrow7 (Nat.le_refl _) (by simp)
    exact (((hb7.alloc (by omega) _).alloc (by simp; omega) _).alloc (by simp; omega) _).grown hgrow8 (by simp; omega) (fun i hi => by cases hi; exact Nat.le_refl _)
  · have k1 : w8.heap[w7.heap.size]? = some (.cells #[.string s, .int .i64 p] 33) := by
      rw [hgrow8.block w7.heap.size (by simp; omega) (by simp; omega), Below.heap_alloc _ _ _ (by simp; omega), Below.heap_alloc _ _ _ (by simp)]
      exact (MapKept.heap_alloc w7 _).1
    have k2 : w8.heap[w7.heap.size + 1]? = some (.cells #[.iface 30 (.pointer (some ⟨w7.heap.size, 0, none⟩))] 37) := by
      rw [hgrow8.block (w7.heap.size + 1) (by simp) (by simp; omega), Below.heap_alloc _ _ _ (by simp)]
      have := (MapKept.heap_alloc (w7.alloc (.cells #[.string s, .int .i64 p] 33)) (.cells #[.iface 30 (.pointer (some ⟨w7.heap.size, 0, none⟩))] 37)).1
      rw [show (w7.alloc (.cells #[.string s, .int .i64 p] 33)).heap.size = w7.heap.size + 1 from by simp] at this
      exact this
    have k3 : ∃ cur, w8.heap[w6.heap.size]? = some (.cells cur 51 (0, 0)) := by
      rcases hown8.2 with ⟨h0, _⟩ | ⟨g', cap, cur, hv, _, hh, _⟩
      · cases h0
      · cases hv
        exact ⟨cur, hh⟩
    obtain ⟨cur, k3⟩ := k3
    have al : ∀ i, i < w8.heap.size → (w8.alloc (.cells #[.slice (some ⟨w6.heap.size, 0, none⟩) 1 1, lb, rb] 46)).heap[i]? = w8.heap[i]? := fun i hi => Below.heap_alloc _ _ _ hi
    have k0 : (w8.alloc (.cells #[.slice (some ⟨w6.heap.size, 0, none⟩) 1 1, lb, rb] 46)).heap[w8.heap.size]? = some (.cells #[.slice (some ⟨w6.heap.size, 0, none⟩) 1 1, lb, rb] 46) := (MapKept.heap_alloc w8 _).1
    refine saysBut_block (d := w6.heap.size) (e := w7.heap.size + 1) (c := w7.heap.size) (by simp) (by simp; omega) (by simp; omega) (by simp; omega)
      (not_xb (by omega) k0 (by decide)) (not_xb (by omega) ((al _ (by omega)).trans k3) (by decide)) (not_xb (by omega) ((al _ (by omega)).trans k2) (by decide)) (not_xb (by omega) ((al _ (by omega)).trans k1) (by decide)) ?_ ?_ ?_ ?_ hs
    · rw [World.cell?_alloc_at _ _ _ _ rfl]; rfl
    · rw [World.cell?_alloc_lt _ _ ⟨w6.heap.size, 0, none⟩ (by simp; omega), hown8.cellAt 0 (by omega)]; rfl
    · rw [World.cell?_alloc_lt _ _ ⟨w7.heap.size + 1, 0, none⟩ (by simp; omega)]
      simp [World.cell?, k2]
    · rw [World.cell?_alloc_lt _ _ ⟨w7.heap.size, 0, none⟩ (by simp; omega)]
      simp [World.cell?, k1]

theorem wantRow_next (zs : List Int) (xs : List ByteArray) (k : Nat) (t : ByteArray) : wantRow (texts zs xs k ++ [t]) = wantRow (texts zs xs k) ++ (sepL k ++ Lib.strCells t) := by
  rw [wantRow_snoc]
  have hl := texts_length zs xs k
  by_cases h : k = 0
  · subst h
    rw [texts_zero]
    rfl
  · rw [if_neg (by intro h0; rw [h0] at hl; simp at hl; omega), sepL_pos (by omega)]

/-- THE ROUND's END: one statement more, its text behind what was wanted so far. -/
theorem Mod.fin {g n : Nat} {w2 : World} {k : Nat} {vs : List Value} {zs : List Int} {xs : List ByteArray} {want : Value} {cs : List Value} {W : World} {z : Int} {s t : ByteArray}
    (h : Mod g n w2 (k + 1) vs (texts zs xs k ++ [t]) want cs W) (hT : texts zs xs (k + 1) = texts zs xs k ++ [txt z (nameAt xs k)]) (hs : s = nameAt xs k) (ht : txt z s = t)
    (hcs : cs = wantRow (texts zs xs k) ++ (sepL k ++ Lib.strCells t)) : Mod g n w2 (k + 1) vs (texts zs xs (k + 1)) want (wantRow (texts zs xs (k + 1))) W := by
  rw [hT, ← hs, ht, wantRow_next, ← hcs]
  exact h

end Go.Proofs.Yoeajw
