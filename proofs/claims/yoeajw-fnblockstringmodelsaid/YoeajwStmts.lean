import Derived.Test.YoeajwString
import Derived.Test.YoeajwNames
import Derived.Test.YoeajwJoin
namespace Go.Proofs.Yoeajw
open Go.RowKit

theorem Eajg.info51 : (Eajg.prog.info? 51).map (fun i => (i.zero, i.size, i.bytes)) = some (some .nilIface, 1, 16) := by kernel_rfl

theorem heap_alloc3 (w : World) (A B C : Obj) (k : Nat) (h : k < w.heap.size) : (((w.alloc A).alloc B).alloc C).heap[k]? = w.heap[k]? := by
  rw [Below.heap_alloc _ _ _ (by simp; omega), Below.heap_alloc _ _ _ (by simp; omega), Below.heap_alloc _ _ _ h]
theorem cell_first3 (w : World) (cs : Array Value) (t : TypeId) (B C : Obj) (j : Nat) : (((w.alloc (.cells cs t)).alloc B).alloc C).cell? ⟨w.heap.size, j, none⟩ = cs[j]? := by
  rw [World.cell?_alloc_lt _ _ ⟨w.heap.size, j, none⟩ (by simp; omega), World.cell?_alloc_lt _ _ ⟨w.heap.size, j, none⟩ (by simp), World.cell?_alloc_at _ _ _ _ rfl]
theorem cell_second3 (w : World) (A : Obj) (cs : Array Value) (t : TypeId) (C : Obj) (j : Nat) : (((w.alloc A).alloc (.cells cs t)).alloc C).cell? ⟨w.heap.size + 1, j, none⟩ = cs[j]? := by
  rw [World.cell?_alloc_lt _ _ ⟨w.heap.size + 1, j, none⟩ (by simp), World.cell?_alloc_at _ _ _ _ (by simp)]

theorem cell_third3 (w : World) (A B : Obj) (x : Value) (t : TypeId) : ∀ (j : Nat) u, [x][j]? = some u → (((w.alloc A).alloc B).alloc (.cells #[x] t)).cell? ((⟨w.heap.size + 1 + 1, 0, none⟩ : Addr).add j) = some u := by
  have h := cell_one_new ((w.alloc A).alloc B) x t
  rw [show ((w.alloc A).alloc B).heap.size = w.heap.size + 1 + 1 from by simp] at h
  exact h

/-- The statements that have been gathered: k of them, in the row g, each with its text; below g the world is as it was. -/
structure Stmts (xs : List ByteArray) (g n : Nat) (w1 : World) (k : Nat) (vs : List Value) (wr : World) : Prop where
  len : vs.length = k
  own : wr.ownsRow g 51 1 (.slice (some ⟨g, 0, none⟩) k n) k vs
  say : ∀ (j : Nat) v s, vs[j]? = some v → xs[j]? = some s → SaysBut (fun i => i = g) wr v s
  bel : Below g w1 wr

theorem Stmts.next {xs : List ByteArray} {g n : Nat} {w1 : World} {k : Nat} {vs : List Value} {wr w3 : World} {x : ByteArray} {C : Obj} {p : Int} (h : Stmts xs g n w1 k vs wr) (hg : g < wr.heap.size) (hx : xs[k]? = some x)
    (hown : w3.ownsRow g 51 1 (.slice (some ⟨g, 0, none⟩) (k + 1) n) (k + 1) (vs ++ [.iface 29 (.pointer (some ⟨wr.heap.size + 1, 0, none⟩))]))
    (hgrow : (((wr.alloc (.cells #[.string x, .int .i64 p] 33)).alloc (.cells #[.iface 30 (.pointer (some ⟨wr.heap.size, 0, none⟩))] 37)).alloc C).grownBy w3 (some g)) :
    Stmts xs g n w1 (k + 1) (vs ++ [.iface 29 (.pointer (some ⟨wr.heap.size + 1, 0, none⟩))]) w3 := by
  have hsz : wr.heap.size + 3 ≤ w3.heap.size := by have := hgrow.size; simp at this; omega
  have hkeep : ∀ i, i < wr.heap.size → ¬ i = g → w3.heap[i]? = wr.heap[i]? := fun i hi hne => by
    rw [hgrow.block i (by simp; omega) (by simpa using hne), heap_alloc3 _ _ _ _ _ hi]
  refine ⟨by simp [h.len], hown, ?_, ?_⟩
  · intro j v s hv hs
    by_cases hj : j < k
    · rw [List.getElem?_append_left (by rw [h.len]; exact hj)] at hv
      exact (h.say j v s hv hs).step (by omega) hkeep (fun _ _ h => h)
    · have hlt : j < (vs ++ [Value.iface 29 (.pointer (some ⟨wr.heap.size + 1, 0, none⟩))]).length := (List.getElem?_eq_some_iff.1 hv).1
      have hjk : j = k := by simp [h.len] at hlt; omega
      subst hjk
      rw [List.getElem?_append_right (by rw [h.len]; exact Nat.le_refl _), h.len] at hv
      rw [hx] at hs
      cases hs
      simp at hv
      subst hv
      refine saysBut_expr (c := wr.heap.size) (by omega) (by omega) (by omega) (by omega) ?_ ?_
      · rw [World.cell?_of_block (w := ((wr.alloc (.cells #[.string x, .int .i64 p] 33)).alloc (.cells #[.iface 30 (.pointer (some ⟨wr.heap.size, 0, none⟩))] 37)).alloc C) (hgrow.block (wr.heap.size + 1) (by simp) (by simp; omega)), cell_second3]
        rfl
      · rw [World.cell?_of_block (w := ((wr.alloc (.cells #[.string x, .int .i64 p] 33)).alloc (.cells #[.iface 30 (.pointer (some ⟨wr.heap.size, 0, none⟩))] 37)).alloc C) (hgrow.block wr.heap.size (by simp; omega) (by simp; omega)), cell_first3]
        rfl
  · have hb3 : Below g w1 (((wr.alloc (.cells #[.string x, .int .i64 p] 33)).alloc (.cells #[.iface 30 (.pointer (some ⟨wr.heap.size, 0, none⟩))] 37)).alloc C) :=
      ((h.bel.alloc (by omega) _).alloc (by simp; omega) _).alloc (by simp; omega) _
    exact hb3.grown hgrow (by simp; omega) (fun i hi => by cases hi; exact Nat.le_refl _)

theorem join_bound (xs : List ByteArray) : (Lib.join (xs.map (·.data.toList)) [59, 32]).length ≤ sumTo xs xs.length + 2 * xs.length := by
  have h := join_length (xs.map (·.data.toList))
  have e : ((xs.map (·.data.toList)).map List.length).sum = sumTo xs xs.length := by
    unfold sumTo
    rw [List.take_length, List.map_map]
    rfl
  rw [e, List.length_map] at h
  exact h

/-- The text of a block of all the statements that have been gathered. -/
theorem Stmts.text {xs : List ByteArray} {g : Nat} {w1 wr : World} {vs : List Value} (h : Stmts xs g xs.length w1 xs.length vs wr) (hn : xs.length ≤ 131072) (hS : sumTo xs xs.length ≤ 1048576) (lb rb : Value) :
    Calls Eajg.prog 9 #[.pointer (some ⟨wr.heap.size, 0, none⟩)] (wr.alloc (.cells #[.slice (some ⟨g, 0, none⟩) xs.length xs.length, lb, rb] 46)) fun e w' => e = .returned (.string (blockStr xs)) ∧
      Below (wr.alloc (.cells #[.slice (some ⟨g, 0, none⟩) xs.length xs.length, lb, rb] 46)).heap.size (wr.alloc (.cells #[.slice (some ⟨g, 0, none⟩) xs.length xs.length, lb, rb] 46)) w' := by
  have hg : g < wr.heap.size := (h.own.lt g rfl).2
  have hjb := join_bound xs
  have hb : Below wr.heap.size wr (wr.alloc (.cells #[.slice (some ⟨g, 0, none⟩) xs.length xs.length, lb, rb] 46)) := (Below.refl _ _).alloc (Nat.le_refl _) _
  refine blk_any wr.heap.size g xs.length vs xs _ h.len.symm (by rw [h.len]; omega) (by simp; omega) (by omega) (by rw [h.len]; simp) ?_ ?_
  · intro j v hv
    have hj : j < vs.length := (List.getElem?_eq_some_iff.1 hv).1
    rw [hb.cell (p := ⟨g, j, none⟩) hg, h.own.cellAt j (by rw [← h.len]; omega), hv]
  · intro j v s hv hs
    exact (h.say j v s hv hs).says.later hb

end Go.Proofs.Yoeajw
