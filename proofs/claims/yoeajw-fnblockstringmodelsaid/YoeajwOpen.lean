import Derived.Test.YoeajwRows
import Derived.ProofKit
namespace Go.Proofs.Yoeajw
open Go.ChangeShapes Go.WideShapes Go.ChangeAt Go.RowKit
open Go.WideMaps Go.WideElems

theorem Eajg.own : ownKnob Eajg.prog.godebug = none := by kernel_rfl
theorem Eajg.laidOut : laidOutB Eajg.prog = true := by kernel_rfl
theorem Eajg.cells9 : Eajg.prog.cellsOf 9 = 1 := by kernel_rfl

theorem lt_of_cell {W : World} {a : Addr} {v : Value} (h : W.cell? a = some v) : a.block < W.heap.size := by
  rcases Nat.lt_or_ge a.block W.heap.size with hlt | hge
  · exact hlt
  · unfold World.cell? at h
    rw [Array.getElem?_eq_none hge] at h
    cases h

/-- The names as the walks take them: a slice value of n strings: none of them, or n > 0 at a plain address. -/
theorem names_open {H : Type} {enc : TypeId × Value → H} {W : World} {base : Nat} {v : Value} {d : DataW H} {p : List MemPlace} (hok : Value.okWide Eajg.prog W .any base 23 v)
    (h : DataW.Trod enc Eajg.prog W 0 (fun _ => true) true 23 v d p) :
    (∃ a cap, v = .slice a 0 cap) ∨ ∃ (b off cap : Nat) (xs : List ByteArray), v = .slice (some ⟨b, off, none⟩) xs.length cap ∧ b < W.heap.size ∧ 0 < xs.length ∧ xs.length ≤ maxLen ∧
      (∀ (j : Nat) x, xs[j]? = some x → x.size ≤ maxLen) ∧ ∀ (j : Nat) x, xs[j]? = some x → W.cell? ⟨b, off + j, none⟩ = some (.string x) := by
  obtain ⟨a0, len, cap, rfl⟩ := okWide_slice Eajg.underlying23 hok
  obtain ⟨fuel, hf⟩ := h
  rcases open_strings Eajg.underlying23 Eajg.underlying9 Eajg.cells9 hf with ⟨hcs, hx⟩ | ⟨a, len', cap', ss, hcs, _, hl, hm, hz, hx, hcell, hws⟩
  · simp [Value.cells] at hcs
    obtain ⟨rfl, rfl, rfl⟩ := hcs
    exact .inl ⟨_, _, rfl⟩
  · simp [Value.cells] at hcs
    obtain ⟨rfl, rfl, rfl⟩ := hcs
    simp at hz
    rcases Nat.eq_zero_or_pos len with h0 | hpos
    · subst h0
      exact .inl ⟨_, _, rfl⟩
    · obtain ⟨b, off, spot⟩ := a
      have hc0 := hcell 0 (by omega)
      have hspot : spot = none := by simpa [Addr.add] using World.cell?_spot hc0
      subst hspot
      have hlen : (ss.take len).length = len := by rw [List.length_take]; omega
      refine .inr ⟨b, off, cap, ss.take len, by rw [hlen], ?_, by omega, by omega, ?_, ?_⟩
      · have := lt_of_cell hc0
        simpa [Addr.add] using this
      · intro j x hx
        exact hws x (List.mem_of_mem_take (List.mem_of_getElem? hx))
      · intro j x hx
        have hj : j < len := by
          have := (List.getElem?_eq_some_iff.1 hx).1
          omega
        rw [List.getElem?_take_of_lt hj] at hx
        have := hcell j (by omega)
        rw [add_plain] at this
        rw [this, List.getD_eq_getElem?_getD, hx]
        rfl

end Go.Proofs.Yoeajw
