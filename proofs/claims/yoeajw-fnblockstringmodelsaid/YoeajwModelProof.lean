import Derived.Test.YoeajwModel
import Derived.Test.YoeajwOpen
namespace Go.Proofs.Yoeajw
open Go.ChangeShapes Go.WideShapes Go.ChangeAt Go.RowKit
open Go.WideMaps Go.WideElems

theorem Eajg.cells3 : Eajg.prog.cellsOf 3 = 1 := by kernel_rfl

theorem ints_open {H : Type} {enc : TypeId × Value → H} {W : World} {base : Nat} {v : Value} {d : DataW H} {p : List MemPlace} (hok : Value.okWide Eajg.prog W .any base 22 v)
    (h : DataW.Trod enc Eajg.prog W 0 (fun _ => true) true 22 v d p) :
    ∃ (a : Option Addr) (cap : Nat) (zs : List Int), v = .slice a zs.length cap ∧ zs.length ≤ maxLen ∧ IntsAt W a zs := by
  obtain ⟨a0, len, cap, rfl⟩ := okWide_slice Eajg.underlying22 hok
  obtain ⟨fuel, hf⟩ := h
  rcases open_ints Eajg.underlying22 Eajg.underlying3 Eajg.cells3 hf with ⟨hcs, hx⟩ | ⟨a, len', cap', zs, hcs, _, hl, hm, hz, hx, hcell, hws⟩
  · simp [Value.cells] at hcs
    obtain ⟨rfl, rfl, rfl⟩ := hcs
    exact ⟨_, _, [], rfl, Nat.zero_le _, fun j z h => by simp at h⟩
  · simp [Value.cells] at hcs
    obtain ⟨rfl, rfl, rfl⟩ := hcs
    simp at hz
    have hlen : (zs.take len).length = len := by rw [List.length_take]; omega
    refine ⟨some a, cap, zs.take len, by rw [hlen], by omega, ?_⟩
    intro j z hj
    have hjl : j < len := by
      have := (List.getElem?_eq_some_iff.1 hj).1
      omega
    obtain ⟨b, off, spot⟩ := a
    have hspot : spot = none := by simpa [Addr.add] using World.cell?_spot (hcell 0 (by omega))
    subst hspot
    have hc := hcell j (by omega)
    rw [add_plain] at hc
    refine ⟨b, off, rfl, lt_of_cell hc, ?_⟩
    rw [List.getElem?_take_of_lt hjl] at hj
    rw [hc, List.getD_eq_getElem?_getD, hj]
    rfl

theorem strs_open {H : Type} {enc : TypeId × Value → H} {W : World} {base : Nat} {v : Value} {d : DataW H} {p : List MemPlace} (hok : Value.okWide Eajg.prog W .any base 23 v)
    (h : DataW.Trod enc Eajg.prog W 0 (fun _ => true) true 23 v d p) :
    ∃ (a : Option Addr) (cap : Nat) (xs : List ByteArray), v = .slice a xs.length cap ∧ xs.length ≤ maxLen ∧ (∀ (j : Nat) x, xs[j]? = some x → x.size ≤ maxLen) ∧ StrsAt W a xs := by
  rcases names_open hok h with ⟨a, cap, rfl⟩ | ⟨b, off, cap, xs, rfl, h1, h2, h3, h4, h5⟩
  · exact ⟨a, cap, [], rfl, Nat.zero_le _, fun j x h => by simp at h, fun j x h => by simp at h⟩
  · exact ⟨_, cap, xs, rfl, h3, h4, fun j x hx => ⟨b, off, rfl, h1, h5 j x hx⟩⟩

set_option maxRecDepth 100000 in
theorem model_lifted (os : Os) (started : os.Started) (H : Type) (enc : TypeId × Value → H) :
    ReturnsInHanded {} Eajg.checked os 3 .any (Rows.fnBlockStringModelSpec.pre6 enc Eajg.prog Eajg.f3 Rows.fnBlockStringModelRow.domain false) (Rows.fnBlockStringModelSpec.post enc Eajg.prog Eajg.f3 false true false false) := by
  refine returnsInHanded_of_change (C := Eajg.checked) Eajg.own started (by kernel_rfl) Eajg.func3
    (ChangeSpec.witness6 (enc := enc) (C := Eajg.checked) false ⟨#[], #[.slice none 0 0, .slice none 0 0], []⟩ 8 (by kernel_rfl) (by kernel_rfl) (by kernel_rfl) (by kernel_rfl)) ?_
  intro W base args ds gs before hval0 hW hcnd _
  have hval : ∀ (j : Nat) t v, Eajg.f3.params[j]? = some t → args[j]? = some v → Value.okWide Eajg.prog W .any base t v := hval0
  have hW' := hW
  obtain ⟨p, q, hA0, hV, rfl, hfz, hnd⟩ := hW
  have hA : DataW.TrodAll enc Eajg.prog W 0 (fun _ => true) true Eajg.f3.params.toList args.toList ds p := hA0
  rw [Eajg.params3] at hA hval
  obtain ⟨v0, v1, d0, d1, p0, p1, rfl, rfl, rfl, h0, h1⟩ := trodAll_two hA
  obtain ⟨rfl, rfl⟩ := trodVars_none hV
  have hlt0 : ∀ x ∈ p0, x.block < W.heap.size := fun x hx => by simpa using hW'.lt x (by simp [hx])
  have hlt1 : ∀ x ∈ p1, x.block < W.heap.size := fun x hx => by simpa using hW'.lt x (by simp [hx])
  have walk : Calls Eajg.prog 3 #[v0, v1] W fun e w' => e = .returned (.bool true) ∧ Below W.heap.size W w' := by
    obtain ⟨ak, capk, zs, rfl, hn, hz⟩ := ints_open (hval 0 22 v0 rfl rfl) h0
    obtain ⟨an, capn, xs, rfl, hm, hsz, hx⟩ := strs_open (hval 1 23 v1 rfl rfl) h1
    exact model_any ak an capk capn zs xs W hn hm hsz hz hx
  refine walk.mono fun e W' ⟨he, hbel⟩ => ?_
  subst he
  refine ⟨_, rfl, _, _, _, [], p0 ++ p1, [], hW', ?_, ?_, rfl, hbel.frame _, fun h => by cases h⟩
  · exact trodAll_mk1 (shut_bool Eajg.underlying4 true)
  · exact trodAll_mk2 (Below.trod Eajg.laidOut (by kernel_rfl) (of_decide_eq_true (by kernel_rfl)) h0 hbel hlt0) (Below.trod Eajg.laidOut (by kernel_rfl) (of_decide_eq_true (by kernel_rfl)) h1 hbel hlt1)

theorem model_holds : Rows.FnBlockStringModelSaid :=
  OpenClaim.holds_of_wide 3 Eajg.f3 rfl rfl rfl rfl rfl rfl rfl ⟨rfl, rfl, rfl, rfl, rfl⟩ rfl rfl rfl rfl rfl (by kernel_rfl) Eajg.func3 (by kernel_rfl)
    (of_decide_eq_true (by kernel_rfl)) (by unfold Func.isWrapper; rw [if_neg (of_decide_eq_false (by kernel_rfl))]; exact ⟨rfl, rfl⟩)
    (fun os started H enc _ => model_lifted os started H enc)
#print axioms model_holds
end Go.Proofs.Yoeajw
