import Derived.Test.YoeajwRows
import Derived.Test.YoeajwShelf
import Derived.WalkKit
import Derived.WalkSpells
import Derived.WalkLawsBesides
import Derived.Deep.QuietTactic
import Derived.BigQuiet
import Derived.Deep.AppendLies
namespace Go.Proofs.Yoeajw
open Go.RowKit

theorem hide {p : Prop} (h : p) : Hid p := h
theorem unhide {p : Prop} (h : Hid p) : p := h

theorem Eajg.info9 : (Eajg.prog.info? 9).map (fun i => (i.zero, i.size, i.bytes)) = some (some (.string ⟨#[]⟩), 1, 16) := by kernel_rfl

/-- WHAT A STATEMENT's TEXT IS: an interface value over a pointer of one of the four statement types, whose String, called in whatever later world, returns s and leaves memory below as it was. -/
def Says (w : World) (v : Value) (s : ByteArray) : Prop :=
  ∃ (t : TypeId) (f : Nat) (p : Addr), v = .iface t (.pointer (some p)) ∧ ((t = 29 ∧ f = 34) ∨ (t = 38 ∧ f = 41) ∨ (t = 41 ∧ f = 45) ∨ (t = 44 ∧ f = 9)) ∧
    ∀ W, Below w.heap.size w W → Calls Eajg.prog f #[.pointer (some p)] W fun e W' => e = .returned (.string s) ∧ Below W.heap.size W W'

theorem Says.later {w w' : World} {v : Value} {s : ByteArray} (h : Says w v s) (hb : Below w.heap.size w w') : Says w' v s := by
  obtain ⟨t, f, p, hv, ht, hc⟩ := h
  exact ⟨t, f, p, hv, ht, fun W hW => hc W (hb.trans (hW.mono hb.size))⟩

theorem meth30 (a : Addr) (w : World) : (method 181 30 (.pointer (some a)) "String").run Eajg.prog w = .ok (36, .pointer (some a)) w := by kernel_rfl
theorem meth29 (a : Addr) (w : World) : (method 181 29 (.pointer (some a)) "String").run Eajg.prog w = .ok (34, .pointer (some a)) w := by kernel_rfl
theorem meth38 (a : Addr) (w : World) : (method 181 38 (.pointer (some a)) "String").run Eajg.prog w = .ok (41, .pointer (some a)) w := by kernel_rfl
theorem meth41 (a : Addr) (w : World) : (method 181 41 (.pointer (some a)) "String").run Eajg.prog w = .ok (45, .pointer (some a)) w := by kernel_rfl
theorem meth44 (a : Addr) (w : World) : (method 181 44 (.pointer (some a)) "String").run Eajg.prog w = .ok (9, .pointer (some a)) w := by kernel_rfl

/-- Ident.String at a pointer that is not nil. -/
theorem ident_string (c : Nat) (s : ByteArray) (w : World) (h0 : w.cell? ⟨c, 0, none⟩ = some (.string s)) :
    Calls Eajg.prog 36 #[.pointer (some ⟨c, 0, none⟩)] w fun e w' => e = .returned (.string s) ∧ w' = w := by
  go_enter Eajg.func36, Eajg.ntmps36
  go_wp2
  go_ret
  exact ⟨rfl, rfl⟩

theorem expr_string (b c : Nat) (s : ByteArray) (w : World) (h0 : w.cell? ⟨b, 0, none⟩ = some (.iface 30 (.pointer (some ⟨c, 0, none⟩)))) (h1 : w.cell? ⟨c, 0, none⟩ = some (.string s)) :
    Calls Eajg.prog 34 #[.pointer (some ⟨b, 0, none⟩)] w fun e w' => e = .returned (.string s) ∧ Below w.heap.size w w' := by
  have hm := meth30 ⟨c, 0, none⟩
  go_enter Eajg.func34, Eajg.ntmps34
  go_wp2_with (go_at_call 36; refine (ident_string c s _ (by assumption)).mono ?_; rintro e w' ⟨rfl, rfl⟩)
  go_ret
  exact ⟨rfl, Below.refl _ _⟩

theorem empty_string (p : Addr) (w : World) :
    Calls Eajg.prog 41 #[.pointer (some p)] w fun e w' => e = .returned (.string ⟨#[59]⟩) ∧ Below w.heap.size w w' := by
  go_enter Eajg.func41, Eajg.ntmps41
  go_wp2
  go_ret
  exact ⟨rfl, Below.refl _ _⟩

theorem bad_string (p : Addr) (w : World) :
    Calls Eajg.prog 45 #[.pointer (some p)] w fun e w' => e = .returned (.string ⟨#[60, 98, 97, 100, 32, 115, 116, 97, 116, 101, 109, 101, 110, 116, 62]⟩) ∧ Below w.heap.size w w' := by
  go_enter Eajg.func45, Eajg.ntmps45
  go_wp2
  go_ret
  exact ⟨rfl, Below.refl _ _⟩

/-- As 'Says', in every later world that agrees with w outside the blocks X. -/
def SaysBut (X : Nat → Prop) (w : World) (v : Value) (s : ByteArray) : Prop :=
  ∃ (t : TypeId) (f : Nat) (p : Addr), v = .iface t (.pointer (some p)) ∧ ((t = 29 ∧ f = 34) ∨ (t = 38 ∧ f = 41) ∨ (t = 41 ∧ f = 45) ∨ (t = 44 ∧ f = 9)) ∧
    ∀ W, w.heap.size ≤ W.heap.size → (∀ k, k < w.heap.size → ¬ X k → W.heap[k]? = w.heap[k]?) → Calls Eajg.prog f #[.pointer (some p)] W fun e W' => e = .returned (.string s) ∧ Below W.heap.size W W'

theorem SaysBut.says {X : Nat → Prop} {w : World} {v : Value} {s : ByteArray} (h : SaysBut X w v s) : Says w v s := by
  obtain ⟨t, f, p, hv, ht, hc⟩ := h
  exact ⟨t, f, p, hv, ht, fun W hW => hc W hW.size (fun k hk _ => hW.block k hk)⟩

theorem SaysBut.step {X X' : Nat → Prop} {w w' : World} {v : Value} {s : ByteArray} (h : SaysBut X w v s) (hsz : w.heap.size ≤ w'.heap.size)
    (hk : ∀ k, k < w.heap.size → ¬ X k → w'.heap[k]? = w.heap[k]?) (hX : ∀ k, k < w.heap.size → X' k → X k) : SaysBut X' w' v s := by
  obtain ⟨t, f, p, hv, ht, hc⟩ := h
  refine ⟨t, f, p, hv, ht, fun W hW hag => hc W (Nat.le_trans hsz hW) (fun k hlt hx => ?_)⟩
  rw [hag k (Nat.lt_of_lt_of_le hlt hsz) (fun h => hx (hX k hlt h)), hk k hlt hx]

theorem saysBut_expr {X : Nat → Prop} {w : World} {b c : Nat} {s : ByteArray} (hb : b < w.heap.size) (hc : c < w.heap.size) (hXb : ¬ X b) (hXc : ¬ X c)
    (h0 : w.cell? ⟨b, 0, none⟩ = some (.iface 30 (.pointer (some ⟨c, 0, none⟩)))) (h1 : w.cell? ⟨c, 0, none⟩ = some (.string s)) :
    SaysBut X w (.iface 29 (.pointer (some ⟨b, 0, none⟩))) s :=
  ⟨29, 34, ⟨b, 0, none⟩, rfl, .inl ⟨rfl, rfl⟩, fun W _ hag => expr_string b c s W
    ((World.cell?_of_block (w := w) (a := ⟨b, 0, none⟩) (hag b hb hXb)).trans h0) ((World.cell?_of_block (w := w) (a := ⟨c, 0, none⟩) (hag c hc hXc)).trans h1)⟩

theorem saysBut_empty (X : Nat → Prop) (w : World) (p : Addr) : SaysBut X w (.iface 38 (.pointer (some p))) ⟨#[59]⟩ :=
  ⟨38, 41, p, rfl, .inr (.inl ⟨rfl, rfl⟩), fun W _ _ => empty_string p W⟩

theorem saysBut_bad (X : Nat → Prop) (w : World) (p : Addr) : SaysBut X w (.iface 41 (.pointer (some p))) ⟨#[60, 98, 97, 100, 32, 115, 116, 97, 116, 101, 109, 101, 110, 116, 62]⟩ :=
  ⟨41, 45, p, rfl, .inr (.inr (.inl ⟨rfl, rfl⟩)), fun W _ _ => bad_string p W⟩

end Go.Proofs.Yoeajw
