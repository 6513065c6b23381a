import Derived.Lib.Join
namespace Go.Proofs.Yoeajw

/-- Where the c-th part begins in the joined text. -/
def posOf (ls : List (List UInt8)) (c : Nat) : Nat := ((ls.take c).map (fun l => l.length + 2)).sum

theorem posOf_zero (ls : List (List UInt8)) : posOf ls 0 = 0 := rfl
theorem posOf_succ (ls : List (List UInt8)) (c : Nat) (x : List UInt8) (h : ls[c]? = some x) : posOf ls (c + 1) = posOf ls c + (x.length + 2) := by
  simp [posOf, List.take_add_one, h]

theorem join_cons2 (x y : List UInt8) (r : List (List UInt8)) : Lib.join (x :: y :: r) [59, 32] = x ++ ([59, 32] ++ Lib.join (y :: r) [59, 32]) := by
  rw [Lib.join_cons, Lib.join_cons]
  simp [Lib.joinTail]

theorem join_split : ∀ (ls : List (List UInt8)) (c : Nat) (x : List UInt8), ls[c]? = some x →
    ∃ pre post, Lib.join ls [59, 32] = pre ++ (x ++ post) ∧ pre.length = posOf ls c ∧ (c + 1 = ls.length → post = []) ∧ (c + 1 < ls.length → ∃ post', post = 59 :: 32 :: post')
  | [], c, x, h => by simp at h
  | [y], c, x, h => by
    have h0 : c = 0 := by
      rcases c with _ | c
      · rfl
      · simp at h
    subst h0
    simp at h
    subst h
    exact ⟨[], [], by simp [Lib.join_one], rfl, fun _ => rfl, fun h => by simp at h⟩
  | y :: z :: r, 0, x, h => by
    simp at h
    subst h
    exact ⟨[], [59, 32] ++ Lib.join (z :: r) [59, 32], by rw [join_cons2]; rfl, rfl, fun h => by simp at h, fun _ => ⟨_, rfl⟩⟩
  | y :: z :: r, c + 1, x, h => by
    obtain ⟨pre, post, h1, h2, h3, h4⟩ := join_split (z :: r) c x (by simpa using h)
    refine ⟨y ++ ([59, 32] ++ pre), post, by rw [join_cons2, h1]; simp, ?_, fun e => h3 (by simpa using e), fun e => h4 (by simpa using e)⟩
    have hp : posOf (y :: z :: r) (c + 1) = y.length + 2 + posOf (z :: r) c := by simp [posOf]
    rw [hp, ← h2]
    simp
    omega

theorem join_length : ∀ (ls : List (List UInt8)), (Lib.join ls [59, 32]).length ≤ (ls.map List.length).sum + 2 * ls.length
  | [] => by simp [Lib.join_nil]
  | [y] => by simp [Lib.join_one]
  | y :: z :: r => by
    have := join_length (z :: r)
    rw [join_cons2]
    simp at this ⊢
    omega

/-- A byte of the c-th part. -/
theorem join_in (ls : List (List UInt8)) (c : Nat) (x : List UInt8) (h : ls[c]? = some x) (i : Nat) (hi : i < x.length) : (Lib.join ls [59, 32])[posOf ls c + i]? = some x[i] := by
  obtain ⟨pre, post, h1, h2, _, _⟩ := join_split ls c x h
  rw [h1, ← h2, List.getElem?_append_right (by omega), List.getElem?_append_left (by omega)]
  simp [hi]

theorem join_take (ls : List (List UInt8)) (c : Nat) (x : List UInt8) (h : ls[c]? = some x) : ((Lib.join ls [59, 32]).take (posOf ls c + x.length)).drop (posOf ls c) = x := by
  obtain ⟨pre, post, h1, h2, _, _⟩ := join_split ls c x h
  rw [h1, ← h2]
  simp [List.take_append]

theorem join_last (ls : List (List UInt8)) (c : Nat) (x : List UInt8) (h : ls[c]? = some x) (hc : c + 1 = ls.length) : (Lib.join ls [59, 32]).length = posOf ls c + x.length := by
  obtain ⟨pre, post, h1, h2, h3, _⟩ := join_split ls c x h
  rw [h1, ← h2, h3 hc]
  simp

theorem join_sep (ls : List (List UInt8)) (c : Nat) (x : List UInt8) (h : ls[c]? = some x) (hc : c + 1 < ls.length) :
    (Lib.join ls [59, 32])[posOf ls c + x.length]? = some 59 ∧ (Lib.join ls [59, 32])[posOf ls c + x.length + 1]? = some 32 ∧ posOf ls c + x.length + 2 ≤ (Lib.join ls [59, 32]).length := by
  obtain ⟨pre, post, h1, h2, _, h4⟩ := join_split ls c x h
  obtain ⟨post', rfl⟩ := h4 hc
  rw [h1, ← h2]
  refine ⟨?_, ?_, by simp; omega⟩
  · rw [List.getElem?_append_right (by omega), List.getElem?_append_right (by omega)]
    simp
  · rw [List.getElem?_append_right (by omega), List.getElem?_append_right (by omega)]
    have : pre.length + x.length + 1 - pre.length - x.length = 1 := by omega
    rw [this]
    rfl

end Go.Proofs.Yoeajw
