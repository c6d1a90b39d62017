/- The plain law: where skipping of white space stops; whether a word stands at a place. No Go here. -/
namespace Go.Proofs.Qxb6628287a.Plain

/-- One of the four JSON white space bytes. -/
def sp (n : Nat) : Bool := n == 32 || n == 9 || n == 10 || n == 13

/-- 'r' is the first place at or after 'off' (within the first 'len') that is no white space, or 'len' if there is none. -/
structure IsStop (z : Nat → Nat) (len off r : Nat) : Prop where
  lo : off ≤ r
  hi : r ≤ len
  run : ∀ i, off ≤ i → i < r → sp (z i) = true
  at_ : r < len → sp (z r) = false

theorem IsStop.uniq {z : Nat → Nat} {len off r s : Nat} (h : IsStop z len off r) (k : IsStop z len off s) : r = s := by
  rcases Nat.lt_trichotomy r s with c | c | c
  · have a := k.run r h.lo c
    have b := h.at_ (by have := k.hi; omega)
    rw [a] at b; cases b
  · exact c
  · have a := h.run s k.lo c
    have b := k.at_ (by have := h.hi; omega)
    rw [a] at b; cases b

/-- Does the word W stand in T from place p on? -/
def fits (T : List UInt8) (p : Nat) (W : List UInt8) : Bool := W.isPrefixOf (T.drop p)

theorem fits_nil (T : List UInt8) (p : Nat) : fits T p [] = true := rfl

theorem fits_iff (T : List UInt8) (p : Nat) (W : List UInt8) : fits T p W = true ↔ W <+: T.drop p := List.isPrefixOf_iff_prefix

theorem fits_self (T : List UInt8) (p n : Nat) : fits T p ((T.drop p).take n) = true := by
  rw [fits_iff]
  exact List.take_prefix n _

theorem fits_len {T : List UInt8} {p : Nat} {W : List UInt8} (h : fits T p W = true) : W.length ≤ T.length - p := by
  rw [fits_iff] at h
  have := h.length_le
  simpa using this

theorem fits_more (T : List UInt8) (p : Nat) (c : UInt8) : fits T p (T.drop p ++ [c]) = false := by
  cases h : fits T p (T.drop p ++ [c]) with
  | false => rfl
  | true =>
    have := fits_len h
    simp at this
    omega

/-- The piece with its last byte changed does not fit. -/
theorem fits_changed (T : List UInt8) (p n : Nat) (A : List UInt8) (c d : UInt8) (h : (T.drop p).take n = A ++ [c]) (hne : c ≠ d) : fits T p (A ++ [d]) = false := by
  cases hf : fits T p (A ++ [d]) with
  | false => rfl
  | true =>
    rw [fits_iff] at hf
    have h1 : (A ++ [c]) <+: T.drop p := by rw [← h]; exact List.take_prefix n _
    have h2 := List.prefix_of_prefix_length_le h1 hf (by simp)
    have h3 := h2.eq_of_length (by simp)
    simp at h3
    exact absurd h3 hne

/-- At each place: the word fits exactly where it is short enough and every byte agrees. -/
theorem fits_all (T : List UInt8) (p : Nat) (W : List UInt8) (hl : W.length ≤ T.length - p) (h : ∀ i, i < W.length → T.getD (p + i) 0 = W.getD i 0) : fits T p W = true := by
  rw [fits_iff, List.prefix_iff_eq_take]
  apply List.ext_getElem?
  intro i
  by_cases hi : i < W.length
  · have := h i hi
    have hp : p + i < T.length := by omega
    simp [hi, hp] at this
    simp [hi, hp, this]
  · rw [List.getElem?_eq_none (by omega), List.getElem?_eq_none (by simp; omega)]

theorem fits_no (T : List UInt8) (p : Nat) (W : List UInt8) (i : Nat) (hi : i < W.length) (h : T.getD (p + i) 0 ≠ W.getD i 0) : fits T p W = false := by
  cases hf : fits T p W with
  | false => rfl
  | true =>
    have hl := fits_len hf
    rw [fits_iff, List.prefix_iff_eq_take] at hf
    refine absurd ?_ h
    have e : W.getD i 0 = ((T.drop p).take W.length).getD i 0 := by rw [← hf]
    rw [e]
    have hp : p + i < T.length := by omega
    simp [List.getD, hi]

theorem fits_long (T : List UInt8) (p : Nat) (W : List UInt8) (h : T.length - p < W.length) : fits T p W = false := by
  cases hf : fits T p W with
  | false => rfl
  | true => have := fits_len hf; omega

end Go.Proofs.Qxb6628287a.Plain
