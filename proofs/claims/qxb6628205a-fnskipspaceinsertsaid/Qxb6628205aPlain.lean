/- The plain law behind the two statements of this seat: where skipping of white space stops. No Go here. -/
namespace Go.Proofs.Qxb6628205a.Plain

/-- One of the four JSON white space bytes. -/
def sp (n : Int) : Bool := n == 32 || n == 9 || n == 10 || n == 13

/-- 'r' is the first place at or after 'off' (within the first 'len') whose number is no white space, or 'len' if there is none. -/
structure IsStop (z : Nat → Int) (len off r : Nat) : Prop where
  lo : off ≤ r
  hi : r ≤ len
  run : ∀ i, off ≤ i → i < r → sp (z i) = true
  at_ : r < len → sp (z r) = false

theorem IsStop.uniq {z : Nat → Int} {len off r s : Nat} (h : IsStop z len off r) (k : IsStop z len off s) : r = s := by
  rcases Nat.lt_trichotomy r s with c | c | c
  · have a := k.run r h.lo c
    have b := h.at_ (by have := k.hi; omega)
    rw [a] at b; cases b
  · exact c
  · have a := h.run s k.lo c
    have b := k.at_ (by have := h.hi; omega)
    rw [a] at b; cases b

/-- Cutting the text at k. -/
theorem cut_lt {z : Nat → Int} {len off k r r1 : Nat} (hk : k ≤ len) (h : IsStop z len off r) (h1 : IsStop z k off r1) (c : r1 < k) : r = r1 :=
  h.uniq ⟨h1.lo, by omega, h1.run, fun _ => h1.at_ c⟩

theorem cut_eq {z : Nat → Int} {len off k r r2 : Nat} (h : IsStop z len off r) (h1 : IsStop z k off k) (h2 : IsStop z len k r2) : r = r2 :=
  h.uniq ⟨by have := h1.lo; have := h2.lo; omega, h2.hi, fun i a b => by
    by_cases c : i < k
    · exact h1.run i a c
    · exact h2.run i (by omega) b, h2.at_⟩

/-- The text with c put in at p. -/
def ins (z : Nat → Int) (p : Nat) (c : Int) (i : Nat) : Int := if i < p then z i else if i = p then c else z (i - 1)

theorem ins_lt {z : Nat → Int} {p : Nat} {c : Int} {i : Nat} (h : i < p) : ins z p c i = z i := by simp [ins, h]
theorem ins_at {z : Nat → Int} {p : Nat} {c : Int} : ins z p c p = c := by simp [ins]
theorem ins_gt {z : Nat → Int} {p : Nat} {c : Int} {i : Nat} (h : p < i) : ins z p c i = z (i - 1) := by
  simp [ins, show ¬ i < p by omega, show ¬ i = p by omega]

/-- Put in ahead of the start. -/
theorem ins_before {z : Nat → Int} {len off p r r2 : Nat} {c : Int} (hp : p < off) (h : IsStop z len off r) (h2 : IsStop (ins z p c) (len + 1) (off + 1) r2) : r2 = r + 1 :=
  h2.uniq ⟨by have := h.lo; omega, by have := h.hi; omega, fun i a b => by
    rw [ins_gt (by omega)]; exact h.run (i - 1) (by omega) (by omega), fun a => by
    have := h.lo
    rw [ins_gt (by omega)]; exact h.at_ (by omega)⟩

/-- Put in behind the stop. -/
theorem ins_after {z : Nat → Int} {len off p r r2 : Nat} {c : Int} (hpl : p ≤ len) (hp : r < p) (h : IsStop z len off r) (h2 : IsStop (ins z p c) (len + 1) off r2) : r2 = r :=
  h2.uniq ⟨h.lo, by have := h.hi; omega, fun i a b => by
    rw [ins_lt (by omega)]; exact h.run i a b, fun a => by
    rw [ins_lt hp]; exact h.at_ (by omega)⟩

/-- White space put in between. -/
theorem ins_space {z : Nat → Int} {len off p r r2 : Nat} {c : Int} (hop : off ≤ p) (hp : p ≤ r) (hc : sp c = true) (h : IsStop z len off r) (h2 : IsStop (ins z p c) (len + 1) off r2) : r2 = r + 1 :=
  h2.uniq ⟨by have := h.lo; omega, by have := h.hi; omega, fun i a b => by
    rcases Nat.lt_trichotomy i p with d | d | d
    · rw [ins_lt d]; exact h.run i a (by omega)
    · subst d; rw [ins_at]; exact hc
    · rw [ins_gt d]; exact h.run (i - 1) (by omega) (by omega), fun a => by
    rw [ins_gt (by omega)]; exact h.at_ (by omega)⟩

/-- Another byte put in between. -/
theorem ins_other {z : Nat → Int} {len off p r r2 : Nat} {c : Int} (hop : off ≤ p) (hp : p ≤ r) (hc : sp c = false) (h : IsStop z len off r) (h2 : IsStop (ins z p c) (len + 1) off r2) : r2 = p :=
  h2.uniq ⟨hop, by have := h.hi; omega, fun i a b => by
    rw [ins_lt b]; exact h.run i a (by omega), fun a => by
    rw [ins_at]; exact hc⟩

end Go.Proofs.Qxb6628205a.Plain
