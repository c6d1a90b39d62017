/- UTF-8 over lists of bytes: the quoted text of a list, cut at an ASCII byte. -/
import Derived.Test.Qxb6628251aQuote
namespace Go.Proofs.Qxb6628251a

/-- The model's decoder at the head of a list. -/
def dec (l : List UInt8) : Nat × Nat := Utf8.decode ⟨l.toArray⟩ 0

theorem get_list (s : ByteArray) (i : Nat) : s.get! i = s.data.toList.getD i 0 := by
  simp [ByteArray.get!, List.getD, getElem!_def]
  cases h : s.data[i]? <;> simp <;> rfl

theorem list_size (l : List UInt8) : (⟨l.toArray⟩ : ByteArray).size = l.length := by simp [ByteArray.size]

theorem decode_dec (s : ByteArray) (i : Nat) : Utf8.decode s i = dec (s.data.toList.drop i) := by
  have hg : ∀ k, s.get! (i + k) = (⟨(s.data.toList.drop i).toArray⟩ : ByteArray).get! (0 + k) := by
    intro k
    rw [get_list, get_list]
    simp [List.getD]
  have hlt : ∀ k, decide (i + k < s.size) = decide (0 + k < (⟨(s.data.toList.drop i).toArray⟩ : ByteArray).size) := by
    intro k
    have e : s.data.toList.length = s.size := rfl
    rw [list_size (s.data.toList.drop i), List.length_drop, e]
    congr 1
    apply propext
    omega
  unfold dec Utf8.decode
  simp only [hg, hlt]

/-- A list cut at a byte that goes on no sequence decodes at its head as the part ahead of the cut does. -/
theorem dec_cut (l r : List UInt8) (c : UInt8) (hc : c.toNat / 64 ≠ 2) (hl : l ≠ []) : dec (l ++ c :: r) = dec l := by
  unfold dec Utf8.decode
  simp only [get_list, list_size, Nat.zero_add]
  match l, hl with
  | [b0], _ => simp [hc]
  | [b0, b1], _ => simp [hc]
  | [b0, b1, b2], _ => simp [hc]
  | b0 :: b1 :: b2 :: b3 :: t, _ => simp

/-- The width lies between one and what there is. -/
theorem dec_width (l : List UInt8) (hl : l ≠ []) : 1 ≤ (dec l).2 ∧ (dec l).2 ≤ l.length := by
  unfold dec Utf8.decode
  simp only [get_list, list_size, Nat.zero_add]
  match l, hl with
  | [b0], _ => simp; split <;> simp
  | [b0, b1], _ => simp; repeat (first | simp | split)
  | [b0, b1, b2], _ => simp; repeat (first | simp | split)
  | b0 :: b1 :: b2 :: b3 :: t, _ => simp; repeat (first | simp | split)

/-- 'h' of each rune of the list, one behind the other; at most 'fuel' runes. -/
def eachRune (h : Nat → List UInt8) : Nat → List UInt8 → List UInt8
  | 0, _ => []
  | _ + 1, [] => []
  | f + 1, b :: t => h (dec (b :: t)).1 ++ eachRune h f ((b :: t).drop (dec (b :: t)).2)

theorem eachRune_fuel (h : Nat → List UInt8) : ∀ (f f' : Nat) (l : List UInt8), l.length ≤ f → l.length ≤ f' → eachRune h f l = eachRune h f' l := by
  intro f
  induction f with
  | zero =>
    intro f' l h1 h2
    have : l = [] := List.length_eq_zero_iff.1 (by omega)
    subst this
    cases f' <;> rfl
  | succ f ih =>
    intro f' l h1 h2
    cases l with
    | nil => cases f' <;> rfl
    | cons b t =>
      cases f' with
      | zero => simp at h2
      | succ f' =>
        have hw := dec_width (b :: t) (by simp)
        simp only [eachRune]
        rw [ih f' _ (by simp at h1 ⊢; omega) (by simp at h2 ⊢; omega)]

def each (h : Nat → List UInt8) (l : List UInt8) : List UInt8 := eachRune h l.length l

theorem each_nil (h : Nat → List UInt8) : each h [] = [] := rfl

theorem each_cons (h : Nat → List UInt8) (l : List UInt8) (hl : l ≠ []) : each h l = h (dec l).1 ++ each h (l.drop (dec l).2) := by
  cases l with
  | nil => exact absurd rfl hl
  | cons b t =>
    have hw := dec_width (b :: t) (by simp)
    unfold each
    show eachRune h (t.length + 1) (b :: t) = _
    simp only [eachRune]
    rw [eachRune_fuel h t.length _ _ (by simp; omega) (Nat.le_refl _)]

theorem dec_ascii (c : UInt8) (r : List UInt8) (hc : c.toNat < 128) : dec (c :: r) = (c.toNat, 1) := by
  unfold dec Utf8.decode
  simp only [get_list, Nat.zero_add]
  simp [hc]

/-- THE CUT at an ASCII byte. -/
theorem each_cut (h : Nat → List UInt8) (c : UInt8) (hc : c.toNat < 128) : ∀ (n : Nat) (x y : List UInt8), x.length ≤ n → each h (x ++ c :: y) = each h x ++ h c.toNat ++ each h y := by
  intro n
  induction n with
  | zero =>
    intro x y hx
    have : x = [] := List.length_eq_zero_iff.1 (by omega)
    subst this
    rw [List.nil_append, each_cons h (c :: y) (by simp), dec_ascii c y hc, each_nil]
    rfl
  | succ n ih =>
    intro x y hx
    by_cases h0 : x = []
    · subst h0
      rw [List.nil_append, each_cons h (c :: y) (by simp), dec_ascii c y hc, each_nil]
      rfl
    · have hw := dec_width x h0
      rw [each_cons h (x ++ c :: y) (by simp), dec_cut x y c (by omega) h0, each_cons h x h0, List.drop_append_of_le_length hw.2, ih _ y (by simp; omega)]
      simp [List.append_assoc]

theorem each_last (h : Nat → List UInt8) (c : UInt8) (hc : c.toNat < 128) (x : List UInt8) : each h (x ++ [c]) = each h x ++ h c.toNat := by
  rw [each_cut h c hc x.length x [] (Nat.le_refl _), each_nil, List.append_nil]

/-- The quoted text, over the list. -/
theorem quoteFrom_each (s : ByteArray) (fuel pos : Nat) (hf : s.size ≤ pos + fuel) : quoteFrom s fuel pos = each qr (s.data.toList.drop pos) := by
  induction fuel generalizing pos with
  | zero =>
    have e : s.data.toList.drop pos = [] := by
      rw [List.drop_eq_nil_iff]
      exact hf
    rw [e]
    rfl
  | succ f ih =>
    simp only [quoteFrom]
    by_cases hp : pos < s.size
    · have hne : s.data.toList.drop pos ≠ [] := by
        rw [Ne, List.drop_eq_nil_iff]
        show ¬ s.size ≤ pos
        omega
      have hw := dec_width _ hne
      rw [if_pos hp, each_cons qr _ hne, decode_dec, ih _ (by omega), List.drop_drop]
    · have e : s.data.toList.drop pos = [] := by
        rw [List.drop_eq_nil_iff]
        show s.size ≤ pos
        omega
      rw [if_neg hp, e]
      rfl

theorem quote_each (s : ByteArray) : quote s = each qr s.data.toList := quoteFrom_each s s.size 0 (by omega)

theorem qr_space : qr 32 = [32] := by decide

/-- The quoted text of two texts with a blank between them. -/
theorem quote_join (x y : List UInt8) : quote ⟨(x ++ 32 :: y).toArray⟩ = quote ⟨x.toArray⟩ ++ 32 :: quote ⟨y.toArray⟩ := by
  rw [quote_each, quote_each, quote_each]
  show each qr (x ++ 32 :: y) = each qr x ++ 32 :: each qr y
  rw [each_cut qr 32 (by decide) x.length x y (Nat.le_refl _)]
  show each qr x ++ qr 32 ++ each qr y = _
  rw [qr_space]
  simp

end Go.Proofs.Qxb6628251a
