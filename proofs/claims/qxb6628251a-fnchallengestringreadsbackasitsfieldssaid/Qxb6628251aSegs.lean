/- The header as a list of pairs: what the reader finds at each place. -/
import Derived.Test.Qxb6628251aParse
import Derived.Test.Qxb6628251aCanon
import Derived.Test.Qxb6628251aLaw
namespace Go.Proofs.Qxb6628251a
open Go.RowKit

/-- A value, escaped. -/
def escl : List UInt8 → List UInt8
  | [] => []
  | c :: r => (if isq c then [92, c] else [c]) ++ escl r

theorem escl_append (a b : List UInt8) : escl (a ++ b) = escl a ++ escl b := by
  induction a with
  | nil => rfl
  | cons c r ih => simp [escl, ih]

theorem eo_take (v : List UInt8) (k : Nat) (hk : k ≤ v.length) : (escl (v.take k)).length = eo v k := by
  induction k with
  | zero => rfl
  | succ k ih =>
    have hlt : k < v.length := by omega
    rw [List.take_succ_eq_append_getElem hlt, escl_append, List.length_append, ih (by omega)]
    simp only [eo, escl, List.append_nil]
    have : v.getD k 0 = v[k] := by simp [hlt]
    rw [this]
    split <;> simp

theorem eo_len (v : List UInt8) : (escl v).length = eo v v.length := by
  have := eo_take v v.length (Nat.le_refl _)
  rwa [List.take_length] at this

/-- The escaped text from byte k of the value on. -/
theorem escl_drop (v : List UInt8) (k : Nat) (hk : k ≤ v.length) (t : List UInt8) : (escl v ++ t).drop (eo v k) = escl (v.drop k) ++ t := by
  have h1 : escl v = escl (v.take k) ++ escl (v.drop k) := by rw [← escl_append, List.take_append_drop]
  rw [h1, List.append_assoc, ← eo_take v k hk, List.drop_left]

/-- A pair as it is written. -/
def text1 (n v : List UInt8) : List UInt8 := n ++ [61, 34] ++ escl v ++ [34]

theorem text1_len (n v : List UInt8) : (text1 n v).length = n.length + 2 + eo v v.length + 1 := by
  unfold text1
  simp [eo_len]
  omega

def chOf (H : List UInt8) (i : Nat) : Nat := (H.getD i 0).toNat

theorem getD_drop (H : List UInt8) (p j : Nat) : H.getD (p + j) 0 = (H.drop p).getD j 0 := by simp [List.getD]

theorem seg_of_drop {H : List UInt8} {p : Nat} {n v : List UInt8} {rest : List UInt8} (h : H.drop p = text1 n v ++ rest) (hn : 1 ≤ n.length) (hl : ∀ j, j < n.length → 97 ≤ (n.getD j 0).toNat ∧ (n.getD j 0).toNat ≤ 122) :
    Seg H.length (chOf H) p n.length v (p + (text1 n v).length) ∧ H.drop (p + (text1 n v).length) = rest := by
  have hlen : H.length = p + (text1 n v).length + rest.length := by
    have := congrArg List.length h
    simp at this
    by_cases hp : p ≤ H.length
    · omega
    · have e : H.drop p = [] := List.drop_eq_nil_iff.2 (by omega)
      rw [e] at h
      have := congrArg List.length h
      simp [text1] at this
  have tl := text1_len n v
  have hT : H.drop p = n ++ ([61, 34] ++ (escl v ++ (34 :: rest))) := by rw [h]; unfold text1; simp
  have c : ∀ j, chOf H (p + j) = ((n ++ ([61, 34] ++ (escl v ++ (34 :: rest)))).getD j 0).toNat := by
    intro j
    unfold chOf
    rw [getD_drop, hT]
  have cv : ∀ j, chOf H (p + n.length + 2 + j) = ((escl v ++ (34 :: rest)).getD j 0).toNat := by
    intro j
    rw [show p + n.length + 2 + j = p + (n.length + (2 + j)) by omega, c]
    rw [getD_drop, List.drop_left, getD_drop]
    rfl
  have ce : ∀ k, k ≤ v.length → ∀ d, chOf H (p + n.length + 2 + eo v k + d) = ((escl (v.drop k) ++ (34 :: rest)).getD d 0).toNat := by
    intro k hk d
    rw [show p + n.length + 2 + eo v k + d = p + n.length + 2 + (eo v k + d) by omega, cv, getD_drop, escl_drop v k hk]
  have emono : ∀ k, k ≤ v.length → eo v k ≤ eo v v.length := by
    intro k hk
    rw [← eo_take v k hk, ← eo_len]
    have h1 : escl v = escl (v.take k) ++ escl (v.drop k) := by rw [← escl_append, List.take_append_drop]
    rw [h1, List.length_append]
    omega
  have estep : ∀ k, k < v.length → eo v k + (if isq (v.getD k 0) then 2 else 1) ≤ eo v v.length := fun k hk => emono (k + 1) hk
  have dk : ∀ k, k < v.length → v.drop k = v.getD k 0 :: v.drop (k + 1) := by
    intro k hk
    rw [List.drop_eq_getElem_cons hk]
    simp [hk]
  refine ⟨⟨hn, ?_, ?_, ?_, by rw [hlen]; omega, ?_, ?_, ?_, by rw [tl]; omega, by rw [hlen]; omega⟩, ?_⟩
  · intro j hj
    rw [c]
    have := hl j hj
    have e : (n ++ ([61, 34] ++ (escl v ++ (34 :: rest)))).getD j 0 = n.getD j 0 := by simp [List.getD, List.getElem?_append_left hj]
    rw [e]
    exact this
  · have h0 := c (n.length + 0)
    rw [getD_drop, List.drop_left] at h0
    exact h0
  · rw [show p + n.length + 1 = p + (n.length + 1) by omega, c, getD_drop, List.drop_left]
    rfl
  · intro k hk hq
    have h0 := ce k (by omega) 0
    have h1 := ce k (by omega) 1
    rw [dk k hk] at h0 h1
    simp only [escl, hq, if_true] at h0 h1
    have := estep k hk
    rw [hq] at this
    simp at this
    refine ⟨by simpa using h0, by simpa using h1, by rw [hlen]; omega⟩
  · intro k hk hq
    have h0 := ce k (by omega) 0
    rw [dk k hk] at h0
    simp only [escl, hq] at h0
    have := estep k hk
    rw [hq] at this
    simp at this
    refine ⟨by simpa using h0, by rw [hlen]; omega⟩
  · have h0 := ce v.length (Nat.le_refl _) 0
    rw [List.drop_length] at h0
    simpa [escl] using h0
  · rw [← List.drop_drop, h, List.drop_left]

/-- The pairs from number k on, m of them, commas between. -/
def tl (nm vl : Nat → List UInt8) : Nat → Nat → List UInt8
  | _, 0 => []
  | k, m + 1 => text1 (nm k) (vl k) ++ if m = 0 then [] else 44 :: tl nm vl (k + 1) m

def lead : List UInt8 := [66, 101, 97, 114, 101, 114, 32]

/-- Where pair k begins. -/
def posOf (nm vl : Nat → List UInt8) : Nat → Nat
  | 0 => 7
  | k + 1 => posOf nm vl k + (text1 (nm k) (vl k)).length + 1

theorem drop_pos (nm vl : Nat → List UInt8) (N k : Nat) (hk : k < N) : (lead ++ tl nm vl 0 N).drop (posOf nm vl k) = tl nm vl k (N - k) := by
  induction k with
  | zero => exact List.drop_left' rfl
  | succ k ih =>
    have h := ih (by omega)
    obtain ⟨m, hm⟩ : ∃ m, N - k = m + 1 := ⟨N - k - 1, by omega⟩
    rw [hm] at h
    simp only [tl] at h
    rw [if_neg (by omega)] at h
    show (lead ++ tl nm vl 0 N).drop (posOf nm vl k + (text1 (nm k) (vl k)).length + 1) = _
    rw [← List.drop_drop, ← List.drop_drop, h, List.drop_left]
    show tl nm vl (k + 1) m = _
    congr 1
    omega

theorem parse_list (nm vl : Nat → List UInt8) (N : Nat) (w : World) (hN : 0 < N) (hN4 : N ≤ 4) (hok : ∀ k, k < N → 1 ≤ (nm k).length ∧ ∀ j, j < (nm k).length → 97 ≤ ((nm k).getD j 0).toNat ∧ ((nm k).getD j 0).toNat ≤ 122) (hsz : (lead ++ tl nm vl 0 N).length ≤ 268435456) :
    Calls Try.prog 10 #[.string ⟨(lead ++ tl nm vl 0 N).toArray⟩] w fun e w' => Parsed w nm vl N e w' := by
  have hd : ∀ k, k < N → (lead ++ tl nm vl 0 N).drop (posOf nm vl k) = text1 (nm k) (vl k) ++ (if k + 1 = N then [] else 44 :: tl nm vl (k + 1) (N - (k + 1))) := by
    intro k hk
    rw [drop_pos nm vl N k hk]
    obtain ⟨m, hm⟩ : ∃ m, N - k = m + 1 := ⟨N - k - 1, by omega⟩
    rw [hm]
    simp only [tl]
    congr 1
    by_cases e : k + 1 = N
    · rw [if_pos (by omega), if_pos e]
    · rw [if_neg (by omega), if_neg e, show N - (k + 1) = m by omega]
  have hs := fun k (hk : k < N) => seg_of_drop (hd k hk) (hok k hk).1 (hok k hk).2
  generalize hH : lead ++ tl nm vl 0 N = H at *
  have sz : (⟨H.toArray⟩ : ByteArray).size = H.length := ba_size H
  have h7 : 7 ≤ H.length := by rw [← hH]; simp [lead]
  have hlead : H.take 7 = lead := by rw [← hH]; exact List.take_left' rfl
  refine parse_core ⟨H.toArray⟩ (chOf H) N nm vl (posOf nm vl) (fun k => posOf nm vl k + (text1 (nm k) (vl k)).length) w (by rw [sz]; exact hsz) ?_ (by rw [sz]; exact h7) ?_ hN hN4 rfl ?_ ?_ ?_ ?_
  · intro i hi
    have hi' : i < H.length := by rw [← sz]; exact hi
    show (H.toArray[i]'(by simpa using hi')).toNat = _
    simp [chOf, hi']
  · rw [ext_list, hlead, ByteArray.toList_mk]
    decide
  · intro k hk
    rw [sz]
    exact (hs k hk).1
  · intro k hk
    rw [ext_list]
    congr 2
    rw [List.drop_take, hd k hk]
    rw [show posOf nm vl k + (nm k).length - posOf nm vl k = (nm k).length by omega]
    unfold text1
    rw [List.append_assoc, List.append_assoc, List.append_assoc]
    exact List.take_left' rfl
  · intro k hk
    have h1 := (hs k (by omega)).2
    have h2 := (hs k (by omega)).1.fin_le
    rw [if_pos hk, List.drop_eq_nil_iff] at h1
    rw [sz]
    show posOf nm vl k + (text1 (nm k) (vl k)).length = _
    omega
  · intro k hk
    have h1 := (hs k (by omega)).2
    rw [if_neg (by omega)] at h1
    have hlt : posOf nm vl k + (text1 (nm k) (vl k)).length < H.length := by
      have := congrArg List.length h1
      simp at this
      omega
    refine ⟨?_, by rw [sz]; exact hlt, rfl⟩
    show (H.getD (posOf nm vl k + (text1 (nm k) (vl k)).length) 0).toNat = 44
    have := getD_drop H (posOf nm vl k + (text1 (nm k) (vl k)).length) 0
    rw [Nat.add_zero, h1] at this
    rw [this]
    rfl

/-! ### The quoted text is the escaped canonical text -/

theorem escl_high (l : List UInt8) (h : ∀ c ∈ l, 128 ≤ c.toNat) : escl l = l := by
  induction l with
  | nil => rfl
  | cons c r ih =>
    have hc := h c (by simp)
    have : isq c = false := by
      unfold isq
      simp
      refine ⟨fun e => ?_, fun e => ?_⟩ <;> (subst e; revert hc; decide)
    simp only [escl, this]
    rw [ih (fun x hx => h x (by simp [hx]))]
    rfl

theorem encode_high (r : Int) (h : ¬ (0 ≤ r ∧ r ≤ 127)) : ∀ c ∈ Lib.encodeRune r, 128 ≤ c.toNat := by
  have key : ∀ x ∈ Lib.encodeRuneZ r, 128 ≤ x ∧ x ≤ 255 := by
    unfold Lib.encodeRuneZ
    rw [if_neg h]
    intro x hx
    split at hx
    · simp at hx; omega
    split at hx
    · simp at hx; omega
    split at hx
    · simp at hx; omega
    · simp at hx; omega
  intro c hc
  unfold Lib.encodeRune at hc
  obtain ⟨x, hx, rfl⟩ := List.mem_map.1 hc
  have := key x hx
  rw [UInt8.toNat_ofNat_of_lt' (show _ < 256 by omega)]
  omega

theorem escl_encode (r : Nat) : escl (Lib.encodeRune r) = qr r := by
  unfold qr
  by_cases h : (r : Int) ≤ 127
  · have e : Lib.encodeRune (r : Int) = [r.toUInt8] := by
      unfold Lib.encodeRune
      rw [Lib.encodeRuneZ_one (by omega) h]
      simp
    have tn : (r.toUInt8).toNat = r := by rw [UInt8.toNat_ofNat_of_lt' (show _ < 256 by omega)]
    by_cases hq : r = 34 ∨ r = 92
    · rw [if_pos hq, e]
      have : isq r.toUInt8 = true := by
        rcases hq with h | h <;> subst h <;> decide
      simp [escl, this]
    · rw [if_neg hq, e]
      have : isq r.toUInt8 = false := by
        unfold isq
        simp
        refine ⟨fun e => ?_, fun e => ?_⟩
        · have := congrArg UInt8.toNat e; rw [tn] at this; exact hq (.inl this)
        · have := congrArg UInt8.toNat e; rw [tn] at this; exact hq (.inr this)
      simp [escl, this]
  · rw [if_neg (by omega), escl_high _ (encode_high r (by omega))]

theorem escl_each (f : Nat) (l : List UInt8) : eachRune qr f l = escl (eachRune (fun r => Lib.encodeRune r) f l) := by
  induction f generalizing l with
  | zero => rfl
  | succ f ih =>
    cases l with
    | nil => rfl
    | cons b t =>
      simp only [eachRune]
      rw [escl_append, escl_encode, ih]

theorem quote_canon (s : ByteArray) : quote s = escl (canon s.data.toList) := by
  rw [quote_each]
  exact escl_each _ _

theorem param_text (n : List UInt8) (s : ByteArray) : param n s = text1 n (canon s.data.toList) := by
  unfold param text1
  rw [quote_canon]

end Go.Proofs.Qxb6628251a
