/- The plain law: the text of an amount is canonical. -/
import Derived.Test.Qxb6630554aFmtParse
namespace Go.Proofs.Qxb6630554aFmt
open Go.RowKit Go.Extern.Stop Go.Stop Go.Extern

theorem nDigits_le : ∀ (k u : Nat), 1 ≤ k → u < 10 ^ k → Lib.nDigits u ≤ k
  | 0, _, h, _ => absurd h (by omega)
  | 1, u, _, h => by rw [Lib.nDigits_small (by simpa using h)]; omega
  | k + 2, u, _, h => by
    by_cases h10 : u < 10
    · rw [Lib.nDigits_small h10]; omega
    · rw [Lib.nDigits_big h10]
      have := nDigits_le (k + 1) (u / 10) (by omega) (by rw [Nat.pow_succ] at h; omega)
      omega

theorem pow_le_of_nDigits (u : Nat) : 1 < Lib.nDigits u → 10 ^ (Lib.nDigits u - 1) ≤ u := by
  induction u using Nat.strongRecOn with
  | ind u ih =>
    intro h
    by_cases h10 : u < 10
    · rw [Lib.nDigits_small h10] at h; omega
    · have hb := Lib.nDigits_big h10
      by_cases h2 : 1 < Lib.nDigits (u / 10)
      · have := ih (u / 10) (by omega) h2
        rw [hb, Nat.add_sub_cancel]
        obtain ⟨e, he⟩ : ∃ e, Lib.nDigits (u / 10) = e + 1 := ⟨Lib.nDigits (u / 10) - 1, by omega⟩
        rw [he] at this ⊢
        rw [Nat.add_sub_cancel] at this
        rw [Nat.pow_succ]
        omega
      · have h3 : Lib.nDigits (u / 10) = 1 := by have := Lib.nDigits_pos (u / 10); omega
        rw [hb, h3]
        omega

/-- The texts that the law is about. -/
def canonText (pre : List UInt8) (q t u : Nat) : List UInt8 := pre ++ (Lib.decDigits q ++ [46, UInt8.ofNat (48 + t), UInt8.ofNat (48 + u)])

theorem dec_at (q j : Nat) (hj : j < Lib.nDigits q) : ((Lib.decDigits q).getD j 0).toNat = 48 + q / 10 ^ (Lib.nDigits q - 1 - j) % 10 := by
  rw [Lib.decDigits_eq, List.getD_eq_getElem?_getD, List.getElem?_map, List.getElem?_range hj]
  simp only [Option.map_some, Option.getD_some, Lib.dg]
  rw [UInt8.toNat_ofNat']
  have := Nat.mod_lt (q / 10 ^ (Lib.nDigits q - 1 - j)) (show 0 < 10 by decide)
  omega

theorem text_dig (pre : List UInt8) (q t u j : Nat) (hj : j < Lib.nDigits q) : ((canonText pre q t u).getD (pre.length + j) 0).toNat = 48 + q / 10 ^ (Lib.nDigits q - 1 - j) % 10 := by
  rw [← dec_at q j hj, canonText, List.getD_eq_getElem?_getD, List.getElem?_append_right (by omega), Nat.add_sub_cancel_left, List.getElem?_append_left (by rw [Lib.decDigits_length]; exact hj), ← List.getD_eq_getElem?_getD]

theorem text_end (pre : List UInt8) (q t u j : Nat) : (canonText pre q t u).getD (pre.length + Lib.nDigits q + j) 0 = [46, UInt8.ofNat (48 + t), UInt8.ofNat (48 + u)].getD j 0 := by
  rw [canonText, List.getD_eq_getElem?_getD, List.getElem?_append_right (by omega), List.getElem?_append_right (by rw [Lib.decDigits_length]; omega), ← List.getD_eq_getElem?_getD, Lib.decDigits_length]
  congr 1
  omega

theorem small_byte (t : Nat) (h : t < 10) : (UInt8.ofNat (48 + t)).toNat = 48 + t := by
  rw [UInt8.toNat_ofNat']
  omega

theorem canon (s : ByteArray) (pre : List UInt8) (q t u m : Nat) (hs : s.data.toList = canonText pre q t u) (ht : t < 10) (hu : u < 10) (hq : q ≤ 92233720368547758) (hm : q * 100 + t * 10 + u = m) (hmb : m ≤ 9223372036854775808) :
    Canon s (fun i => (s.data.toList.getD i 0).toNat) (fun i => q / 10 ^ (pre.length + Lib.nDigits q - i)) pre.length (pre.length + Lib.nDigits q) q t u m := by
  have hpos := Lib.nDigits_pos q
  have hle := nDigits_le 17 q (by omega) (by omega)
  have hlt := Lib.lt_pow_nDigits q
  refine ⟨?_, ?_, by omega, by omega, ?_, ?_, ?_, ?_, ht, hu, ?_, ?_, ?_, ?_, ?_, hm, hmb⟩
  · intro i hi
    have hi' : i < s.data.toList.length := hi
    show _ = (s.data.toList.getD i 0).toNat
    rw [List.getD_eq_getElem?_getD, List.getElem?_eq_getElem hi']
    rfl
  · have e : s.size = s.data.toList.length := rfl
    rw [e, hs, canonText]
    simp [Lib.decDigits_length]
    omega
  · intro i h1 h2
    obtain ⟨j, rfl⟩ : ∃ j, i = pre.length + j := ⟨i - pre.length, by omega⟩
    show 48 ≤ (s.data.toList.getD (pre.length + j) 0).toNat ∧ (s.data.toList.getD (pre.length + j) 0).toNat ≤ 57
    rw [hs, text_dig _ _ _ _ _ (by omega)]
    have := Nat.mod_lt (q / 10 ^ (Lib.nDigits q - 1 - j)) (show 0 < 10 by decide)
    omega
  · show (s.data.toList.getD (pre.length + Lib.nDigits q) 0).toNat = 46
    rw [hs, ← Nat.add_zero (pre.length + Lib.nDigits q), text_end]
    rfl
  · show (s.data.toList.getD (pre.length + Lib.nDigits q + 1) 0).toNat = _
    rw [hs, text_end]
    exact small_byte t ht
  · show (s.data.toList.getD (pre.length + Lib.nDigits q + 2) 0).toNat = _
    rw [hs, text_end]
    exact small_byte u hu
  · intro h
    show (s.data.toList.getD pre.length 0).toNat ≠ 48
    have e := text_dig pre q t u 0 (by omega)
    rw [Nat.add_zero] at e
    rw [hs, e, Nat.sub_zero]
    have h1 := pow_le_of_nDigits q (by omega)
    have h2 : q / 10 ^ (Lib.nDigits q - 1) < 10 := by
      rw [Nat.div_lt_iff_lt_mul (Nat.pow_pos (by decide))]
      obtain ⟨e, he⟩ : ∃ e, Lib.nDigits q = e + 1 := ⟨Lib.nDigits q - 1, by omega⟩
      rw [he] at hlt ⊢
      rw [Nat.pow_succ] at hlt
      rw [Nat.add_sub_cancel]
      omega
    have h3 : 1 ≤ q / 10 ^ (Lib.nDigits q - 1) := by
      rw [Nat.le_div_iff_mul_le (Nat.pow_pos (by decide))]
      omega
    rw [Nat.mod_eq_of_lt h2]
    omega
  · show q / 10 ^ (pre.length + Lib.nDigits q - pre.length) = 0
    rw [Nat.add_sub_cancel_left]
    exact Nat.div_eq_of_lt hlt
  · show q / 10 ^ (pre.length + Lib.nDigits q - (pre.length + Lib.nDigits q)) = q
    rw [Nat.sub_self]
    simp
  · intro i h1 h2
    obtain ⟨j, rfl⟩ : ∃ j, i = pre.length + j := ⟨i - pre.length, by omega⟩
    show q / 10 ^ (pre.length + Lib.nDigits q - (pre.length + j)) * 10 + ((s.data.toList.getD (pre.length + j) 0).toNat - 48) = q / 10 ^ (pre.length + Lib.nDigits q - (pre.length + j + 1))
    rw [hs, text_dig _ _ _ _ _ (by omega)]
    obtain ⟨e, he⟩ : ∃ e, Lib.nDigits q = j + e + 1 := ⟨Lib.nDigits q - j - 1, by omega⟩
    have e1 : pre.length + Lib.nDigits q - (pre.length + j) = e + 1 := by omega
    have e2 : pre.length + Lib.nDigits q - (pre.length + j + 1) = e := by omega
    have e3 : Lib.nDigits q - 1 - j = e := by omega
    rw [e1, e2, e3, Nat.pow_succ, ← Nat.div_div_eq_div_mul]
    omega
  · intro i
    exact Nat.le_trans (Nat.div_le_self _ _) (by omega)

/-- The text of an amount, in that shape. -/
theorem amt_canon (a : Int) : amt a = canonText (sgn a).data.toList (a.natAbs / 100) (a.natAbs % 100 / 10) (a.natAbs % 100 % 10) := by
  rw [amt_eq, two_eq _ (Nat.mod_lt _ (by decide)), canonText]
  rfl

theorem parse_amt (s : ByteArray) (a : Int) (w : World) (hs : s.data.toList = amt a) (hw : (Lit.int .i64 a).wf = true) :
    Calls Tryf.prog 6 #[.string s] w fun e w' => e = .returned (.tuple #[.bool (decide (a < 0)), .int .u64 (a.natAbs : Int), .bool true]) ∧ Below w.heap.size w w' := by
  have hb := i64_bounds hw
  have C := canon s (sgn a).data.toList (a.natAbs / 100) (a.natAbs % 100 / 10) (a.natAbs % 100 % 10) a.natAbs (hs.trans (amt_canon a)) (by omega) (by omega) (by omega) (by omega) (by omega)
  by_cases h : a < 0
  · have e : sgn a = ⟨#[45]⟩ := if_pos h
    rw [e] at C
    rw [decide_eq_true h]
    refine parse_neg s _ _ _ _ _ _ _ w C ?_ (by omega)
    show (s.data.toList.getD 0 0).toNat = 45
    rw [hs, amt_canon, e]
    rfl
  · have e : sgn a = ⟨#[]⟩ := if_neg h
    rw [e] at C
    rw [decide_eq_false h]
    exact parse_pos s _ _ _ _ _ _ _ w C

end Go.Proofs.Qxb6630554aFmt
