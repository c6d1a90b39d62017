/- The plain law of the cut: what the headers are made of. -/
import Derived.Test.Qxb6628251aHead
import Derived.Test.Qxb6628251aMid
namespace Go.Proofs.Qxb6628251a
open Go.RowKit

theorem sum_cat (n m : Nat) (f g : Nat → ByteArray) : sum (cat n f g) (n + m) = sum f n + sum g m := by
  have h0 : ∀ k, k ≤ n → sum (cat n f g) k = sum f k := by
    intro k
    induction k with
    | zero => intro _; rfl
    | succ k ih =>
      intro hk
      simp only [sum]
      rw [ih (by omega), cat_lt f g (by omega)]
  induction m with
  | zero => simpa [sum] using h0 n (Nat.le_refl _)
  | succ m ih =>
    show sum (cat n f g) (n + m) + (cat n f g (n + m)).size = _
    rw [ih, cat_ge f g (by omega), show n + m - n = m by omega]
    simp only [sum]
    omega

theorem sums_cat (n m : Nat) (ga gb : Nat → Sl) (fa fb : Nat → Nat → ByteArray) : sums (cat n ga gb) (cat n fa fb) (n + m) = sums ga fa n + sums gb fb m := by
  have h0 : ∀ k, k ≤ n → sums (cat n ga gb) (cat n fa fb) k = sums ga fa k := by
    intro k
    induction k with
    | zero => intro _; rfl
    | succ k ih =>
      intro hk
      simp only [sums]
      rw [ih (by omega), cat_lt ga gb (by omega), cat_lt fa fb (by omega)]
  induction m with
  | zero => simpa [sums] using h0 n (Nat.le_refl _)
  | succ m ih =>
    show sums (cat n ga gb) (cat n fa fb) (n + m) + (8 * (cat n ga gb (n + m)).len + sum (cat n fa fb (n + m)) (cat n ga gb (n + m)).len) = _
    rw [ih, cat_ge ga gb (by omega), cat_ge fa fb (by omega), show n + m - n = m by omega]
    simp only [sums]
    omega

theorem Fits.cat {n m : Nat} {ta tb na nb : Nat → ByteArray} {ga gb : Nat → Sl} {fa fb : Nat → Nat → ByteArray} (h1 : listSum n ta n na n ga fa + listSum m tb m nb m gb fb ≤ 1048576) :
    Fits n ta na ga fa ∧ Fits m tb nb gb fb ∧ Fits (n + m) (cat n ta tb) (cat n na nb) (cat n ga gb) (cat n fa fb) := by
  have e : listSum (n + m) (Qxb6628251a.cat n ta tb) (n + m) (Qxb6628251a.cat n na nb) (n + m) (Qxb6628251a.cat n ga gb) (Qxb6628251a.cat n fa fb) = listSum n ta n na n ga fa + listSum m tb m nb m gb fb := by
    unfold listSum
    rw [sum_cat, sum_cat, sums_cat]
    omega
  have s1 : ∀ i, i < n → (ga i).len ≤ listSum n ta n na n ga fa := fun i hi => by have := sums_ge ga fa hi; unfold listSum; omega
  have s2 : ∀ i, i < m → (gb i).len ≤ listSum m tb m nb m gb fb := fun i hi => by have := sums_ge gb fb hi; unfold listSum; omega
  have n1 : n ≤ listSum n ta n na n ga fa := by unfold listSum; omega
  have n2 : m ≤ listSum m tb m nb m gb fb := by unfold listSum; omega
  refine ⟨⟨by omega, by omega, fun i hi => by have := s1 i hi; omega⟩, ⟨by omega, by omega, fun i hi => by have := s2 i hi; omega⟩, ⟨by rw [e]; omega, by omega, fun i hi => ?_⟩⟩
  by_cases h : i < n
  · rw [cat_lt ga gb h]; have := s1 i h; omega
  · rw [cat_ge ga gb h]; have := s2 (i - n) (by omega); omega

theorem fits_zero (tt nn : Nat → ByteArray) (g : Nat → Sl) (ff : Nat → Nat → ByteArray) : Fits 0 tt nn g ff := ⟨by simp [listSum, sum, sums], by omega, fun i hi => by omega⟩

theorem lst_cat (n m : Nat) (f g : Nat → ByteArray) : lst (cat n f g) (n + m) = lst f n ++ lst g m := by
  have h0 : ∀ k, k ≤ n → lst (cat n f g) k = lst f k := by
    intro k
    induction k with
    | zero => intro _; rfl
    | succ k ih =>
      intro hk
      rw [lst_succ, lst_succ, ih (by omega), cat_lt f g (by omega)]
  induction m with
  | zero => simpa [lst] using h0 n (Nat.le_refl _)
  | succ m ih =>
    rw [show n + (m + 1) = (n + m) + 1 by omega, lst_succ, lst_succ, ih, cat_ge f g (by omega), show n + m - n = m by omega, List.append_assoc]

theorem txt_cat (n : Nat) (ta tb na nb : Nat → ByteArray) (ga gb : Nat → Sl) (fa fb : Nat → Nat → ByteArray) : txt (cat n ta tb) (cat n na nb) (cat n ga gb) (cat n fa fb) = cat n (txt ta na ga fa) (txt tb nb gb fb) := by
  funext i
  by_cases h : i < n
  · rw [cat_lt _ _ h]
    unfold txt
    rw [cat_lt _ _ h, cat_lt _ _ h, cat_lt _ _ h, cat_lt _ _ h]
  · rw [cat_ge _ _ h]
    unfold txt
    rw [cat_ge _ _ h, cat_ge _ _ h, cat_ge _ _ h, cat_ge _ _ h]

theorem join_append (A B : List (List UInt8)) (sep : List UInt8) (hA : A ≠ []) (hB : B ≠ []) : Lib.join (A ++ B) sep = Lib.join A sep ++ sep ++ Lib.join B sep := by
  cases A with
  | nil => exact absurd rfl hA
  | cons x r =>
    cases B with
    | nil => exact absurd rfl hB
    | cons y t =>
      rw [List.cons_append, Lib.join_cons, Lib.join_cons, Lib.join_cons]
      simp [Lib.joinTail]

theorem text_cat (n m : Nat) (ta tb na nb : Nat → ByteArray) (ga gb : Nat → Sl) (fa fb : Nat → Nat → ByteArray) (hn : 0 < n) (hm : 0 < m) :
    listText (n + m) (cat n ta tb) (cat n na nb) (cat n ga gb) (cat n fa fb) = listText n ta na ga fa ++ 32 :: listText m tb nb gb fb := by
  unfold listText
  rw [txt_cat, lst_cat, join_append _ _ _ (fun h => by have := lst_length (txt ta na ga fa) n; rw [h] at this; simp at this; omega) (fun h => by have := lst_length (txt tb nb gb fb) m; rw [h] at this; simp at this; omega)]
  simp

theorem text_right (m : Nat) (ta tb na nb : Nat → ByteArray) (ga gb : Nat → Sl) (fa fb : Nat → Nat → ByteArray) : listText (0 + m) (cat 0 ta tb) (cat 0 na nb) (cat 0 ga gb) (cat 0 fa fb) = listText m tb nb gb fb := by
  unfold listText
  rw [txt_cat, lst_cat]
  rfl

theorem text_left (n : Nat) (ta tb na nb : Nat → ByteArray) (ga gb : Nat → Sl) (fa fb : Nat → Nat → ByteArray) : listText (n + 0) (cat n ta tb) (cat n na nb) (cat n ga gb) (cat n fa fb) = listText n ta na ga fa := by
  unfold listText
  rw [txt_cat, lst_cat]
  simp [lst]

/-! ### The headers' shapes -/

theorem header_none (realm service err : ByteArray) (L : List UInt8) : header realm service 0 L err = hd realm service ++ errP err := by
  unfold header scopesP
  rw [if_pos rfl, List.append_nil]

theorem header_bare (realm service : ByteArray) (L : List UInt8) : header realm service 0 L ⟨#[]⟩ = hd realm service := by
  rw [header_none]
  show _ ++ errP ⟨#[]⟩ = _
  have e : errP ⟨#[]⟩ = [] := if_pos rfl
  rw [e, List.append_nil]

theorem header_some (realm service err : ByteArray) (n : Nat) (L : List UInt8) (hn : 0 < n) : header realm service n L err = hd realm service ++ [44, 115, 99, 111, 112, 101, 61, 34] ++ quote ⟨L.toArray⟩ ++ [34] ++ errP err := by
  unfold header scopesP
  rw [if_neg (by omega)]
  unfold scopeP param
  simp

theorem hd_opens (realm service : ByteArray) : ∃ t, hd realm service = [66, 101, 97, 114, 101, 114, 32, 114, 101, 97, 108, 109, 61, 34] ++ t :=
  ⟨quote realm ++ [34] ++ [44] ++ param [115, 101, 114, 118, 105, 99, 101] service, by unfold hd; rw [show param [114, 101, 97, 108, 109] realm = [114, 101, 97, 108, 109] ++ [61, 34] ++ quote realm ++ [34] from rfl]; simp⟩

theorem errP_empty (err : ByteArray) : (⟨(errP err).toArray⟩ : ByteArray).toList.isEmpty = err.toList.isEmpty := by
  rw [ByteArray.toList_mk, ByteArray.toList_eq]
  unfold errP
  by_cases h : err.size = 0
  · rw [if_pos h]
    have : err.data.toList = [] := List.length_eq_zero_iff.1 h
    rw [this]
  · rw [if_neg h]
    cases he : err.data.toList with
    | nil => exact absurd (show err.data.toList.length = 0 by rw [he]; rfl) h
    | cons _ _ => rfl

end Go.Proofs.Qxb6628251a
