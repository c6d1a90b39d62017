/- The header as one list; its length; the contract of (Challenge).String for every scope list. -/
import Derived.Test.Qxb6628251aChal
import Derived.Test.Qxb6628251aAppend
import Derived.Test.Qxb6628251aUtf
namespace Go.Proofs.Qxb6628251a
open Go.RowKit

def scopesP (n : Nat) (L : List UInt8) : List UInt8 := if n = 0 then [] else scopeP L
def header (realm service : ByteArray) (n : Nat) (L : List UInt8) (err : ByteArray) : List UInt8 := hd realm service ++ scopesP n L ++ errP err

/-- The text of a scope list. -/
def listText (n : Nat) (tt nn : Nat → ByteArray) (g : Nat → Sl) (ff : Nat → Nat → ByteArray) : List UInt8 := Lib.join (lst (txt tt nn g ff) n) [32]

theorem lst_succ (f : Nat → ByteArray) (k : Nat) : lst f (k + 1) = lst f k ++ [(f k).data.toList] := by
  simp [lst, List.range_succ]

theorem lens_lst (f : Nat → ByteArray) (k : Nat) : Lib.lens (lst f k) = sum f k := by
  induction k with
  | zero => rfl
  | succ k ih =>
    rw [lst_succ]
    have : Lib.lens (lst f k ++ [(f k).data.toList]) = Lib.lens (lst f k) + (f k).size := by
      simp [Lib.lens]
    rw [this, ih]
    rfl

theorem lst_length (f : Nat → ByteArray) (k : Nat) : (lst f k).length = k := by simp [lst]

theorem join_le (f : Nat → ByteArray) (k : Nat) (c : UInt8) : (Lib.join (lst f k) [c]).length ≤ sum f k + k := by
  cases h : lst f k with
  | nil => simp [Lib.join_nil]
  | cons x r =>
    rw [Lib.join_length, ← h, lens_lst]
    have := lst_length f k
    rw [h] at this
    simp at this ⊢
    omega

theorem txt_size (tt nn : Nat → ByteArray) (g : Nat → Sl) (ff : Nat → Nat → ByteArray) (i : Nat) : (txt tt nn g ff i).size ≤ (tt i).size + (nn i).size + 2 + (sum (ff i) (g i).len + (g i).len) := by
  unfold txt
  rw [ba_size]
  have := join_le (ff i) (g i).len 44
  unfold scopeText
  simp
  omega

theorem sum_txt (tt nn : Nat → ByteArray) (g : Nat → Sl) (ff : Nat → Nat → ByteArray) (k : Nat) : sum (txt tt nn g ff) k ≤ sum tt k + sum nn k + 2 * k + sums g ff k := by
  induction k with
  | zero => simp [sum]
  | succ k ih =>
    have := txt_size tt nn g ff k
    simp only [sum, sums]
    omega

theorem listText_le (n : Nat) (tt nn : Nat → ByteArray) (g : Nat → Sl) (ff : Nat → Nat → ByteArray) : (listText n tt nn g ff).length ≤ sum tt n + sum nn n + sums g ff n + 3 * n := by
  have h1 := join_le (txt tt nn g ff) n 32
  have h2 := sum_txt tt nn g ff n
  unfold listText
  omega

theorem sum_ge (f : Nat → ByteArray) {i n : Nat} (h : i < n) : (f i).size ≤ sum f n := by
  induction n with
  | zero => omega
  | succ n ih =>
    simp only [sum]
    by_cases e : i = n
    · subst e; omega
    · have := ih (by omega); omega

theorem sums_ge (g : Nat → Sl) (ff : Nat → Nat → ByteArray) {i n : Nat} (h : i < n) : (g i).len ≤ sums g ff n := by
  induction n with
  | zero => omega
  | succ n ih =>
    simp only [sums]
    by_cases e : i = n
    · subst e; omega
    · have := ih (by omega); omega

/-- A scope list that fits. -/
def Fits (n : Nat) (tt nn : Nat → ByteArray) (g : Nat → Sl) (ff : Nat → Nat → ByteArray) : Prop := listSum n tt n nn n g ff ≤ 4194304 ∧ n ≤ 1048576 ∧ ∀ i, i < n → (g i).len ≤ 1048576

theorem Fits.text {n : Nat} {tt nn : Nat → ByteArray} {g : Nat → Sl} {ff : Nat → Nat → ByteArray} (h : Fits n tt nn g ff) : (listText n tt nn g ff).length ≤ 4194304 ∧ ∀ i, i < n → (txt tt nn g ff i).size ≤ 4194304 := by
  obtain ⟨h1, h2, h3⟩ := h
  unfold listSum at h1
  have a := listText_le n tt nn g ff
  have b := sum_txt tt nn g ff n
  refine ⟨by omega, fun i hi => ?_⟩
  have := sum_ge (txt tt nn g ff) hi
  omega

theorem chal_any (realm service err : ByteArray) (a : Option Addr) (len cap : Nat) (tt nn : Nat → ByteArray) (g : Nat → Sl) (ff : Nat → Nat → ByteArray) (w : World)
    (hr : realm.size ≤ 1048576) (hsv : service.size ≤ 1048576) (her : err.size ≤ 1048576) (hf : Fits len tt nn g ff) (hs : Scs w a len tt nn g ff) :
    Calls Try.prog 9 #[.agg #[.string realm, .string service, .slice a len cap, .string err]] w fun e w' => e = .returned (.string ⟨(header realm service len (listText len tt nn g ff) err).toArray⟩) ∧ Below w.heap.size w w' := by
  obtain ⟨t1, t2⟩ := hf.text
  obtain ⟨_, hl, hN⟩ := hf
  unfold header scopesP errP
  by_cases hn : len = 0
  · by_cases he : err.size = 0
    · rw [if_pos hn, if_pos he, List.append_nil, List.append_nil]
      exact chal_plain realm service err a len cap w hr hsv her (by omega) (by omega)
    · rw [if_pos hn, if_neg he, List.append_nil]
      exact chal_err realm service err a len cap w hr hsv her (by omega) (by omega)
  · by_cases he : err.size = 0
    · rw [if_neg hn, if_pos he, List.append_nil]
      exact chal_scopes realm service err a len cap tt nn g ff w hr hsv her (by omega) hl hs hN (by unfold listText at t1; omega) (fun i hi => by have := t2 i hi; omega) (by omega)
    · rw [if_neg hn, if_neg he]
      exact chal_both realm service err a len cap tt nn g ff w hr hsv her (by omega) hl hs hN (by unfold listText at t1; omega) (fun i hi => by have := t2 i hi; omega) (by omega)

theorem header_len (realm service err : ByteArray) (L : List UInt8) (hr : realm.size ≤ 1048576) (hsv : service.size ≤ 1048576) (her : err.size ≤ 1048576) (hL : L.length ≤ 4194304) :
    (hd realm service).length ≤ 16777216 ∧ (quote ⟨L.toArray⟩).length ≤ 33554432 ∧ (errP err).length ≤ 8388608 := by
  have p1 := param_len [114, 101, 97, 108, 109] realm
  have p2 := param_len [115, 101, 114, 118, 105, 99, 101] service
  have p3 := param_len [101, 114, 114, 111, 114] err
  have p4 := quote_len ⟨L.toArray⟩
  rw [ba_size] at p4
  simp at p1 p2 p3
  refine ⟨?_, by omega, ?_⟩
  · unfold hd; simp; omega
  · unfold errP; split
    · simp
    · simp; omega

end Go.Proofs.Qxb6628251a
