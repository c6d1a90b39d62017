/- The walks of the functions that bound an input's size. -/
import Derived.Test.Qxb6628251aRows
import Derived.WalkKit
import Derived.ProofKit
import Derived.Below
import Derived.WalkSpells
import Derived.Deep.OwnRows
import Derived.Deep.QuietTactic
import Derived.BigQuiet
import Derived.RegionTactic
import Derived.Lib.SliceRun
import Derived.Deep.LoopGhost
import Derived.WalkSmall
namespace Go.Proofs.Qxb6628251a
open Go.RowKit

theorem ret_bool {a b : Bool} (h : a = b) : Ending.returned (.bool a) = .returned (.bool b) := by rw [h]

/-- The cells of a slice of strings: the first 'len' hold 'f 0', 'f 1', .. -/
def Strs (w : World) (a : Option Addr) (len : Nat) (f : Nat → ByteArray) : Prop :=
  len = 0 ∨ ∃ b o, a = some ⟨b, o, none⟩ ∧ b < w.heap.size ∧ ∀ i, i < len → w.cell? ⟨b, o + i, none⟩ = some (.string (f i))

theorem Strs.below {w w' : World} {a : Option Addr} {len : Nat} {f : Nat → ByteArray} (h : Strs w a len f) (hb : Below w.heap.size w w') : Strs w' a len f := by
  rcases h with h | ⟨b, o, ha, hlt, hc⟩
  · exact .inl h
  · exact .inr ⟨b, o, ha, by have := hb.size; omega, fun i hi => (hb.cell (by exact hlt)).trans (hc i hi)⟩

/-- A slice's three words. -/
structure Sl where
  at_ : Option Addr
  len : Nat
  cap : Nat

/-- The cells of a slice of slices of strings. -/
def Nest (w : World) (a : Option Addr) (len : Nat) (g : Nat → Sl) (f : Nat → Nat → ByteArray) : Prop :=
  len = 0 ∨ ∃ b o, a = some ⟨b, o, none⟩ ∧ b < w.heap.size ∧ ∀ i, i < len → w.cell? ⟨b, o + i, none⟩ = some (.slice (g i).at_ (g i).len (g i).cap) ∧ Strs w (g i).at_ (g i).len (f i)

theorem Nest.below {w w' : World} {a : Option Addr} {len : Nat} {g : Nat → Sl} {f : Nat → Nat → ByteArray} (h : Nest w a len g f) (hb : Below w.heap.size w w') : Nest w' a len g f := by
  rcases h with h | ⟨b, o, ha, hlt, hc⟩
  · exact .inl h
  · exact .inr ⟨b, o, ha, by have := hb.size; omega, fun i hi => ⟨(hb.cell (by exact hlt)).trans (hc i hi).1, (hc i hi).2.below hb⟩⟩

/-- The bytes of the first k strings. -/
def sum (f : Nat → ByteArray) : Nat → Nat
  | 0 => 0
  | k + 1 => sum f k + (f k).size

/-- What the first k slices of strings take, eight bytes a word. -/
def sums (g : Nat → Sl) (f : Nat → Nat → ByteArray) : Nat → Nat
  | 0 => 0
  | k + 1 => sums g f k + (8 * (g k).len + sum (f k) (g k).len)

/-- What the adders hand back: the sum, within the limit, and true; or false. -/
def Fit (T : Int) (e : Ending) : Prop := ∃ (u : Int) (ok : Bool), e = .returned (.tuple #[.int .i64 u, .bool ok]) ∧ (ok = true → u = T ∧ u ≤ 1048576)
theorem Fit.yes {T u : Int} (e : u = T) (h : T ≤ 1048576) : Fit T (.returned (.tuple #[.int .i64 u, .bool true])) := ⟨_, true, rfl, fun _ => ⟨e, by omega⟩⟩
theorem Fit.no {T u : Int} : Fit T (.returned (.tuple #[.int .i64 u, .bool false])) := ⟨_, false, rfl, fun h => by cases h⟩

theorem add_yes (t n : Int) (w : World) (ht : 0 ≤ t) (hn : 0 ≤ n) (hs : t + n ≤ 1048576) : Calls Try.prog 6 #[.int .i64 t, .int .i64 n] w fun e w' => e = .returned (.tuple #[.int .i64 (t + n), .bool true]) ∧ w' = w := by
  have h1 : ¬ n < 0 := by omega
  have h2 : ¬ 1048576 - t < n := by omega
  go_enter Try.func6, Try.ntmps6
  go_wp2
  go_ret2
  exact ⟨rfl, rfl⟩

theorem add_no (t n : Int) (w : World) (ht : 0 ≤ t) (ht2 : t ≤ 1048576) (hn : 0 ≤ n) (hs : 1048576 < t + n) : Calls Try.prog 6 #[.int .i64 t, .int .i64 n] w fun e w' => e = .returned (.tuple #[.int .i64 t, .bool false]) ∧ w' = w := by
  have h1 : ¬ n < 0 := by omega
  have h2 : 1048576 - t < n := by omega
  go_enter Try.func6, Try.ntmps6
  go_wp2
  go_ret2
  exact ⟨rfl, rfl⟩

/-- 'zzb1Add', whatever comes out. -/
theorem add_any (t n : Int) (w : World) (ht : 0 ≤ t) (ht2 : t ≤ 1048576) (hn : 0 ≤ n) : Calls Try.prog 6 #[.int .i64 t, .int .i64 n] w fun e w' => Fit (t + n) e ∧ w' = w := by
  by_cases h : t + n ≤ 1048576
  · refine (add_yes t n w ht hn h).mono ?_
    rintro e w' ⟨rfl, rfl⟩
    exact ⟨Fit.yes rfl h, rfl⟩
  · refine (add_no t n w ht ht2 hn (by omega)).mono ?_
    rintro e w' ⟨rfl, rfl⟩
    exact ⟨Fit.no, rfl⟩

set_option maxHeartbeats 1000000 in
theorem addStrs_any (t : Int) (a : Option Addr) (len cap : Nat) (f : Nat → ByteArray) (w : World) (ht : 0 ≤ t) (ht2 : t ≤ 1048576) (hm : len ≤ maxLen) (hs : Strs w a len f) :
    Calls Try.prog 17 #[.int .i64 t, .slice a len cap] w fun e w' => Fit (t + (8 * len + sum f len : Nat)) e ∧ w' = w := by
  unfold maxLen at hm
  by_cases hl : 1048576 < len
  · have hl' : (1048576 : Int) < (len : Int) := by omega
    go_enter Try.func17, Try.ntmps17
    go_wp2
    go_ret2
    exact ⟨Fit.no, rfl⟩
  have hl' : ¬ (1048576 : Int) < (len : Int) := by omega
  have HS : Hid (Strs w a len f) := hs
  clear hs
  by_cases h8 : t + 8 * (len : Int) ≤ 1048576
  · go_enter Try.func17, Try.ntmps17
    go_wp2_with (go_at_call 6; refine (add_yes _ _ _ ht (by omega) h8).mono ?_; rintro e w' ⟨rfl, rfl⟩)
    go_loop [6, 7, 8] (fun u ok i => ∃ k : Nat, k ≤ len ∧ i = .int .i64 k ∧ ok = .bool true ∧ u = .int .i64 (t + (8 * len + sum f k : Nat)) ∧ t + (8 * len + sum f k : Nat) ≤ 1048576) (fun _ _ i => len - (intOf i).toNat)
    case atStart => exact ⟨0, Nat.zero_le _, rfl, rfl, by simp [sum], by simp [sum]; omega⟩
    case round =>
      obtain ⟨k, hk, rfl, rfl, rfl, hle⟩ := hrel
      by_cases hlt : k < len
      · rcases HS.out with h | ⟨b, o, rfl, hb, hc⟩
        · omega
        have hcx := hc k hlt
        have hi : (k : Int) < (len : Int) := by omega
        have hsum : Hid (sum f (k + 1) = sum f k + (f k).size) := rfl
        clear hc HS
        generalize hU : t + ((8 * len + sum f k : Nat) : Int) = u at *
        have HU : Hid (t + ((8 * len + sum f k : Nat) : Int) = u) := hU
        have hu0 : 0 ≤ u := by omega
        clear hU
        by_cases hy : u + ((f k).size : Int) ≤ 1048576
        · go_wp2_with (go_at_call 6; refine (add_yes _ _ _ hu0 (by omega) hy).mono ?_; rintro e w' ⟨rfl, rfl⟩)
          go_round
          case rel =>
            have e := HU.out
            have e2 := hsum.out
            exact ⟨k + 1, by omega, by go_num, rfl, congrArg (Value.int .i64) (by rw [e2]; omega), by rw [e2]; omega⟩
          case measure => simp [intOf]; omega
        · go_wp2_with (go_at_call 6; refine (add_no _ _ _ hu0 (by omega) (by omega) (by omega)).mono ?_; rintro e w' ⟨rfl, rfl⟩)
          go_ret2
          exact ⟨Fit.no, rfl⟩
      · obtain rfl : k = len := by omega
        have HL : Hid (t + (8 * k + sum f k : Nat) ≤ 1048576) := hle
        clear hle
        go_wp2
        go_ret2
        exact ⟨Fit.yes (by omega) HL.out, rfl⟩
  · go_enter Try.func17, Try.ntmps17
    go_wp2_with (go_at_call 6; refine (add_no _ _ _ ht ht2 (by omega) (by omega)).mono ?_; rintro e w' ⟨rfl, rfl⟩)
    go_ret2
    exact ⟨Fit.no, rfl⟩

set_option maxHeartbeats 1000000 in
theorem addNested_any (t : Int) (a : Option Addr) (len cap : Nat) (g : Nat → Sl) (f : Nat → Nat → ByteArray) (w : World) (ht : 0 ≤ t) (ht2 : t ≤ 1048576) (hm : len ≤ maxLen) (hg : ∀ i, i < len → (g i).len ≤ maxLen) (hs : Nest w a len g f) :
    Calls Try.prog 18 #[.int .i64 t, .slice a len cap] w fun e w' => Fit (t + (8 * len + sums g f len : Nat)) e ∧ w' = w := by
  unfold maxLen at hm
  by_cases hl : 1048576 < len
  · have hl' : (1048576 : Int) < (len : Int) := by omega
    clear hg
    go_enter Try.func18, Try.ntmps18
    go_wp2
    go_ret2
    exact ⟨Fit.no, rfl⟩
  have hl' : ¬ (1048576 : Int) < (len : Int) := by omega
  have HS : Hid (Nest w a len g f) := hs
  have HG : Hid (∀ i, i < len → (g i).len ≤ maxLen) := hg
  clear hs hg
  by_cases h8 : t + 8 * (len : Int) ≤ 1048576
  · go_enter Try.func18, Try.ntmps18
    go_wp2_with (go_at_call 6; refine (add_yes _ _ _ ht (by omega) h8).mono ?_; rintro e w' ⟨rfl, rfl⟩)
    go_loop [6, 7, 8] (fun u ok i => ∃ k : Nat, k ≤ len ∧ i = .int .i64 k ∧ ok = .bool true ∧ u = .int .i64 (t + (8 * len + sums g f k : Nat)) ∧ t + (8 * len + sums g f k : Nat) ≤ 1048576) (fun _ _ i => len - (intOf i).toNat)
    case atStart => exact ⟨0, Nat.zero_le _, rfl, rfl, by simp [sums], by simp [sums]; omega⟩
    case round =>
      obtain ⟨k, hk, rfl, rfl, rfl, hle⟩ := hrel
      by_cases hlt : k < len
      · rcases HS.out with h | ⟨b, o, rfl, hb, hc⟩
        · omega
        obtain ⟨hcx, hst⟩ := hc k hlt
        have hgk := HG.out k hlt
        have hi : (k : Int) < (len : Int) := by omega
        have hsum : Hid (sums g f (k + 1) = sums g f k + (8 * (g k).len + sum (f k) (g k).len)) := rfl
        clear hc HS HG
        generalize hU : t + ((8 * len + sums g f k : Nat) : Int) = u at *
        have HU : Hid (t + ((8 * len + sums g f k : Nat) : Int) = u) := hU
        have hu0 : 0 ≤ u := by omega
        clear hU
        have HT : Hid (Strs w' (g k).at_ (g k).len (f k)) := hst
        clear hst
        go_wp2_with fail
        refine (addStrs_any u (g k).at_ (g k).len (g k).cap (f k) _ hu0 hle hgk HT.out).mono ?_
        rintro e w1 ⟨⟨v, ok, rfl, hv⟩, rfl⟩
        have HV : Hid (ok = true → v = u + ((8 * (g k).len + sum (f k) (g k).len : Nat) : Int) ∧ v ≤ 1048576) := hv
        clear hv
        cases ok with
        | true =>
          go_wp2
          go_round
          case rel =>
            have e := HU.out
            have e2 := hsum.out
            obtain ⟨e3, e4⟩ := HV.out trivial
            exact ⟨k + 1, by omega, by go_num, rfl, congrArg (Value.int .i64) (by rw [e2]; omega), by rw [e2]; omega⟩
          case measure => simp [intOf]; omega
        | false =>
          go_wp2
          go_ret2
          exact ⟨Fit.no, rfl⟩
      · obtain rfl : k = len := by omega
        have HL : Hid (t + (8 * k + sums g f k : Nat) ≤ 1048576) := hle
        clear hle
        go_wp2
        go_ret2
        exact ⟨Fit.yes (by omega) HL.out, rfl⟩
  · go_enter Try.func18, Try.ntmps18
    go_wp2_with (go_at_call 6; refine (add_no _ _ _ ht ht2 (by omega) (by omega)).mono ?_; rintro e w' ⟨rfl, rfl⟩)
    go_ret2
    exact ⟨Fit.no, rfl⟩

/-- It returned a bool. -/
def SomeBool (e : Ending) : Prop := ∃ b : Bool, e = .returned (.bool b)

/-- What a scope list takes. -/
def listSum (n1 : Nat) (f1 : Nat → ByteArray) (n2 : Nat) (f2 : Nat → ByteArray) (n3 : Nat) (g : Nat → Sl) (f3 : Nat → Nat → ByteArray) : Nat := (8 * n1 + sum f1 n1) + (8 * n2 + sum f2 n2) + (8 * n3 + sums g f3 n3)

set_option maxHeartbeats 1000000 in
theorem scopesFit_any (t : Int) (a1 a2 a3 : Option Addr) (n1 c1 n2 c2 n3 c3 : Nat) (f1 f2 : Nat → ByteArray) (g : Nat → Sl) (f3 : Nat → Nat → ByteArray) (w : World) (ht : 0 ≤ t) (ht2 : t ≤ 1048576)
    (m1 : n1 ≤ maxLen) (m2 : n2 ≤ maxLen) (m3 : n3 ≤ maxLen) (hg : ∀ i, i < n3 → (g i).len ≤ maxLen) (s1 : Strs w a1 n1 f1) (s2 : Strs w a2 n2 f2) (s3 : Nest w a3 n3 g f3) :
    Calls Try.prog 7 #[.int .i64 t, .slice a1 n1 c1, .slice a2 n2 c2, .slice a3 n3 c3] w fun e w' => Fit (t + (listSum n1 f1 n2 f2 n3 g f3 : Nat)) e ∧ w' = w := by
  have HG : Hid (∀ i, i < n3 → (g i).len ≤ maxLen) := hg
  have S1 : Hid (Strs w a1 n1 f1) := s1
  have S2 : Hid (Strs w a2 n2 f2) := s2
  have S3 : Hid (Nest w a3 n3 g f3) := s3
  clear hg s1 s2 s3
  go_enter Try.func7, Try.ntmps7
  go_wp2_with fail
  refine (addStrs_any t a1 n1 c1 f1 _ ht ht2 m1 S1.out).mono ?_
  rintro e w1 ⟨⟨u1, ok1, rfl, h1⟩, rfl⟩
  cases ok1 with
  | false =>
    clear h1
    go_wp2
    go_ret2
    exact ⟨Fit.no, rfl⟩
  | true =>
  have H1 : Hid (u1 = t + ((8 * n1 + sum f1 n1 : Nat) : Int)) := (h1 rfl).1
  have l1 : u1 ≤ 1048576 := (h1 rfl).2
  have g1 : 0 ≤ u1 := by have := H1.out; omega
  clear h1
  go_wp2_with fail
  refine (addStrs_any u1 a2 n2 c2 f2 _ g1 l1 m2 S2.out).mono ?_
  rintro e w1 ⟨⟨u2, ok2, rfl, h2⟩, rfl⟩
  cases ok2 with
  | false =>
    clear h2
    go_wp2
    go_ret2
    exact ⟨Fit.no, rfl⟩
  | true =>
  have H2 : Hid (u2 = u1 + ((8 * n2 + sum f2 n2 : Nat) : Int)) := (h2 rfl).1
  have l2 : u2 ≤ 1048576 := (h2 rfl).2
  have g2 : 0 ≤ u2 := by have := H2.out; omega
  clear h2
  go_wp2_with fail
  refine (addNested_any u2 a3 n3 c3 g f3 _ g2 l2 m3 HG.out S3.out).mono ?_
  rintro e w1 ⟨⟨u3, ok3, rfl, h3⟩, rfl⟩
  cases ok3 with
  | false =>
    clear h3
    go_wp2
    go_ret2
    exact ⟨Fit.no, rfl⟩
  | true =>
  have H3 : Hid (u3 = u2 + ((8 * n3 + sums g f3 n3 : Nat) : Int)) := (h3 rfl).1
  have l3 : u3 ≤ 1048576 := (h3 rfl).2
  clear h3
  go_wp2
  go_ret2
  exact ⟨Fit.yes (by have := H1.out; have := H2.out; have := H3.out; unfold listSum; omega) (by have := H1.out; have := H2.out; have := H3.out; unfold listSum; omega), rfl⟩

end Go.Proofs.Qxb6628251a
