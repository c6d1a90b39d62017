/- The two lists that the law builds to compare with. -/
import Derived.Test.Qxb6628251aSegs
import Derived.Test.Qxb6628251aWire
namespace Go.Proofs.Qxb6628251a
open Go.RowKit

structure Want (w : World) (LN LV : List Value) (nv vv : Value) (G1 G2 : Option Nat) (wr : World) : Prop where
  names : Own 9 wr nv LN G1
  vals : Own 9 wr vv LV G2
  apart : G1 = none ∨ G1 ≠ G2
  lo1 : ∀ g, G1 = some g → w.heap.size ≤ g
  lo2 : ∀ g, G2 = some g → w.heap.size ≤ g
  bel : Below w.heap.size w wr

theorem grown_of_below {w w' : World} (h : Below w.heap.size w w') (R : Option Nat) : w.grownBy w' R := ⟨h.os, h.tape, h.output, h.size, fun k hk _ => h.block k hk⟩

theorem Own.below {e : TypeId} {w w' : World} {v : Value} {xs : List Value} {G : Option Nat} (h : Own e w v xs G) (hb : Below w.heap.size w w') : Own e w' v xs G :=
  h.kept (grown_of_below hb none) (by cases G <;> simp)

theorem Want.call {w : World} {LN LV : List Value} {nv vv : Value} {G1 G2 : Option Nat} {wr w' : World} (h : Want w LN LV nv vv G1 G2 wr) (hb : Below wr.heap.size wr w') : Want w LN LV nv vv G1 G2 w' :=
  ⟨h.names.below hb, h.vals.below hb, h.apart, h.lo1, h.lo2, h.bel.trans (hb.mono h.bel.size)⟩

theorem Want.pushN {w : World} {LN LV : List Value} {x : Value} {nv vv nv' : Value} {G1 G2 G1' : Option Nat} {wr w' : World} (h : Want w LN LV nv vv G1 G2 wr) (on : Own 9 w' nv' (LN ++ [x]) G1') (hg : wr.grownBy w' G1) (hG : G1' = G1 ∨ ∃ g, G1' = some g ∧ wr.heap.size ≤ g) : Want w (LN ++ [x]) LV nv' vv G1' G2 w' := by
  refine ⟨on, h.vals.kept hg (apart_symm h.apart), ?_, lo_next h.bel.size h.lo1 hG, h.lo2, h.bel.trans ⟨hg.os, hg.tape, hg.output, hg.size, fun i hi => hg.block i (by have := h.bel.size; omega) (fun e => by have := h.lo1 i e.symm; omega)⟩⟩
  rcases hG with e | ⟨g, e, hgg⟩
  · rw [e]; exact h.apart
  · refine .inr fun e2 => ?_
    rw [e] at e2
    have := (e2 ▸ h.vals : Own 9 wr vv LV (some g)).lt
    omega

theorem Want.pushV {w : World} {LN LV : List Value} {x : Value} {nv vv vv' : Value} {G1 G2 G2' : Option Nat} {wr w' : World} (h : Want w LN LV nv vv G1 G2 wr) (on : Own 9 w' vv' (LV ++ [x]) G2') (hg : wr.grownBy w' G2) (hG : G2' = G2 ∨ ∃ g, G2' = some g ∧ wr.heap.size ≤ g) : Want w LN (LV ++ [x]) nv vv' G1 G2' w' := by
  refine ⟨h.names.kept hg h.apart, on, ?_, h.lo1, lo_next h.bel.size h.lo2 hG, h.bel.trans ⟨hg.os, hg.tape, hg.output, hg.size, fun i hi => hg.block i (by have := h.bel.size; omega) (fun e => by have := h.lo2 i e.symm; omega)⟩⟩
  rcases hG with e | ⟨g, e, hgg⟩
  · rw [e]; exact h.apart
  · refine apart_symm (.inr fun e2 => ?_)
    rw [e] at e2
    have := (e2 ▸ h.names : Own 9 wr nv LN (some g)).lt
    omega

/-- A slice just built. -/
theorem own_built (w : World) (arr : Array Value) (n : Nat) (hn : arr.size = n) (hm : n ≤ 1048576) : Own 9 (w.alloc (.cells arr 9)) (.slice (some ⟨w.heap.size, 0, none⟩) n n) arr.toList (some w.heap.size) := by
  refine ⟨rfl, ?_⟩
  have h := World.ownsRow_lit (base := 0) (e := 9) (size := 1) w arr n (Nat.zero_le _) (by unfold maxLen; omega) (by omega)
  rw [Array.length_toList, hn]
  exact h

theorem strs_congr {w : World} {a : Option Addr} {n : Nat} {f f' : Nat → ByteArray} (h : Strs w a n f) (e : ∀ i, i < n → f i = f' i) : Strs w a n f' := by
  rcases h with h | ⟨b, o, ha, hb, hc⟩
  · exact .inl h
  · exact .inr ⟨b, o, ha, hb, fun i hi => by rw [← e i hi]; exact hc i hi⟩

def fnOf (f : Nat → List UInt8) (i : Nat) : ByteArray := ⟨(f i).toArray⟩

theorem strsTo_map (f : Nat → List UInt8) (k : Nat) : strsTo f k = ((List.range k).map (fnOf f)).map Value.string := by simp [strsTo, fnOf]

theorem own_strsTo {w : World} {v : Value} {f : Nat → List UInt8} {k : Nat} {G : Option Nat} (h : Own 9 w v (strsTo f k) G) : ∃ a cap, v = .slice a k cap ∧ Strs w a k (fnOf f) := by
  rw [strsTo_map] at h
  obtain ⟨a, cap, e, hs⟩ := own_strs h
  simp only [List.length_map, List.length_range] at e hs
  exact ⟨a, cap, e, strs_congr hs (fun i hi => by simp [hi])⟩

/-- zzb1Parse, its two lists as slices of strings. -/
theorem parse_strs (nm vl : Nat → List UInt8) (N : Nat) (w : World) (hN : 0 < N) (hN4 : N ≤ 4) (hok : ∀ k, k < N → 1 ≤ (nm k).length ∧ ∀ j, j < (nm k).length → 97 ≤ ((nm k).getD j 0).toNat ∧ ((nm k).getD j 0).toNat ≤ 122) (hsz : (lead ++ tl nm vl 0 N).length ≤ 268435456) :
    Calls Try.prog 10 #[.string ⟨(lead ++ tl nm vl 0 N).toArray⟩] w fun e w' => ∃ (a1 : Option Addr) (c1 : Nat) (a2 : Option Addr) (c2 : Nat), e = .returned (.tuple #[.slice a1 N c1, .slice a2 N c2, .bool true]) ∧ Strs w' a1 N (fnOf nm) ∧ Strs w' a2 N (fnOf vl) ∧ Below w.heap.size w w' := by
  refine (parse_list nm vl N w hN hN4 hok hsz).mono ?_
  rintro e w' ⟨nv, vv, G1, G2, rfl, h1, h2, h3⟩
  obtain ⟨a1, c1, rfl, s1⟩ := own_strsTo h1
  obtain ⟨a2, c2, rfl, s2⟩ := own_strsTo h2
  exact ⟨a1, c1, a2, c2, rfl, s1, s2, h3⟩

def realmN : List UInt8 := [114, 101, 97, 108, 109]
def serviceN : List UInt8 := [115, 101, 114, 118, 105, 99, 101]
def scopeN : List UInt8 := [115, 99, 111, 112, 101]
def errorN : List UInt8 := [101, 114, 114, 111, 114]

/-- The names of a header. -/
def NS (s e : Bool) : List (List UInt8) := [realmN, serviceN] ++ (if s then [scopeN] else []) ++ (if e then [errorN] else [])
/-- .. and its values. -/
def VS (s e : Bool) (a b c d : List UInt8) : List (List UInt8) := [a, b] ++ (if s then [c] else []) ++ (if e then [d] else [])

theorem NS_ok (s e : Bool) (k : Nat) (hk : k < (NS s e).length) : 1 ≤ ((NS s e).getD k []).length ∧ ∀ j, j < ((NS s e).getD k []).length → 97 ≤ (((NS s e).getD k []).getD j 0).toNat ∧ (((NS s e).getD k []).getD j 0).toNat ≤ 122 := by
  have key : ∀ x ∈ NS s e, 1 ≤ x.length ∧ ∀ j, j < x.length → 97 ≤ (x.getD j 0).toNat ∧ (x.getD j 0).toNat ≤ 122 := by
    cases s <;> cases e <;> decide
  refine key _ ?_
  simp [List.getD, hk]

theorem header_pairs (s e : Bool) (realm service err : ByteArray) (n : Nat) (L : List UInt8) (hs : s = true ↔ 0 < n) (he : e = true ↔ 0 < err.size) :
    header realm service n L err = lead ++ tl (fun i => (NS s e).getD i []) (fun i => (VS s e (canon realm.data.toList) (canon service.data.toList) (canon L) (canon err.data.toList)).getD i []) 0 (NS s e).length := by
  unfold header hd scopesP scopeP errP
  rw [param_text, param_text, param_text, param_text]
  cases s with
  | false =>
    have hn : n = 0 := by
      have : ¬ 0 < n := fun h => by have := hs.2 h; cases this
      omega
    rw [if_pos hn]
    cases e with
    | false =>
      have hz : err.size = 0 := by
        have : ¬ 0 < err.size := fun h => by have := he.2 h; cases this
        omega
      rw [if_pos hz]
      simp [NS, VS, tl, lead, realmN, serviceN]
    | true =>
      have hz := he.1 rfl
      rw [if_neg (by omega)]
      simp [NS, VS, tl, lead, realmN, serviceN, errorN]
  | true =>
    have hn := hs.1 rfl
    rw [if_neg (by omega)]
    cases e with
    | false =>
      have hz : err.size = 0 := by
        have : ¬ 0 < err.size := fun h => by have := he.2 h; cases this
        omega
      rw [if_pos hz]
      simp [NS, VS, tl, lead, realmN, serviceN, scopeN]
    | true =>
      have hz := he.1 rfl
      rw [if_neg (by omega)]
      simp [NS, VS, tl, lead, realmN, serviceN, scopeN, errorN]

end Go.Proofs.Qxb6628251a
