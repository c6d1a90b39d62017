/- The walk of zzb1Parse over a text whose shape is known. -/
import Derived.Test.Qxb6628251aOwn
namespace Go.Proofs.Qxb6628251a
open Go.RowKit

/-- A byte that is escaped. -/
def isq (c : UInt8) : Bool := c == 34 || c == 92

/-- How far the first k bytes of v reach in the escaped text. -/
def eo (v : List UInt8) : Nat → Nat
  | 0 => 0
  | k + 1 => eo v k + if isq (v.getD k 0) then 2 else 1

/-- At p the text (of 'size' bytes 'ch 0', 'ch 1', ..) holds: m letters, an equals sign, a quote, the escaped v, a quote; 'fin' is the place behind. -/
structure Seg (size : Nat) (ch : Nat → Nat) (p m : Nat) (v : List UInt8) (fin : Nat) : Prop where
  pos : 1 ≤ m
  name : ∀ j, j < m → 97 ≤ ch (p + j) ∧ ch (p + j) ≤ 122
  eq : ch (p + m) = 61
  quot : ch (p + m + 1) = 34
  room : p + m + 1 < size
  esc : ∀ k, k < v.length → isq (v.getD k 0) = true → ch (p + m + 2 + eo v k) = 92 ∧ ch (p + m + 2 + eo v k + 1) = (v.getD k 0).toNat ∧ p + m + 2 + eo v k + 1 < size
  plain : ∀ k, k < v.length → isq (v.getD k 0) = false → ch (p + m + 2 + eo v k) = (v.getD k 0).toNat ∧ p + m + 2 + eo v k < size
  last : ch (p + m + 2 + eo v v.length) = 34
  fin_eq : fin = p + m + 2 + eo v v.length + 1
  fin_le : fin ≤ size

/-- The strings of the first k. -/
def strsTo (f : Nat → List UInt8) (k : Nat) : List Value := (List.range k).map fun i => .string ⟨(f i).toArray⟩

theorem strsTo_succ (f : Nat → List UInt8) (k : Nat) : strsTo f (k + 1) = strsTo f k ++ [.string ⟨(f k).toArray⟩] := by simp [strsTo, List.range_succ]
theorem strsTo_len (f : Nat → List UInt8) (k : Nat) : (strsTo f k).length = k := by simp [strsTo]

/-- What the outer loop carries: the names and the values so far. -/
structure Got (w : World) (nm vl : Nat → List UInt8) (k : Nat) (nv vv : Value) (G1 G2 : Option Nat) (wr : World) : Prop where
  names : Own 9 wr nv (strsTo nm k) G1
  vals : Own 9 wr vv (strsTo vl k) G2
  apart : G1 = none ∨ G1 ≠ G2
  lo1 : ∀ g, G1 = some g → w.heap.size ≤ g
  lo2 : ∀ g, G2 = some g → w.heap.size ≤ g
  bel : Below w.heap.size w wr

theorem Got.byte {w : World} {nm vl : Nat → List UInt8} {k : Nat} {nv vv v : Value} {G1 G2 G3 : Option Nat} {wr w' : World} {xs : List Value} (h : Got w nm vl k nv vv G1 G2 wr) (ho : Own 5 wr v xs G3) (hl : ∀ g, G3 = some g → w.heap.size ≤ g) (hg : wr.grownBy w' G3) : Got w nm vl k nv vv G1 G2 w' :=
  ⟨h.names.kept hg (h.names.apart ho (by decide)), h.vals.kept hg (h.vals.apart ho (by decide)), h.apart, h.lo1, h.lo2, h.bel.trans ⟨hg.os, hg.tape, hg.output, hg.size, fun i hi => hg.block i (by have := h.bel.size; omega) (fun e => by have := hl i e.symm; omega)⟩⟩

theorem lo_next {w wr : World} {G G' : Option Nat} (hs : w.heap.size ≤ wr.heap.size) (h : ∀ g, G = some g → w.heap.size ≤ g) (hG : G' = G ∨ ∃ k, G' = some k ∧ wr.heap.size ≤ k) : ∀ g, G' = some g → w.heap.size ≤ g := by
  intro g hg
  rcases hG with e | ⟨k, e, hk⟩
  · exact h g (by rw [← e]; exact hg)
  · rw [e] at hg; simp at hg; omega

theorem apart_symm {G1 G2 : Option Nat} (h : G1 = none ∨ G1 ≠ G2) : G2 = none ∨ G2 ≠ G1 := by
  rcases h with h | h
  · cases G2 with
    | none => exact .inl rfl
    | some g => exact .inr (by rw [h]; simp)
  · exact .inr (fun e => h e.symm)

/-- Behind both appends. -/
theorem Got.next {w : World} {nm vl : Nat → List UInt8} {k : Nat} {nv vv nv' vv' : Value} {G1 G2 G1' G2' : Option Nat} {wr w1 w2 : World} (h : Got w nm vl k nv vv G1 G2 wr)
    (on1 : Own 9 w1 nv' (strsTo nm k ++ [.string ⟨(nm k).toArray⟩]) G1') (hg1 : wr.grownBy w1 G1) (hG1 : G1' = G1 ∨ ∃ g, G1' = some g ∧ wr.heap.size ≤ g)
    (on2 : Own 9 w2 vv' (strsTo vl k ++ [.string ⟨(vl k).toArray⟩]) G2') (hg2 : w1.grownBy w2 G2) (hG2 : G2' = G2 ∨ ∃ g, G2' = some g ∧ w1.heap.size ≤ g) : Got w nm vl (k + 1) nv' vv' G1' G2' w2 := by
  have hb := h.bel.size
  have ap : G1' = none ∨ G1' ≠ G2 := by
    rcases hG1 with e | ⟨g, e, hg⟩
    · rw [e]; exact h.apart
    · refine .inr fun e2 => ?_
      rw [e] at e2
      have := (e2 ▸ h.vals : Own 9 wr vv (strsTo vl k) (some g)).lt
      omega
  have b1 : Below w.heap.size w w1 := h.bel.trans ⟨hg1.os, hg1.tape, hg1.output, hg1.size, fun i hi => hg1.block i (by omega) (fun e => by have := h.lo1 i e.symm; omega)⟩
  have b2 : Below w.heap.size w w2 := b1.trans ⟨hg2.os, hg2.tape, hg2.output, hg2.size, fun i hi => hg2.block i (by have := b1.size; omega) (fun e => by have := h.lo2 i e.symm; omega)⟩
  refine ⟨by rw [strsTo_succ]; exact on1.kept hg2 ap, by rw [strsTo_succ]; exact on2, ?_, lo_next hb h.lo1 hG1, lo_next b1.size h.lo2 hG2, b2⟩
  rcases hG2 with e | ⟨g, e, hg⟩
  · rw [e]; exact ap
  · cases G1' with
    | none => exact .inl rfl
    | some g1 =>
      refine .inr fun e2 => ?_
      rw [e] at e2
      simp at e2
      have := on1.lt
      omega

theorem eo_ge (v : List UInt8) (k : Nat) : k ≤ eo v k := by
  induction k with
  | zero => exact Nat.zero_le _
  | succ k ih =>
    simp only [eo]
    split <;> omega

theorem isq_false {c : UInt8} (h : isq c = false) : c.toNat ≠ 34 ∧ c.toNat ≠ 92 := by
  unfold isq at h
  simp at h
  refine ⟨fun e => h.1 ?_, fun e => h.2 ?_⟩
  · exact UInt8.toNat_inj.1 e
  · exact UInt8.toNat_inj.1 e

/-- What zzb1Parse hands back. -/
def Parsed (w : World) (nm vl : Nat → List UInt8) (N : Nat) (e : Ending) (w' : World) : Prop := ∃ nv vv G1 G2, e = .returned (.tuple #[nv, vv, .bool true]) ∧ Own 9 w' nv (strsTo nm N) G1 ∧ Own 9 w' vv (strsTo vl N) G2 ∧ Below w.heap.size w w'

theorem parsed {w w' : World} {nm vl : Nat → List UInt8} {k N : Nat} {nv vv : Value} {G1 G2 : Option Nat} (h : Got w nm vl (k + 1) nv vv G1 G2 w') (e : k + 1 = N) : Parsed w nm vl N (.returned (.tuple #[nv, vv, .bool true])) w' := by
  subst e
  exact ⟨nv, vv, G1, G2, rfl, h.names, h.vals, h.bel⟩

theorem take_cells (v : List UInt8) (j : Nat) (hj : j < v.length) : Lib.byteCells (v.take (j + 1)) = Lib.byteCells (v.take j) ++ [.int .u8 ((v.getD j 0).toNat : Int)] := by
  rw [List.take_succ_eq_append_getElem hj, Lib.byteCells_append]
  simp [Lib.byteCells, hj]

set_option maxHeartbeats 2000000 in
set_option maxRecDepth 100000 in
theorem parse_core (h : ByteArray) (ch : Nat → Nat) (N : Nat) (nm vl : Nat → List UInt8) (pos fin : Nat → Nat) (w : World)
    (hsz : h.size ≤ 268435456) (hidx : ∀ (i : Nat) (hi : i < h.size), (h[i]'hi).toNat = ch i) (h7 : 7 ≤ h.size) (hlead : ((h.extract 0 7).toList == [66, 101, 97, 114, 101, 114, 32]) = true)
    (hN : 0 < N) (hN4 : N ≤ 4) (hp0 : Hid (pos 0 = 7)) (hseg : Hid (∀ k, k < N → Seg h.size ch (pos k) (nm k).length (vl k) (fin k)))
    (hnm : Hid (∀ k, k < N → h.extract (pos k) (pos k + (nm k).length) = ⟨(nm k).toArray⟩)) (hend : Hid (∀ k, k + 1 = N → fin k = h.size)) (hgo : Hid (∀ k, k + 1 < N → ch (fin k) = 44 ∧ fin k < h.size ∧ pos (k + 1) = fin k + 1)) :
    Calls Try.prog 10 #[.string h] w fun e w' => Parsed w nm vl N e w' := by
  have h7' : ¬ (h.size : Int) < 7 := by omega
  go_enter Try.func10, Try.ntmps10
  go_wp2
  go_loopg [5, 6, 7] N (fun n nv vv i wr => ∃ (k p : Nat) (G1 G2 : Option Nat), k < N ∧ n = N - k ∧ Hid (pos k = p) ∧ i = .int .i64 (p : Int) ∧ Got w nm vl k nv vv G1 G2 wr)
  case atStart => exact ⟨0, 7, none, none, hN, rfl, hp0, rfl, own_nil _ _, own_nil _ _, .inl rfl, fun g hg => (by cases hg), fun g hg => (by cases hg), Below.refl _ _⟩
  case round =>
    obtain ⟨k, p, G1, G2, hkN, rfl, hpk, rfl, hgot⟩ := hrel
    have sg := hseg.out k hkN
    rw [hpk.out] at sg
    obtain ⟨s1, s2, s3, s4, s5, s6, s7, s8, s9, s10⟩ := sg
    have hnmk := hnm.out k hkN
    rw [hpk.out] at hnmk
    have GOT : Hid (Got w nm vl k u5 u6 G1 G2 wr) := hgot
    have NAME : Hid (∀ j, j < (nm k).length → 97 ≤ ch (p + j) ∧ ch (p + j) ≤ 122) := s2
    have HNM : Hid (h.extract p (p + (nm k).length) = ⟨(nm k).toArray⟩) := hnmk
    have E3 : Hid (ch (p + (nm k).length) = 61) := s3
    have E4 : Hid (ch (p + (nm k).length + 1) = 34) := s4
    have E6 : Hid (∀ i, i < (vl k).length → isq ((vl k).getD i 0) = true → ch (p + (nm k).length + 2 + eo (vl k) i) = 92 ∧ ch (p + (nm k).length + 2 + eo (vl k) i + 1) = ((vl k).getD i 0).toNat ∧ p + (nm k).length + 2 + eo (vl k) i + 1 < h.size) := s6
    have E7 : Hid (∀ i, i < (vl k).length → isq ((vl k).getD i 0) = false → ch (p + (nm k).length + 2 + eo (vl k) i) = ((vl k).getD i 0).toNat ∧ p + (nm k).length + 2 + eo (vl k) i < h.size) := s7
    have E8 : Hid (ch (p + (nm k).length + 2 + eo (vl k) (vl k).length) = 34) := s8
    have E9 : Hid (fin k = p + (nm k).length + 2 + eo (vl k) (vl k).length + 1) := s9
    have hvl : (vl k).length ≤ 268435456 := by have := eo_ge (vl k) (vl k).length; omega
    clear hgot s2 s3 s4 s6 s7 s8 s9 hnmk
    go_wp2
    go_loop [7] (fun i => ∃ i0 : Nat, p ≤ i0 ∧ i0 ≤ p + (nm k).length ∧ i = .int .i64 (i0 : Int)) (fun i => p + (nm k).length - (intOf i).toNat)
    case atStart => exact ⟨p, Nat.le_refl _, by omega, rfl⟩
    case round =>
      obtain ⟨i0, q1, q2, rfl⟩ := hrel
      by_cases hlt : i0 < p + (nm k).length
      · have c0 := NAME.out (i0 - p) (by omega)
        rw [show p + (i0 - p) = i0 by omega] at c0
        have hi : (i0 : Int) < (h.size : Int) := by omega
        have c1 : (97 : Int) ≤ (ch i0 : Int) := by omega
        have c2 : (ch i0 : Int) ≤ 122 := by omega
        clear c0
        go_wp2
        go_round
        case rel => exact ⟨i0 + 1, by omega, by omega, by go_num⟩
        case measure => simp [intOf]; omega
      · have I0 : Hid (i0 = p + (nm k).length) := by unfold Hid; omega
        have hi : (i0 : Int) < (h.size : Int) := by omega
        have hi1 : (i0 : Int) + 1 < (h.size : Int) := by omega
        have d3 : ch i0 = 61 := by rw [I0.out]; exact E3.out
        have d4 : ch (i0 + 1) = 34 := by rw [I0.out]; exact E4.out
        have d0 : ((i0 : Int) == (p : Int)) = false := by simp; omega
        have dx : h.extract p i0 = ⟨(nm k).toArray⟩ := by rw [I0.out]; exact HNM.out
        have E6' : Hid (∀ i, i < (vl k).length → isq ((vl k).getD i 0) = true → ch (i0 + 2 + eo (vl k) i) = 92 ∧ ch (i0 + 2 + eo (vl k) i + 1) = ((vl k).getD i 0).toNat ∧ i0 + 2 + eo (vl k) i + 1 < h.size) := by rw [I0.out]; exact E6.out
        have E7' : Hid (∀ i, i < (vl k).length → isq ((vl k).getD i 0) = false → ch (i0 + 2 + eo (vl k) i) = ((vl k).getD i 0).toNat ∧ i0 + 2 + eo (vl k) i < h.size) := by rw [I0.out]; exact E7.out
        have E8' : Hid (ch (i0 + 2 + eo (vl k) (vl k).length) = 34) := by rw [I0.out]; exact E8.out
        have E9' : Hid (fin k = i0 + 2 + eo (vl k) (vl k).length + 1) := by rw [I0.out]; exact E9.out
        have hdz : decide ((h.size : Int) ≤ (i0 : Int) + 1) = false := by simp; omega
        clear NAME HNM E3 E4 E6 E7 E8 E9 I0
        go_wp2
        clear d3 d4 d0 dx hdz
        go_loopg [7, 10, 11] (vl k).length (fun n i v cl wr => ∃ (j i1 : Nat) (G3 : Option Nat), j ≤ (vl k).length ∧ n = (vl k).length - j ∧ Hid (i1 = i0 + 2 + eo (vl k) j) ∧ i = .int .i64 (i1 : Int) ∧ cl = .bool false ∧ Own 5 wr v (Lib.byteCells ((vl k).take j)) G3 ∧ (∀ g, G3 = some g → w.heap.size ≤ g) ∧ Got w nm vl k u5 u6 G1 G2 wr)
        case atStart => exact ⟨0, i0 + 2, none, Nat.zero_le _, rfl, rfl, by go_num, rfl, own_nil _ _, fun g hg => (by cases hg), GOT.out⟩
        case round =>
          obtain ⟨j, i1, G3, hj, rfl, I1, rfl, rfl, ov, lo, gt⟩ := hrel
          have OV : Hid (Own 5 wr u10 (Lib.byteCells ((vl k).take j)) G3) := ov
          have LO : Hid (∀ g, G3 = some g → w.heap.size ≤ g) := lo
          have GT : Hid (Got w nm vl k u5 u6 G1 G2 wr) := gt
          have htl : ((vl k).take j).length ≤ (vl k).length := by simp; omega
          clear ov lo gt GOT
          by_cases hjl : j < (vl k).length
          · clear hj
            have hj := hjl
            cases hq : isq ((vl k).getD j 0) with
            | true =>
              obtain ⟨y1, y2, y3⟩ := E6'.out j hj hq
              rw [← I1.out] at y1 y2 y3
              have QQ : Hid (isq ((vl k).getD j 0) = true) := hq
              have hi : (i1 : Int) < (h.size : Int) := by omega
              have hi1 : (i1 : Int) + 1 < (h.size : Int) := by omega
              have hcc : (vl k).getD j 0 = 34 ∨ (vl k).getD j 0 = 92 := by
                unfold isq at hq
                simpa using hq
              clear hq E6' E7'
              rcases hcc with hcase | hcase
              · have CQ : Hid (((vl k).getD j 0).toNat = 34) := by unfold Hid; rw [hcase]; rfl
                have m2 : ch (i1 + 1) = 34 := by rw [y2]; exact CQ.out
                clear y2 hcase
                go_wp2_with (at_builtin; refine wpList_push_bytes rfl (.tmp 101) (.tmp 106) rfl wr #[.int .u8 34] u10 _ G3 rfl rfl OV.out (by simp) (by intro u hu; simp at hu; subst hu; rfl) (by rw [Lib.byteCells_length]; simp; omega) ?_; intro v5 w5 G5 on5 hg5 hG5)
                have o5 : Own 5 w5 v5 (Lib.byteCells ((vl k).take (j + 1))) G5 := by rw [take_cells (vl k) j hj, CQ.out]; exact on5
                have g5 := GT.out.byte OV.out LO.out hg5
                have lo5 := lo_next GT.out.bel.size LO.out hG5
                have I5 : Hid (i1 + 2 = i0 + 2 + eo (vl k) (j + 1)) := by
                  unfold Hid
                  show _ = i0 + 2 + (eo (vl k) j + if isq ((vl k).getD j 0) then 2 else 1)
                  rw [QQ.out]
                  have := I1.out
                  simp
                  omega
                have O5 : Hid (Own 5 w5 v5 (Lib.byteCells ((vl k).take (j + 1))) G5) := o5
                have GG5 : Hid (Got w nm vl k u5 u6 G1 G2 w5) := g5
                have LL5 : Hid (∀ g, G5 = some g → w.heap.size ≤ g) := lo5
                clear on5 hg5 hG5 o5 g5 lo5 GT OV LO
                go_wp2
                go_roundg ((vl k).length - (j + 1))
                case rel => exact ⟨j + 1, i1 + 2, G5, hj, rfl, I5, by go_num, rfl, O5.out, LL5.out, GG5.out⟩
                case measure => omega
              · have CQ : Hid (((vl k).getD j 0).toNat = 92) := by unfold Hid; rw [hcase]; rfl
                have m2 : ch (i1 + 1) = 92 := by rw [y2]; exact CQ.out
                clear y2 hcase
                go_wp2_with (at_builtin; refine wpList_push_bytes rfl (.tmp 101) (.tmp 106) rfl wr #[.int .u8 92] u10 _ G3 rfl rfl OV.out (by simp) (by intro u hu; simp at hu; subst hu; rfl) (by rw [Lib.byteCells_length]; simp; omega) ?_; intro v5 w5 G5 on5 hg5 hG5)
                have o5 : Own 5 w5 v5 (Lib.byteCells ((vl k).take (j + 1))) G5 := by rw [take_cells (vl k) j hj, CQ.out]; exact on5
                have g5 := GT.out.byte OV.out LO.out hg5
                have lo5 := lo_next GT.out.bel.size LO.out hG5
                have I5 : Hid (i1 + 2 = i0 + 2 + eo (vl k) (j + 1)) := by
                  unfold Hid
                  show _ = i0 + 2 + (eo (vl k) j + if isq ((vl k).getD j 0) then 2 else 1)
                  rw [QQ.out]
                  have := I1.out
                  simp
                  omega
                have O5 : Hid (Own 5 w5 v5 (Lib.byteCells ((vl k).take (j + 1))) G5) := o5
                have GG5 : Hid (Got w nm vl k u5 u6 G1 G2 w5) := g5
                have LL5 : Hid (∀ g, G5 = some g → w.heap.size ≤ g) := lo5
                clear on5 hg5 hG5 o5 g5 lo5 GT OV LO
                go_wp2
                go_roundg ((vl k).length - (j + 1))
                case rel => exact ⟨j + 1, i1 + 2, G5, hj, rfl, I5, by go_num, rfl, O5.out, LL5.out, GG5.out⟩
                case measure => omega
            | false =>
              obtain ⟨y1, y2⟩ := E7'.out j hj hq
              rw [← I1.out] at y1 y2
              have QQ : Hid (isq ((vl k).getD j 0) = false) := hq
              have hi : (i1 : Int) < (h.size : Int) := by omega
              have t1 : ((ch i1 : Int) == 34) = false := by have := (isq_false hq).1; simp; omega
              have t2 : ((ch i1 : Int) == 92) = false := by have := (isq_false hq).2; simp; omega
              have CQ : Hid ((((vl k).getD j 0).toNat : Int) = (ch i1 : Int)) := by unfold Hid; rw [y1]
              clear hq E6' E7' y1
              go_wp2_with (at_builtin; refine wpList_push_bytes rfl (.tmp 110) (.tmp 112) rfl wr #[.int .u8 (ch i1 : Int)] u10 _ G3 rfl rfl OV.out (by simp) (by intro u hu; simp at hu; subst hu; rfl) (by rw [Lib.byteCells_length]; simp; omega) ?_; intro v5 w5 G5 on5 hg5 hG5)
              have o5 : Own 5 w5 v5 (Lib.byteCells ((vl k).take (j + 1))) G5 := by rw [take_cells (vl k) j hj, CQ.out]; exact on5
              have g5 := GT.out.byte OV.out LO.out hg5
              have lo5 := lo_next GT.out.bel.size LO.out hG5
              have I5 : Hid (i1 + 1 = i0 + 2 + eo (vl k) (j + 1)) := by
                unfold Hid
                show _ = i0 + 2 + (eo (vl k) j + if isq ((vl k).getD j 0) then 2 else 1)
                rw [QQ.out]
                have := I1.out
                simp
                omega
              have O5 : Hid (Own 5 w5 v5 (Lib.byteCells ((vl k).take (j + 1))) G5) := o5
              have GG5 : Hid (Got w nm vl k u5 u6 G1 G2 w5) := g5
              have LL5 : Hid (∀ g, G5 = some g → w.heap.size ≤ g) := lo5
              clear on5 hg5 hG5 o5 g5 lo5 GT OV LO
              go_wp2
              go_roundg ((vl k).length - (j + 1))
              case rel => exact ⟨j + 1, i1 + 1, G5, hj, rfl, I5, by go_num, rfl, O5.out, LL5.out, GG5.out⟩
              case measure => omega
          · have hje : j = (vl k).length := by omega
            have i1e : Hid (i1 + 1 = fin k) := by unfold Hid; rw [E9'.out, I1.out, hje]
            have y1 : ch i1 = 34 := by rw [I1.out, hje]; exact E8'.out
            have hi : (i1 : Int) < (h.size : Int) := by have := i1e.out; omega
            have ovl : Own 5 wr u10 (Lib.byteCells (vl k)) G3 := by
              have := OV.out
              rw [hje, List.take_length] at this
              exact this
            have OVL : Hid (Own 5 wr u10 (Lib.byteCells (vl k)) G3) := ovl
            clear ovl OV hje E6' E7' E8' E9'
            by_cases hlast : k + 1 = N
            · have e2 : ((i1 : Int) + 1 == (h.size : Int)) = true := by have a := i1e.out; have b := hend.out k hlast; simp; omega
              go_wp2_with (first
                | (at_builtin; refine wpList_push_str rfl (.tmp 118) (.tmp 120) rfl wr ⟨(nm k).toArray⟩ u5 _ G1 rfl rfl GT.out.names (by rw [strsTo_len]; omega) ?_; intro nv' w1 G1' on1 hg1 hG1; have ON1 : Hid (Own 9 w1 nv' (strsTo nm k ++ [.string ⟨(nm k).toArray⟩]) G1') := on1; have HG1 : Hid (wr.grownBy w1 G1) := hg1; have HH1 : Hid (G1' = G1 ∨ ∃ g, G1' = some g ∧ wr.heap.size ≤ g) := hG1; have vals1 : Hid (Own 9 w1 u6 (strsTo vl k) G2) := GT.out.vals.kept hg1 (apart_symm GT.out.apart); have hcv := conv_own (OVL.out.kept hg1 (OVL.out.apart GT.out.names (by decide))); clear on1 hg1 hG1)
                | (at_builtin; refine wpList_push_str rfl (.tmp 122) (.tmp 125) rfl w1 ⟨(vl k).toArray⟩ u6 _ G2 rfl rfl vals1.out (by rw [strsTo_len]; omega) ?_; intro vv' w2 G2' on2 hg2 hG2; have G9 : Hid (Got w nm vl (k + 1) nv' vv' G1' G2' w2) := GT.out.next ON1.out HG1.out HH1.out on2 hg2 hG2; clear on2 hg2 hG2))
              go_ret3
              exact parsed G9.out hlast
            · obtain ⟨z1, z2, z3⟩ := hgo.out k (by omega)
              have e2 : ((i1 : Int) + 1 == (h.size : Int)) = false := by have a := i1e.out; simp; omega
              have e3 : ch (i1 + 1) = 44 := by rw [i1e.out]; exact z1
              have hi1 : (i1 : Int) + 1 < (h.size : Int) := by have a := i1e.out; omega
              have P9 : Hid (pos (k + 1) = i1 + 1 + 1) := by unfold Hid; rw [z3, ← i1e.out]
              clear z1 z2 z3
              go_wp2_with (first
                | (at_builtin; refine wpList_push_str rfl (.tmp 118) (.tmp 120) rfl wr ⟨(nm k).toArray⟩ u5 _ G1 rfl rfl GT.out.names (by rw [strsTo_len]; omega) ?_; intro nv' w1 G1' on1 hg1 hG1; have ON1 : Hid (Own 9 w1 nv' (strsTo nm k ++ [.string ⟨(nm k).toArray⟩]) G1') := on1; have HG1 : Hid (wr.grownBy w1 G1) := hg1; have HH1 : Hid (G1' = G1 ∨ ∃ g, G1' = some g ∧ wr.heap.size ≤ g) := hG1; have vals1 : Hid (Own 9 w1 u6 (strsTo vl k) G2) := GT.out.vals.kept hg1 (apart_symm GT.out.apart); have hcv := conv_own (OVL.out.kept hg1 (OVL.out.apart GT.out.names (by decide))); clear on1 hg1 hG1)
                | (at_builtin; refine wpList_push_str rfl (.tmp 122) (.tmp 125) rfl w1 ⟨(vl k).toArray⟩ u6 _ G2 rfl rfl vals1.out (by rw [strsTo_len]; omega) ?_; intro vv' w2 G2' on2 hg2 hG2; have G9 : Hid (Got w nm vl (k + 1) nv' vv' G1' G2' w2) := GT.out.next ON1.out HG1.out HH1.out on2 hg2 hG2; clear on2 hg2 hG2))
              go_roundg (N - (k + 1))
              case rel => exact ⟨k + 1, i1 + 2, G1', G2', by omega, rfl, P9, by go_num, G9.out⟩
              case measure => omega

end Go.Proofs.Qxb6628251a
