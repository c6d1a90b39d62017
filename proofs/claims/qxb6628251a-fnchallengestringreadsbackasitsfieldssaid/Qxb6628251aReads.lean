/- The walk of FnChallengeStringReadsBackAsItsFields. -/
import Derived.Test.Qxb6628251aWant
import Derived.Test.Qxb6628251aBytesA
namespace Go.Proofs.Qxb6628251a
open Go.RowKit

/-- 'zzb1Scopes' at any types: the scopes. -/
theorem scopes_any' (a0 a1 a2 : Option Addr) (n c0 c1 c2 : Nat) (tt nn : Nat → ByteArray) (g : Nat → Sl) (ff : Nat → Nat → ByteArray) (w : World) (hl : n ≤ 1048576) (h0 : a0 = none → n = 0 ∧ c0 = 0) (s0 : Strs w a0 n tt) (s1 : Strs w a1 n nn) (s2 : Nest w a2 n g ff) (hg : ∀ i, i < n → (g i).len ≤ (g i).cap) :
    Calls Try.prog 8 #[.slice a0 n c0, .slice a1 n c1, .slice a2 n c2] w fun e w' => ∃ a' : Option Addr, e = .returned (.slice a' n n) ∧ (a' = none → n = 0) ∧ Scs w' a' n tt nn g ff ∧ Below w.heap.size w w' := by
  cases a0 with
  | none =>
    obtain ⟨rfl, rfl⟩ := h0 rfl
    refine (scopes_nil _ _ w).mono ?_
    rintro e w1 ⟨rfl, rfl⟩
    exact ⟨none, rfl, fun _ => rfl, .inl rfl, Below.refl _ _⟩
  | some x =>
    refine (scopes_some x n c0 c1 c2 a1 a2 tt nn g ff w hl s0 s1 s2 hg).mono ?_
    rintro e w1 ⟨rfl, h1, h2⟩
    exact ⟨_, rfl, fun h => (by cases h), h1, h2⟩

/-- 'append(v, s)' of a string, the new block's number spelt apart. -/
theorem wpList_push_at {ops : Array Oper} {rest : List Oper} {o : Oper} {a : Act} {Q : Exit → Act → World → Prop} (hgd : o.guard = none) (s x : Operand) (ho : o.op = .call { callee := .builtin .append, args := #[s, x], argTypes := #[22, 22] })
    (w0 : World) (k : Nat) (hk : k = w0.heap.size) (b : ByteArray) (v : Value) (xs : List Value) (G : Option Nat) (hs : a.eval s = v) (hx : a.eval x = .slice (some ⟨k, 0, none⟩) 1 1) (hown : Own 9 w0 v xs G)
    (h63 : xs.length + 1 ≤ 1099511627776)
    (h : ∀ v' w' G', Own 9 w' v' (xs ++ [.string b]) G' → w0.grownBy w' G → (G' = G ∨ ∃ k, G' = some k ∧ w0.heap.size ≤ k) → wpList Try.prog ops Q rest (a.put o.dst v') w') : wpList Try.prog ops Q (o :: rest) a (w0.alloc (.cells #[.string b] 9)) := by
  subst hk
  exact wpList_push_str hgd s x ho w0 b v xs G hs hx hown h63 h

/-- zzb1EqualStrs at a row that is owned. -/
theorem equal_own (f : Nat → List UInt8) (N : Nat) (a : Option Addr) (c : Nat) (v : Value) (G : Option Nat) (w : World) (hN : N ≤ 4) (hs : Strs w a N (fnOf f)) (ho : Own 9 w v (strsTo f N) G) :
    Calls Try.prog 13 #[.slice a N c, v] w fun e w' => e = .returned (.bool true) ∧ Below w.heap.size w w' := by
  obtain ⟨b, d, rfl, hb⟩ := own_strsTo ho
  exact equalStrs_yes a b N c d (fnOf f) w (by omega) hs hb

theorem fits_one {n : Nat} {tt nn : Nat → ByteArray} {g : Nat → Sl} {ff : Nat → Nat → ByteArray} (h : listSum n tt n nn n g ff ≤ 1048576) : Fits n tt nn g ff := by
  have z : listSum 0 tt 0 nn 0 g ff = 0 := by simp [listSum, sum, sums]
  exact (Fits.cat (m := 0) (tb := tt) (nb := nn) (gb := g) (fb := ff) (by omega)).1

set_option maxHeartbeats 4000000 in
set_option maxRecDepth 100000 in
theorem reads_uneq (realm service err : ByteArray) (aT aN aA : Option Addr) (n nN nA cT cN cA : Nat) (tt nn : Nat → ByteArray) (g : Nat → Sl) (ff : Nat → Nat → ByteArray) (w : World)
    (M1 : n ≤ maxLen) (M2 : nN ≤ maxLen) (M3 : nA ≤ maxLen) (MG : Hid (∀ i, i < nA → (g i).len ≤ maxLen)) (SA1 : Hid (Strs w aT n tt)) (SA2 : Hid (Strs w aN nN nn)) (SA3 : Hid (Nest w aA nA g ff))
    (hne : ¬ (n = nN ∧ n = nA)) :
    Calls Try.prog 3 #[.string realm, .string service, .slice aT n cT, .slice aN nN cN, .slice aA nA cA, .string err] w fun e w' => e = .returned (.bool true) ∧ Below w.heap.size w w' := by
  go_enter Try.func3, Try.ntmps3
  go_wp2_with fail
  refine (bytes5_any realm service aT n cT tt aN nN cN nn aA nA cA g ff err w SA1.out SA2.out SA3.out).mono ?_
  rintro e w' ⟨⟨b0, rfl⟩, rfl⟩
  cases b0 with
  | false =>
    go_wp2
    go_ret
    exact ⟨rfl, Below.refl _ _⟩
  | true =>
  go_wp2_with fail
  refine (add_any 0 realm.size _ (by omega) (by omega) (by omega)).mono ?_
  rintro e w9 ⟨⟨u1, ok1, rfl, h1⟩, rfl⟩
  cases ok1 with
  | false =>
    clear h1
    go_wp2
    go_ret
    exact ⟨rfl, Below.refl _ _⟩
  | true =>
  have H1 : Hid (u1 = 0 + (realm.size : Int)) := (h1 rfl).1
  have l1 : u1 ≤ 1048576 := (h1 rfl).2
  have g1 : 0 ≤ u1 := by have := H1.out; omega
  clear h1
  go_wp2_with fail
  refine (add_any u1 service.size _ g1 l1 (by omega)).mono ?_
  rintro e w9 ⟨⟨u2, ok2, rfl, h2⟩, rfl⟩
  cases ok2 with
  | false =>
    clear h2
    go_wp2
    go_ret
    exact ⟨rfl, Below.refl _ _⟩
  | true =>
  have H2 : Hid (u2 = u1 + (service.size : Int)) := (h2 rfl).1
  have l2 : u2 ≤ 1048576 := (h2 rfl).2
  have g2 : 0 ≤ u2 := by have := H2.out; omega
  clear h2
  go_wp2_with fail
  refine (add_any u2 err.size _ g2 l2 (by omega)).mono ?_
  rintro e w9 ⟨⟨u3, ok3, rfl, h3⟩, rfl⟩
  cases ok3 with
  | false =>
    clear h3
    go_wp2
    go_ret
    exact ⟨rfl, Below.refl _ _⟩
  | true =>
  have H3 : Hid (u3 = u2 + (err.size : Int)) := (h3 rfl).1
  have l3 : u3 ≤ 1048576 := (h3 rfl).2
  have g3 : 0 ≤ u3 := by have := H3.out; omega
  clear h3
  go_wp2_with fail
  refine (scopesFit_any u3 aT aN aA n cT nN cN nA cA tt nn g ff _ g3 l3 M1 M2 M3 MG.out SA1.out SA2.out SA3.out).mono ?_
  rintro e w9 ⟨⟨u4, ok4, rfl, h4⟩, rfl⟩
  cases ok4 with
  | false =>
    clear h4
    go_wp2
    go_ret
    exact ⟨rfl, Below.refl _ _⟩
  | true =>
  have H4 : Hid (u4 = u3 + (listSum n tt nN nn nA g ff : Nat)) := (h4 rfl).1
  have l4 : u4 ≤ 1048576 := (h4 rfl).2
  have g4 : 0 ≤ u4 := by have := H4.out; omega
  clear h4
  clear H1 H2 H3 H4 MG SA1 SA2 SA3 M1 M2 M3
  by_cases e1 : n = nN
  · have f1 : ((n : Int) != (nN : Int)) = false := by simp [e1]
    have f2 : ((n : Int) != (nA : Int)) = true := by rw [bne_iff_ne]; omega
    clear e1 hne
    go_wp2
    go_ret
    exact ⟨rfl, Below.refl _ _⟩
  · have f1 : ((n : Int) != (nN : Int)) = true := by rw [bne_iff_ne]; omega
    clear e1 hne
    go_wp2
    go_ret
    exact ⟨rfl, Below.refl _ _⟩


set_option maxHeartbeats 4000000 in
set_option maxRecDepth 100000 in
theorem reads_nn (realm service err : ByteArray) (aT aN aA : Option Addr) (n cT cN cA : Nat) (tt nn : Nat → ByteArray) (g : Nat → Sl) (ff : Nat → Nat → ByteArray) (w : World)
    (M1 : n ≤ maxLen) (M2 : n ≤ maxLen) (M3 : n ≤ maxLen) (MG : Hid (∀ i, i < n → (g i).len ≤ maxLen)) (SA1 : Hid (Strs w aT n tt)) (SA2 : Hid (Strs w aN n nn)) (SA3 : Hid (Nest w aA n g ff))
    (G1 : Hid (∀ i, i < n → (g i).len ≤ (g i).cap)) (N1 : Hid (aT = none → n = 0 ∧ cT = 0)) (hn : n ≤ 0) (he : err.size ≤ 0) :
    Calls Try.prog 3 #[.string realm, .string service, .slice aT n cT, .slice aN n cN, .slice aA n cA, .string err] w fun e w' => e = .returned (.bool true) ∧ Below w.heap.size w w' := by
  go_enter Try.func3, Try.ntmps3
  go_wp2_with fail
  refine (bytes5_any realm service aT n cT tt aN n cN nn aA n cA g ff err w SA1.out SA2.out SA3.out).mono ?_
  rintro e w' ⟨⟨b0, rfl⟩, rfl⟩
  cases b0 with
  | false =>
    go_wp2
    go_ret
    exact ⟨rfl, Below.refl _ _⟩
  | true =>
  go_wp2_with fail
  refine (add_any 0 realm.size _ (by omega) (by omega) (by omega)).mono ?_
  rintro e w9 ⟨⟨u1, ok1, rfl, h1⟩, rfl⟩
  cases ok1 with
  | false =>
    clear h1
    go_wp2
    go_ret
    exact ⟨rfl, Below.refl _ _⟩
  | true =>
  have H1 : Hid (u1 = 0 + (realm.size : Int)) := (h1 rfl).1
  have l1 : u1 ≤ 1048576 := (h1 rfl).2
  have g1 : 0 ≤ u1 := by have := H1.out; omega
  clear h1
  go_wp2_with fail
  refine (add_any u1 service.size _ g1 l1 (by omega)).mono ?_
  rintro e w9 ⟨⟨u2, ok2, rfl, h2⟩, rfl⟩
  cases ok2 with
  | false =>
    clear h2
    go_wp2
    go_ret
    exact ⟨rfl, Below.refl _ _⟩
  | true =>
  have H2 : Hid (u2 = u1 + (service.size : Int)) := (h2 rfl).1
  have l2 : u2 ≤ 1048576 := (h2 rfl).2
  have g2 : 0 ≤ u2 := by have := H2.out; omega
  clear h2
  go_wp2_with fail
  refine (add_any u2 err.size _ g2 l2 (by omega)).mono ?_
  rintro e w9 ⟨⟨u3, ok3, rfl, h3⟩, rfl⟩
  cases ok3 with
  | false =>
    clear h3
    go_wp2
    go_ret
    exact ⟨rfl, Below.refl _ _⟩
  | true =>
  have H3 : Hid (u3 = u2 + (err.size : Int)) := (h3 rfl).1
  have l3 : u3 ≤ 1048576 := (h3 rfl).2
  have g3 : 0 ≤ u3 := by have := H3.out; omega
  clear h3
  go_wp2_with fail
  refine (scopesFit_any u3 aT aN aA n cT n cN n cA tt nn g ff _ g3 l3 M1 M2 M3 MG.out SA1.out SA2.out SA3.out).mono ?_
  rintro e w9 ⟨⟨u4, ok4, rfl, h4⟩, rfl⟩
  cases ok4 with
  | false =>
    clear h4
    go_wp2
    go_ret
    exact ⟨rfl, Below.refl _ _⟩
  | true =>
  have H4 : Hid (u4 = u3 + (listSum n tt n nn n g ff : Nat)) := (h4 rfl).1
  have l4 : u4 ≤ 1048576 := (h4 rfl).2
  have g4 : 0 ≤ u4 := by have := H4.out; omega
  clear h4
  have hreal : realm.size ≤ 1048576 := by have := H1.out; omega
  have hserv : service.size ≤ 1048576 := by have := H2.out; omega
  have herr : err.size ≤ 1048576 := by have := H3.out; omega
  have FA : Fits n tt nn g ff := fits_one (by have := H4.out; omega)
  have HA : Hid (Fits n tt nn g ff) := FA
  have hn20 : n ≤ 1048576 := FA.2.1
  have hL := FA.text.1
  clear FA H1 H2 H3 H4 l1 l2 l3 l4 g1 g2 g3 g4 MG M1 M2 M3
  have f1 : ((n : Int) != (n : Int)) = false := by simp
  have hn0 : ¬ (0 : Int) < (n : Int) := by omega
  have hemp : err.toList.isEmpty = true := by
    have e1 : err.toList.length = err.size := by rw [ByteArray.toList_eq]; rfl
    cases h : err.toList with
    | nil => rw [h] at e1; simp at e1; rfl
    | cons c r => rw [h] at e1; simp at e1; omega
  -- the header and its pairs
  obtain ⟨gB, egB⟩ : ∃ gB : ByteArray, ⟨(header realm service n (listText n tt nn g ff) err).toArray⟩ = gB := ⟨_, rfl⟩
  have EG : Hid (⟨(header realm service n (listText n tt nn g ff) err).toArray⟩ = gB) := egB
  clear egB
  obtain ⟨nm, enm⟩ : ∃ nm : Nat → List UInt8, (fun i => (NS false false).getD i []) = nm := ⟨_, rfl⟩
  obtain ⟨vl, evl⟩ : ∃ vl : Nat → List UInt8, (fun i => (VS false false (canon realm.data.toList) (canon service.data.toList) (canon (listText n tt nn g ff)) (canon err.data.toList)).getD i []) = vl := ⟨_, rfl⟩
  have PARSE : Hid (∀ W, Calls Try.prog 10 #[.string gB] W fun e w' => ∃ (a1 : Option Addr) (c1 : Nat) (a2 : Option Addr) (c2 : Nat), e = .returned (.tuple #[.slice a1 2 c1, .slice a2 2 c2, .bool true]) ∧ Strs w' a1 2 (fnOf nm) ∧ Strs w' a2 2 (fnOf vl) ∧ Below W.heap.size W w') := by
    intro W
    have hp := header_pairs false false realm service err n (listText n tt nn g ff) (by constructor <;> intro h <;> first | rfl | omega | cases h) (by constructor <;> intro h <;> first | rfl | omega | cases h)
    obtain ⟨q1, q2, q3⟩ := header_len realm service err (listText n tt nn g ff) hreal hserv herr hL
    have hlen : (header realm service n (listText n tt nn g ff) err).length ≤ 268435456 := by
      unfold header scopesP scopeP param
      simp only [List.length_append]
      split <;> simp <;> omega
    rw [enm, evl] at hp
    rw [← EG.out]
    rw [hp] at hlen ⊢
    exact parse_strs nm vl 2 W (by decide) (by decide) (by rw [← enm]; exact NS_ok false false) hlen
  obtain ⟨cr, ecr⟩ : ∃ cr : ByteArray, ⟨(canon realm.data.toList).toArray⟩ = cr := ⟨_, rfl⟩
  obtain ⟨cs, ecs⟩ : ∃ cs : ByteArray, ⟨(canon service.data.toList).toArray⟩ = cs := ⟨_, rfl⟩
  obtain ⟨cl, ecl⟩ : ∃ cl : ByteArray, ⟨(canon (listText n tt nn g ff)).toArray⟩ = cl := ⟨_, rfl⟩
  obtain ⟨ce, ece⟩ : ∃ ce : ByteArray, ⟨(canon err.data.toList).toArray⟩ = ce := ⟨_, rfl⟩
  have CR : Hid (∀ W, Calls Try.prog 11 #[.string realm] W fun e w' => e = .returned (.string cr) ∧ Below W.heap.size W w') := fun W => by rw [← ecr]; exact canon_any realm W (by omega)
  have CS : Hid (∀ W, Calls Try.prog 11 #[.string service] W fun e w' => e = .returned (.string cs) ∧ Below W.heap.size W w') := fun W => by rw [← ecs]; exact canon_any service W (by omega)
  have CE : Hid (∀ W, Calls Try.prog 11 #[.string err] W fun e w' => e = .returned (.string ce) ∧ Below W.heap.size W w') := fun W => by rw [← ece]; exact canon_any err W (by omega)
  have CL : Hid (∀ W, Calls Try.prog 11 #[.string ⟨(listText n tt nn g ff).toArray⟩] W fun e w' => e = .returned (.string cl) ∧ Below W.heap.size W w') := fun W => by rw [← ecl]; exact canon_any ⟨(listText n tt nn g ff).toArray⟩ W (by rw [ba_size]; omega)
  have SN : Hid (strsTo nm 2 = [.string ⟨#[114, 101, 97, 108, 109]⟩, .string ⟨#[115, 101, 114, 118, 105, 99, 101]⟩]) := by unfold Hid; rw [← enm]; rfl
  have SV : Hid (strsTo vl 2 = [.string cr, .string cs]) := by unfold Hid; rw [← evl, ← ecr, ← ecs]; rfl
  clear enm evl ecr ecs ecl ece
  go_wp2_with fail
  refine (scopes_any' aT aN aA n cT cN cA tt nn g ff _ hn20 N1.out SA1.out SA2.out SA3.out G1.out).mono ?_
  rintro e w1 ⟨pa, rfl, hpa, sca, hb1⟩
  have SA : Hid (Scs w1 pa n tt nn g ff) := sca
  have B1 : Hid (Below w9.heap.size w9 w1) := hb1
  clear sca hpa hb1 G1 N1
  go_wp2_with fail
  refine (chal_any realm service err pa n n tt nn g ff _ hreal hserv herr HA.out (SA.out.below ((Below.refl _ _).alloc (Nat.le_refl _) _))).mono ?_
  rintro e w2 ⟨rfl, hb2⟩
  rw [EG.out]
  have B2 : Hid (Below w9.heap.size w9 w2) := (B1.out.alloc (by have := B1.out.size; omega) _).trans (hb2.mono (by have := B1.out.size; simp; omega))
  clear hb2 SA B1
  go_wp2_with fail
  refine (PARSE.out _).mono ?_
  rintro e w3 ⟨a1, c1, a2, c2, rfl, st1, st2, hb3⟩
  have B3 : Hid (Below w9.heap.size w9 w3) := B2.out.trans (hb3.mono B2.out.size)
  have ST1 : Hid (Strs w3 a1 2 (fnOf nm)) := st1
  have ST2 : Hid (Strs w3 a2 2 (fnOf vl)) := st2
  clear st1 st2 hb3 PARSE B2 EG
  have N0 : Hid (Own 9 (w3.alloc (.cells #[.string ⟨#[114, 101, 97, 108, 109]⟩, .string ⟨#[115, 101, 114, 118, 105, 99, 101]⟩] 9)) (.slice (some ⟨w3.heap.size, 0, none⟩) 2 2) [.string ⟨#[114, 101, 97, 108, 109]⟩, .string ⟨#[115, 101, 114, 118, 105, 99, 101]⟩] (some w3.heap.size)) := own_built w3 #[.string ⟨#[114, 101, 97, 108, 109]⟩, .string ⟨#[115, 101, 114, 118, 105, 99, 101]⟩] 2 rfl (by omega)
  go_wp2_with fail
  refine (CR.out _).mono ?_
  rintro e w4 ⟨rfl, hb4⟩
  have N4 : Hid (Own 9 w4 (.slice (some ⟨w3.heap.size, 0, none⟩) 2 2) [.string ⟨#[114, 101, 97, 108, 109]⟩, .string ⟨#[115, 101, 114, 118, 105, 99, 101]⟩] (some w3.heap.size)) := N0.out.below hb4
  have b4 : Below w3.heap.size w3 w4 := ((Below.refl _ w3).alloc (Nat.le_refl _) _).trans (hb4.mono (by simp))
  have BB4 : Hid (Below w3.heap.size w3 w4) := b4
  clear hb4 N0 b4
  go_wp2_with fail
  refine (CS.out _).mono ?_
  rintro e w5 ⟨rfl, hb5⟩
  have N5 : Hid (Own 9 w5 (.slice (some ⟨w3.heap.size, 0, none⟩) 2 2) [.string ⟨#[114, 101, 97, 108, 109]⟩, .string ⟨#[115, 101, 114, 118, 105, 99, 101]⟩] (some w3.heap.size)) := N4.out.below hb5
  have BB5 : Hid (Below w3.heap.size w3 w5) := BB4.out.trans (hb5.mono BB4.out.size)
  clear hb5 N4 BB4
  have W0 : Hid (Want w3 [.string ⟨#[114, 101, 97, 108, 109]⟩, .string ⟨#[115, 101, 114, 118, 105, 99, 101]⟩] [.string cr, .string cs] (.slice (some ⟨w3.heap.size, 0, none⟩) 2 2) (.slice (some ⟨w5.heap.size, 0, none⟩) 2 2) (some w3.heap.size) (some w5.heap.size) (w5.alloc (.cells #[.string cr, .string cs] 9))) :=
    ⟨N5.out.alloc _, own_built w5 #[.string cr, .string cs] 2 rfl (by omega), .inr (fun e => by have h1 := N5.out.lt; simp at e; omega), fun g hg => by simp at hg; omega, fun g hg => by have := BB5.out.size; simp at hg; omega, BB5.out.alloc BB5.out.size _⟩
  clear N5 BB5 CR CS
  go_wp2_with fail
  refine (equal_own nm 2 a1 c1 (.slice (some ⟨w3.heap.size, 0, none⟩) 2 2) (some w3.heap.size) _ (by omega) (ST1.out.below W0.out.bel) (by rw [SN.out]; exact W0.out.names)).mono ?_
  rintro e wy ⟨rfl, hby⟩
  have Wy : Hid (Want w3 [.string ⟨#[114, 101, 97, 108, 109]⟩, .string ⟨#[115, 101, 114, 118, 105, 99, 101]⟩] [.string cr, .string cs] (.slice (some ⟨w3.heap.size, 0, none⟩) 2 2) (.slice (some ⟨w5.heap.size, 0, none⟩) 2 2) (some w3.heap.size) (some w5.heap.size) wy) := W0.out.call hby
  clear hby W0 ST1
  go_wp2_with fail
  refine (equal_own vl 2 a2 c2 (.slice (some ⟨w5.heap.size, 0, none⟩) 2 2) (some w5.heap.size) _ (by omega) (ST2.out.below Wy.out.bel) (by rw [SV.out]; exact Wy.out.vals)).mono ?_
  rintro e wz ⟨rfl, hbz⟩
  have BZ : Hid (Below w9.heap.size w9 wz) := B3.out.trans ((Wy.out.call hbz).bel.mono B3.out.size)
  clear hbz Wy ST2
  go_wp2
  go_ret
  exact ⟨rfl, BZ.out⟩


set_option maxHeartbeats 4000000 in
set_option maxRecDepth 100000 in
theorem reads_ne (realm service err : ByteArray) (aT aN aA : Option Addr) (n cT cN cA : Nat) (tt nn : Nat → ByteArray) (g : Nat → Sl) (ff : Nat → Nat → ByteArray) (w : World)
    (M1 : n ≤ maxLen) (M2 : n ≤ maxLen) (M3 : n ≤ maxLen) (MG : Hid (∀ i, i < n → (g i).len ≤ maxLen)) (SA1 : Hid (Strs w aT n tt)) (SA2 : Hid (Strs w aN n nn)) (SA3 : Hid (Nest w aA n g ff))
    (G1 : Hid (∀ i, i < n → (g i).len ≤ (g i).cap)) (N1 : Hid (aT = none → n = 0 ∧ cT = 0)) (hn : n ≤ 0) (he : 0 < err.size) :
    Calls Try.prog 3 #[.string realm, .string service, .slice aT n cT, .slice aN n cN, .slice aA n cA, .string err] w fun e w' => e = .returned (.bool true) ∧ Below w.heap.size w w' := by
  go_enter Try.func3, Try.ntmps3
  go_wp2_with fail
  refine (bytes5_any realm service aT n cT tt aN n cN nn aA n cA g ff err w SA1.out SA2.out SA3.out).mono ?_
  rintro e w' ⟨⟨b0, rfl⟩, rfl⟩
  cases b0 with
  | false =>
    go_wp2
    go_ret
    exact ⟨rfl, Below.refl _ _⟩
  | true =>
  go_wp2_with fail
  refine (add_any 0 realm.size _ (by omega) (by omega) (by omega)).mono ?_
  rintro e w9 ⟨⟨u1, ok1, rfl, h1⟩, rfl⟩
  cases ok1 with
  | false =>
    clear h1
    go_wp2
    go_ret
    exact ⟨rfl, Below.refl _ _⟩
  | true =>
  have H1 : Hid (u1 = 0 + (realm.size : Int)) := (h1 rfl).1
  have l1 : u1 ≤ 1048576 := (h1 rfl).2
  have g1 : 0 ≤ u1 := by have := H1.out; omega
  clear h1
  go_wp2_with fail
  refine (add_any u1 service.size _ g1 l1 (by omega)).mono ?_
  rintro e w9 ⟨⟨u2, ok2, rfl, h2⟩, rfl⟩
  cases ok2 with
  | false =>
    clear h2
    go_wp2
    go_ret
    exact ⟨rfl, Below.refl _ _⟩
  | true =>
  have H2 : Hid (u2 = u1 + (service.size : Int)) := (h2 rfl).1
  have l2 : u2 ≤ 1048576 := (h2 rfl).2
  have g2 : 0 ≤ u2 := by have := H2.out; omega
  clear h2
  go_wp2_with fail
  refine (add_any u2 err.size _ g2 l2 (by omega)).mono ?_
  rintro e w9 ⟨⟨u3, ok3, rfl, h3⟩, rfl⟩
  cases ok3 with
  | false =>
    clear h3
    go_wp2
    go_ret
    exact ⟨rfl, Below.refl _ _⟩
  | true =>
  have H3 : Hid (u3 = u2 + (err.size : Int)) := (h3 rfl).1
  have l3 : u3 ≤ 1048576 := (h3 rfl).2
  have g3 : 0 ≤ u3 := by have := H3.out; omega
  clear h3
  go_wp2_with fail
  refine (scopesFit_any u3 aT aN aA n cT n cN n cA tt nn g ff _ g3 l3 M1 M2 M3 MG.out SA1.out SA2.out SA3.out).mono ?_
  rintro e w9 ⟨⟨u4, ok4, rfl, h4⟩, rfl⟩
  cases ok4 with
  | false =>
    clear h4
    go_wp2
    go_ret
    exact ⟨rfl, Below.refl _ _⟩
  | true =>
  have H4 : Hid (u4 = u3 + (listSum n tt n nn n g ff : Nat)) := (h4 rfl).1
  have l4 : u4 ≤ 1048576 := (h4 rfl).2
  have g4 : 0 ≤ u4 := by have := H4.out; omega
  clear h4
  have hreal : realm.size ≤ 1048576 := by have := H1.out; omega
  have hserv : service.size ≤ 1048576 := by have := H2.out; omega
  have herr : err.size ≤ 1048576 := by have := H3.out; omega
  have FA : Fits n tt nn g ff := fits_one (by have := H4.out; omega)
  have HA : Hid (Fits n tt nn g ff) := FA
  have hn20 : n ≤ 1048576 := FA.2.1
  have hL := FA.text.1
  clear FA H1 H2 H3 H4 l1 l2 l3 l4 g1 g2 g3 g4 MG M1 M2 M3
  have f1 : ((n : Int) != (n : Int)) = false := by simp
  have hn0 : ¬ (0 : Int) < (n : Int) := by omega
  have hemp : err.toList.isEmpty = false := by
    have e1 : err.toList.length = err.size := by rw [ByteArray.toList_eq]; rfl
    cases h : err.toList with
    | nil => rw [h] at e1; simp at e1; omega
    | cons c r => rw [h] at e1; simp at e1; rfl
  -- the header and its pairs
  obtain ⟨gB, egB⟩ : ∃ gB : ByteArray, ⟨(header realm service n (listText n tt nn g ff) err).toArray⟩ = gB := ⟨_, rfl⟩
  have EG : Hid (⟨(header realm service n (listText n tt nn g ff) err).toArray⟩ = gB) := egB
  clear egB
  obtain ⟨nm, enm⟩ : ∃ nm : Nat → List UInt8, (fun i => (NS false true).getD i []) = nm := ⟨_, rfl⟩
  obtain ⟨vl, evl⟩ : ∃ vl : Nat → List UInt8, (fun i => (VS false true (canon realm.data.toList) (canon service.data.toList) (canon (listText n tt nn g ff)) (canon err.data.toList)).getD i []) = vl := ⟨_, rfl⟩
  have PARSE : Hid (∀ W, Calls Try.prog 10 #[.string gB] W fun e w' => ∃ (a1 : Option Addr) (c1 : Nat) (a2 : Option Addr) (c2 : Nat), e = .returned (.tuple #[.slice a1 3 c1, .slice a2 3 c2, .bool true]) ∧ Strs w' a1 3 (fnOf nm) ∧ Strs w' a2 3 (fnOf vl) ∧ Below W.heap.size W w') := by
    intro W
    have hp := header_pairs false true realm service err n (listText n tt nn g ff) (by constructor <;> intro h <;> first | rfl | omega | cases h) (by constructor <;> intro h <;> first | rfl | omega | cases h)
    obtain ⟨q1, q2, q3⟩ := header_len realm service err (listText n tt nn g ff) hreal hserv herr hL
    have hlen : (header realm service n (listText n tt nn g ff) err).length ≤ 268435456 := by
      unfold header scopesP scopeP param
      simp only [List.length_append]
      split <;> simp <;> omega
    rw [enm, evl] at hp
    rw [← EG.out]
    rw [hp] at hlen ⊢
    exact parse_strs nm vl 3 W (by decide) (by decide) (by rw [← enm]; exact NS_ok false true) hlen
  obtain ⟨cr, ecr⟩ : ∃ cr : ByteArray, ⟨(canon realm.data.toList).toArray⟩ = cr := ⟨_, rfl⟩
  obtain ⟨cs, ecs⟩ : ∃ cs : ByteArray, ⟨(canon service.data.toList).toArray⟩ = cs := ⟨_, rfl⟩
  obtain ⟨cl, ecl⟩ : ∃ cl : ByteArray, ⟨(canon (listText n tt nn g ff)).toArray⟩ = cl := ⟨_, rfl⟩
  obtain ⟨ce, ece⟩ : ∃ ce : ByteArray, ⟨(canon err.data.toList).toArray⟩ = ce := ⟨_, rfl⟩
  have CR : Hid (∀ W, Calls Try.prog 11 #[.string realm] W fun e w' => e = .returned (.string cr) ∧ Below W.heap.size W w') := fun W => by rw [← ecr]; exact canon_any realm W (by omega)
  have CS : Hid (∀ W, Calls Try.prog 11 #[.string service] W fun e w' => e = .returned (.string cs) ∧ Below W.heap.size W w') := fun W => by rw [← ecs]; exact canon_any service W (by omega)
  have CE : Hid (∀ W, Calls Try.prog 11 #[.string err] W fun e w' => e = .returned (.string ce) ∧ Below W.heap.size W w') := fun W => by rw [← ece]; exact canon_any err W (by omega)
  have CL : Hid (∀ W, Calls Try.prog 11 #[.string ⟨(listText n tt nn g ff).toArray⟩] W fun e w' => e = .returned (.string cl) ∧ Below W.heap.size W w') := fun W => by rw [← ecl]; exact canon_any ⟨(listText n tt nn g ff).toArray⟩ W (by rw [ba_size]; omega)
  have SN : Hid (strsTo nm 3 = [.string ⟨#[114, 101, 97, 108, 109]⟩, .string ⟨#[115, 101, 114, 118, 105, 99, 101]⟩] ++ [.string ⟨#[101, 114, 114, 111, 114]⟩]) := by unfold Hid; rw [← enm]; rfl
  have SV : Hid (strsTo vl 3 = [.string cr, .string cs] ++ [.string ce]) := by unfold Hid; rw [← evl, ← ecr, ← ecs, ← ece]; rfl
  clear enm evl ecr ecs ecl ece
  go_wp2_with fail
  refine (scopes_any' aT aN aA n cT cN cA tt nn g ff _ hn20 N1.out SA1.out SA2.out SA3.out G1.out).mono ?_
  rintro e w1 ⟨pa, rfl, hpa, sca, hb1⟩
  have SA : Hid (Scs w1 pa n tt nn g ff) := sca
  have B1 : Hid (Below w9.heap.size w9 w1) := hb1
  clear sca hpa hb1 G1 N1
  go_wp2_with fail
  refine (chal_any realm service err pa n n tt nn g ff _ hreal hserv herr HA.out (SA.out.below ((Below.refl _ _).alloc (Nat.le_refl _) _))).mono ?_
  rintro e w2 ⟨rfl, hb2⟩
  rw [EG.out]
  have B2 : Hid (Below w9.heap.size w9 w2) := (B1.out.alloc (by have := B1.out.size; omega) _).trans (hb2.mono (by have := B1.out.size; simp; omega))
  clear hb2 SA B1
  go_wp2_with fail
  refine (PARSE.out _).mono ?_
  rintro e w3 ⟨a1, c1, a2, c2, rfl, st1, st2, hb3⟩
  have B3 : Hid (Below w9.heap.size w9 w3) := B2.out.trans (hb3.mono B2.out.size)
  have ST1 : Hid (Strs w3 a1 3 (fnOf nm)) := st1
  have ST2 : Hid (Strs w3 a2 3 (fnOf vl)) := st2
  clear st1 st2 hb3 PARSE B2 EG
  have N0 : Hid (Own 9 (w3.alloc (.cells #[.string ⟨#[114, 101, 97, 108, 109]⟩, .string ⟨#[115, 101, 114, 118, 105, 99, 101]⟩] 9)) (.slice (some ⟨w3.heap.size, 0, none⟩) 2 2) [.string ⟨#[114, 101, 97, 108, 109]⟩, .string ⟨#[115, 101, 114, 118, 105, 99, 101]⟩] (some w3.heap.size)) := own_built w3 #[.string ⟨#[114, 101, 97, 108, 109]⟩, .string ⟨#[115, 101, 114, 118, 105, 99, 101]⟩] 2 rfl (by omega)
  go_wp2_with fail
  refine (CR.out _).mono ?_
  rintro e w4 ⟨rfl, hb4⟩
  have N4 : Hid (Own 9 w4 (.slice (some ⟨w3.heap.size, 0, none⟩) 2 2) [.string ⟨#[114, 101, 97, 108, 109]⟩, .string ⟨#[115, 101, 114, 118, 105, 99, 101]⟩] (some w3.heap.size)) := N0.out.below hb4
  have b4 : Below w3.heap.size w3 w4 := ((Below.refl _ w3).alloc (Nat.le_refl _) _).trans (hb4.mono (by simp))
  have BB4 : Hid (Below w3.heap.size w3 w4) := b4
  clear hb4 N0 b4
  go_wp2_with fail
  refine (CS.out _).mono ?_
  rintro e w5 ⟨rfl, hb5⟩
  have N5 : Hid (Own 9 w5 (.slice (some ⟨w3.heap.size, 0, none⟩) 2 2) [.string ⟨#[114, 101, 97, 108, 109]⟩, .string ⟨#[115, 101, 114, 118, 105, 99, 101]⟩] (some w3.heap.size)) := N4.out.below hb5
  have BB5 : Hid (Below w3.heap.size w3 w5) := BB4.out.trans (hb5.mono BB4.out.size)
  clear hb5 N4 BB4
  have W0 : Hid (Want w3 [.string ⟨#[114, 101, 97, 108, 109]⟩, .string ⟨#[115, 101, 114, 118, 105, 99, 101]⟩] [.string cr, .string cs] (.slice (some ⟨w3.heap.size, 0, none⟩) 2 2) (.slice (some ⟨w5.heap.size, 0, none⟩) 2 2) (some w3.heap.size) (some w5.heap.size) (w5.alloc (.cells #[.string cr, .string cs] 9))) :=
    ⟨N5.out.alloc _, own_built w5 #[.string cr, .string cs] 2 rfl (by omega), .inr (fun e => by have h1 := N5.out.lt; simp at e; omega), fun g hg => by simp at hg; omega, fun g hg => by have := BB5.out.size; simp at hg; omega, BB5.out.alloc BB5.out.size _⟩
  clear N5 BB5 CR CS
  go_wp2_with (at_builtin; refine wpList_push_at rfl (.tmp 118) (.tmp 119) rfl (w5.alloc (.cells #[.string cr, .string cs] 9)) (w5.heap.size + 1) (by simp) ⟨#[101, 114, 114, 111, 114]⟩ (.slice (some ⟨w3.heap.size, 0, none⟩) 2 2) _ (some w3.heap.size) rfl rfl W0.out.names (by simp) ?_; intro nb we Gc onc hgc hGc; have We : Hid (Want w3 ([.string ⟨#[114, 101, 97, 108, 109]⟩, .string ⟨#[115, 101, 114, 118, 105, 99, 101]⟩] ++ [.string ⟨#[101, 114, 114, 111, 114]⟩]) [.string cr, .string cs] nb (.slice (some ⟨w5.heap.size, 0, none⟩) 2 2) Gc (some w5.heap.size) we) := W0.out.pushN onc hgc hGc; clear onc hgc hGc)
  refine (CE.out _).mono ?_
  rintro e wf ⟨rfl, hbf⟩
  have Wf : Hid (Want w3 ([.string ⟨#[114, 101, 97, 108, 109]⟩, .string ⟨#[115, 101, 114, 118, 105, 99, 101]⟩] ++ [.string ⟨#[101, 114, 114, 111, 114]⟩]) [.string cr, .string cs] nb (.slice (some ⟨w5.heap.size, 0, none⟩) 2 2) Gc (some w5.heap.size) wf) := We.out.call hbf
  clear hbf We CE
  go_wp2_with (at_builtin; refine wpList_push_str rfl (.tmp 121) (.tmp 124) rfl wf ce (.slice (some ⟨w5.heap.size, 0, none⟩) 2 2) _ (some w5.heap.size) rfl rfl Wf.out.vals (by simp) ?_; intro vb wg Gd ond hgd hGd; have Wg : Hid (Want w3 ([.string ⟨#[114, 101, 97, 108, 109]⟩, .string ⟨#[115, 101, 114, 118, 105, 99, 101]⟩] ++ [.string ⟨#[101, 114, 114, 111, 114]⟩]) ([.string cr, .string cs] ++ [.string ce]) nb vb Gc Gd wg) := Wf.out.pushV ond hgd hGd; clear ond hgd hGd Wf)
  refine (equal_own nm 3 a1 c1 nb Gc _ (by omega) (ST1.out.below Wg.out.bel) (by rw [SN.out]; exact Wg.out.names)).mono ?_
  rintro e wy ⟨rfl, hby⟩
  have Wy : Hid (Want w3 ([.string ⟨#[114, 101, 97, 108, 109]⟩, .string ⟨#[115, 101, 114, 118, 105, 99, 101]⟩] ++ [.string ⟨#[101, 114, 114, 111, 114]⟩]) ([.string cr, .string cs] ++ [.string ce]) nb vb Gc Gd wy) := Wg.out.call hby
  clear hby Wg ST1
  go_wp2_with fail
  refine (equal_own vl 3 a2 c2 vb Gd _ (by omega) (ST2.out.below Wy.out.bel) (by rw [SV.out]; exact Wy.out.vals)).mono ?_
  rintro e wz ⟨rfl, hbz⟩
  have BZ : Hid (Below w9.heap.size w9 wz) := B3.out.trans ((Wy.out.call hbz).bel.mono B3.out.size)
  clear hbz Wy ST2
  go_wp2
  go_ret
  exact ⟨rfl, BZ.out⟩


set_option maxHeartbeats 4000000 in
set_option maxRecDepth 100000 in
theorem reads_sn (realm service err : ByteArray) (aT aN aA : Option Addr) (n cT cN cA : Nat) (tt nn : Nat → ByteArray) (g : Nat → Sl) (ff : Nat → Nat → ByteArray) (w : World)
    (M1 : n ≤ maxLen) (M2 : n ≤ maxLen) (M3 : n ≤ maxLen) (MG : Hid (∀ i, i < n → (g i).len ≤ maxLen)) (SA1 : Hid (Strs w aT n tt)) (SA2 : Hid (Strs w aN n nn)) (SA3 : Hid (Nest w aA n g ff))
    (G1 : Hid (∀ i, i < n → (g i).len ≤ (g i).cap)) (N1 : Hid (aT = none → n = 0 ∧ cT = 0)) (hn : 0 < n) (he : err.size ≤ 0) :
    Calls Try.prog 3 #[.string realm, .string service, .slice aT n cT, .slice aN n cN, .slice aA n cA, .string err] w fun e w' => e = .returned (.bool true) ∧ Below w.heap.size w w' := by
  go_enter Try.func3, Try.ntmps3
  go_wp2_with fail
  refine (bytes5_any realm service aT n cT tt aN n cN nn aA n cA g ff err w SA1.out SA2.out SA3.out).mono ?_
  rintro e w' ⟨⟨b0, rfl⟩, rfl⟩
  cases b0 with
  | false =>
    go_wp2
    go_ret
    exact ⟨rfl, Below.refl _ _⟩
  | true =>
  go_wp2_with fail
  refine (add_any 0 realm.size _ (by omega) (by omega) (by omega)).mono ?_
  rintro e w9 ⟨⟨u1, ok1, rfl, h1⟩, rfl⟩
  cases ok1 with
  | false =>
    clear h1
    go_wp2
    go_ret
    exact ⟨rfl, Below.refl _ _⟩
  | true =>
  have H1 : Hid (u1 = 0 + (realm.size : Int)) := (h1 rfl).1
  have l1 : u1 ≤ 1048576 := (h1 rfl).2
  have g1 : 0 ≤ u1 := by have := H1.out; omega
  clear h1
  go_wp2_with fail
  refine (add_any u1 service.size _ g1 l1 (by omega)).mono ?_
  rintro e w9 ⟨⟨u2, ok2, rfl, h2⟩, rfl⟩
  cases ok2 with
  | false =>
    clear h2
    go_wp2
    go_ret
    exact ⟨rfl, Below.refl _ _⟩
  | true =>
  have H2 : Hid (u2 = u1 + (service.size : Int)) := (h2 rfl).1
  have l2 : u2 ≤ 1048576 := (h2 rfl).2
  have g2 : 0 ≤ u2 := by have := H2.out; omega
  clear h2
  go_wp2_with fail
  refine (add_any u2 err.size _ g2 l2 (by omega)).mono ?_
  rintro e w9 ⟨⟨u3, ok3, rfl, h3⟩, rfl⟩
  cases ok3 with
  | false =>
    clear h3
    go_wp2
    go_ret
    exact ⟨rfl, Below.refl _ _⟩
  | true =>
  have H3 : Hid (u3 = u2 + (err.size : Int)) := (h3 rfl).1
  have l3 : u3 ≤ 1048576 := (h3 rfl).2
  have g3 : 0 ≤ u3 := by have := H3.out; omega
  clear h3
  go_wp2_with fail
  refine (scopesFit_any u3 aT aN aA n cT n cN n cA tt nn g ff _ g3 l3 M1 M2 M3 MG.out SA1.out SA2.out SA3.out).mono ?_
  rintro e w9 ⟨⟨u4, ok4, rfl, h4⟩, rfl⟩
  cases ok4 with
  | false =>
    clear h4
    go_wp2
    go_ret
    exact ⟨rfl, Below.refl _ _⟩
  | true =>
  have H4 : Hid (u4 = u3 + (listSum n tt n nn n g ff : Nat)) := (h4 rfl).1
  have l4 : u4 ≤ 1048576 := (h4 rfl).2
  have g4 : 0 ≤ u4 := by have := H4.out; omega
  clear h4
  have hreal : realm.size ≤ 1048576 := by have := H1.out; omega
  have hserv : service.size ≤ 1048576 := by have := H2.out; omega
  have herr : err.size ≤ 1048576 := by have := H3.out; omega
  have FA : Fits n tt nn g ff := fits_one (by have := H4.out; omega)
  have HA : Hid (Fits n tt nn g ff) := FA
  have hn20 : n ≤ 1048576 := FA.2.1
  have hL := FA.text.1
  clear FA H1 H2 H3 H4 l1 l2 l3 l4 g1 g2 g3 g4 MG M1 M2 M3
  have f1 : ((n : Int) != (n : Int)) = false := by simp
  have hn0 : (0 : Int) < (n : Int) := by omega
  have hemp : err.toList.isEmpty = true := by
    have e1 : err.toList.length = err.size := by rw [ByteArray.toList_eq]; rfl
    cases h : err.toList with
    | nil => rw [h] at e1; simp at e1; rfl
    | cons c r => rw [h] at e1; simp at e1; omega
  -- the header and its pairs
  obtain ⟨gB, egB⟩ : ∃ gB : ByteArray, ⟨(header realm service n (listText n tt nn g ff) err).toArray⟩ = gB := ⟨_, rfl⟩
  have EG : Hid (⟨(header realm service n (listText n tt nn g ff) err).toArray⟩ = gB) := egB
  clear egB
  obtain ⟨nm, enm⟩ : ∃ nm : Nat → List UInt8, (fun i => (NS true false).getD i []) = nm := ⟨_, rfl⟩
  obtain ⟨vl, evl⟩ : ∃ vl : Nat → List UInt8, (fun i => (VS true false (canon realm.data.toList) (canon service.data.toList) (canon (listText n tt nn g ff)) (canon err.data.toList)).getD i []) = vl := ⟨_, rfl⟩
  have PARSE : Hid (∀ W, Calls Try.prog 10 #[.string gB] W fun e w' => ∃ (a1 : Option Addr) (c1 : Nat) (a2 : Option Addr) (c2 : Nat), e = .returned (.tuple #[.slice a1 3 c1, .slice a2 3 c2, .bool true]) ∧ Strs w' a1 3 (fnOf nm) ∧ Strs w' a2 3 (fnOf vl) ∧ Below W.heap.size W w') := by
    intro W
    have hp := header_pairs true false realm service err n (listText n tt nn g ff) (by constructor <;> intro h <;> first | rfl | omega | cases h) (by constructor <;> intro h <;> first | rfl | omega | cases h)
    obtain ⟨q1, q2, q3⟩ := header_len realm service err (listText n tt nn g ff) hreal hserv herr hL
    have hlen : (header realm service n (listText n tt nn g ff) err).length ≤ 268435456 := by
      unfold header scopesP scopeP param
      simp only [List.length_append]
      split <;> simp <;> omega
    rw [enm, evl] at hp
    rw [← EG.out]
    rw [hp] at hlen ⊢
    exact parse_strs nm vl 3 W (by decide) (by decide) (by rw [← enm]; exact NS_ok true false) hlen
  obtain ⟨cr, ecr⟩ : ∃ cr : ByteArray, ⟨(canon realm.data.toList).toArray⟩ = cr := ⟨_, rfl⟩
  obtain ⟨cs, ecs⟩ : ∃ cs : ByteArray, ⟨(canon service.data.toList).toArray⟩ = cs := ⟨_, rfl⟩
  obtain ⟨cl, ecl⟩ : ∃ cl : ByteArray, ⟨(canon (listText n tt nn g ff)).toArray⟩ = cl := ⟨_, rfl⟩
  obtain ⟨ce, ece⟩ : ∃ ce : ByteArray, ⟨(canon err.data.toList).toArray⟩ = ce := ⟨_, rfl⟩
  have CR : Hid (∀ W, Calls Try.prog 11 #[.string realm] W fun e w' => e = .returned (.string cr) ∧ Below W.heap.size W w') := fun W => by rw [← ecr]; exact canon_any realm W (by omega)
  have CS : Hid (∀ W, Calls Try.prog 11 #[.string service] W fun e w' => e = .returned (.string cs) ∧ Below W.heap.size W w') := fun W => by rw [← ecs]; exact canon_any service W (by omega)
  have CE : Hid (∀ W, Calls Try.prog 11 #[.string err] W fun e w' => e = .returned (.string ce) ∧ Below W.heap.size W w') := fun W => by rw [← ece]; exact canon_any err W (by omega)
  have CL : Hid (∀ W, Calls Try.prog 11 #[.string ⟨(listText n tt nn g ff).toArray⟩] W fun e w' => e = .returned (.string cl) ∧ Below W.heap.size W w') := fun W => by rw [← ecl]; exact canon_any ⟨(listText n tt nn g ff).toArray⟩ W (by rw [ba_size]; omega)
  have SN : Hid (strsTo nm 3 = [.string ⟨#[114, 101, 97, 108, 109]⟩, .string ⟨#[115, 101, 114, 118, 105, 99, 101]⟩] ++ [.string ⟨#[115, 99, 111, 112, 101]⟩]) := by unfold Hid; rw [← enm]; rfl
  have SV : Hid (strsTo vl 3 = [.string cr, .string cs] ++ [.string cl]) := by unfold Hid; rw [← evl, ← ecr, ← ecs, ← ecl]; rfl
  clear enm evl ecr ecs ecl ece
  go_wp2_with fail
  refine (scopes_any' aT aN aA n cT cN cA tt nn g ff _ hn20 N1.out SA1.out SA2.out SA3.out G1.out).mono ?_
  rintro e w1 ⟨pa, rfl, hpa, sca, hb1⟩
  have SA : Hid (Scs w1 pa n tt nn g ff) := sca
  have B1 : Hid (Below w9.heap.size w9 w1) := hb1
  clear sca hpa hb1 G1 N1
  go_wp2_with fail
  refine (chal_any realm service err pa n n tt nn g ff _ hreal hserv herr HA.out (SA.out.below ((Below.refl _ _).alloc (Nat.le_refl _) _))).mono ?_
  rintro e w2 ⟨rfl, hb2⟩
  rw [EG.out]
  have B2 : Hid (Below w9.heap.size w9 w2) := (B1.out.alloc (by have := B1.out.size; omega) _).trans (hb2.mono (by have := B1.out.size; simp; omega))
  clear hb2 SA B1
  go_wp2_with fail
  refine (PARSE.out _).mono ?_
  rintro e w3 ⟨a1, c1, a2, c2, rfl, st1, st2, hb3⟩
  have B3 : Hid (Below w9.heap.size w9 w3) := B2.out.trans (hb3.mono B2.out.size)
  have ST1 : Hid (Strs w3 a1 3 (fnOf nm)) := st1
  have ST2 : Hid (Strs w3 a2 3 (fnOf vl)) := st2
  clear st1 st2 hb3 PARSE B2 EG
  have N0 : Hid (Own 9 (w3.alloc (.cells #[.string ⟨#[114, 101, 97, 108, 109]⟩, .string ⟨#[115, 101, 114, 118, 105, 99, 101]⟩] 9)) (.slice (some ⟨w3.heap.size, 0, none⟩) 2 2) [.string ⟨#[114, 101, 97, 108, 109]⟩, .string ⟨#[115, 101, 114, 118, 105, 99, 101]⟩] (some w3.heap.size)) := own_built w3 #[.string ⟨#[114, 101, 97, 108, 109]⟩, .string ⟨#[115, 101, 114, 118, 105, 99, 101]⟩] 2 rfl (by omega)
  go_wp2_with fail
  refine (CR.out _).mono ?_
  rintro e w4 ⟨rfl, hb4⟩
  have N4 : Hid (Own 9 w4 (.slice (some ⟨w3.heap.size, 0, none⟩) 2 2) [.string ⟨#[114, 101, 97, 108, 109]⟩, .string ⟨#[115, 101, 114, 118, 105, 99, 101]⟩] (some w3.heap.size)) := N0.out.below hb4
  have b4 : Below w3.heap.size w3 w4 := ((Below.refl _ w3).alloc (Nat.le_refl _) _).trans (hb4.mono (by simp))
  have BB4 : Hid (Below w3.heap.size w3 w4) := b4
  clear hb4 N0 b4
  go_wp2_with fail
  refine (CS.out _).mono ?_
  rintro e w5 ⟨rfl, hb5⟩
  have N5 : Hid (Own 9 w5 (.slice (some ⟨w3.heap.size, 0, none⟩) 2 2) [.string ⟨#[114, 101, 97, 108, 109]⟩, .string ⟨#[115, 101, 114, 118, 105, 99, 101]⟩] (some w3.heap.size)) := N4.out.below hb5
  have BB5 : Hid (Below w3.heap.size w3 w5) := BB4.out.trans (hb5.mono BB4.out.size)
  clear hb5 N4 BB4
  have W0 : Hid (Want w3 [.string ⟨#[114, 101, 97, 108, 109]⟩, .string ⟨#[115, 101, 114, 118, 105, 99, 101]⟩] [.string cr, .string cs] (.slice (some ⟨w3.heap.size, 0, none⟩) 2 2) (.slice (some ⟨w5.heap.size, 0, none⟩) 2 2) (some w3.heap.size) (some w5.heap.size) (w5.alloc (.cells #[.string cr, .string cs] 9))) :=
    ⟨N5.out.alloc _, own_built w5 #[.string cr, .string cs] 2 rfl (by omega), .inr (fun e => by have h1 := N5.out.lt; simp at e; omega), fun g hg => by simp at hg; omega, fun g hg => by have := BB5.out.size; simp at hg; omega, BB5.out.alloc BB5.out.size _⟩
  clear N5 BB5 CR CS
  go_wp2_with (at_builtin; refine wpList_push_at rfl (.tmp 105) (.tmp 106) rfl (w5.alloc (.cells #[.string cr, .string cs] 9)) (w5.heap.size + 1) (by simp) ⟨#[115, 99, 111, 112, 101]⟩ (.slice (some ⟨w3.heap.size, 0, none⟩) 2 2) _ (some w3.heap.size) rfl rfl W0.out.names (by simp) ?_; intro na wa Ga ona hga hGa; have Wa : Hid (Want w3 ([.string ⟨#[114, 101, 97, 108, 109]⟩, .string ⟨#[115, 101, 114, 118, 105, 99, 101]⟩] ++ [.string ⟨#[115, 99, 111, 112, 101]⟩]) [.string cr, .string cs] na (.slice (some ⟨w5.heap.size, 0, none⟩) 2 2) Ga (some w5.heap.size) wa) := W0.out.pushN ona hga hGa; clear ona hga hGa)
  have sa1 : Strs wa aT n tt := (SA1.out.below B3.out).below Wa.out.bel
  have sa2 : Strs wa aN n nn := (SA2.out.below B3.out).below Wa.out.bel
  have sa3 : Nest wa aA n g ff := (SA3.out.below B3.out).below Wa.out.bel
  refine (wire_any aT aN aA n cT cN cA tt nn g ff wa HA.out sa1 sa2 sa3).mono ?_
  rintro e wb ⟨rfl, hbb⟩
  have Wb : Hid (Want w3 ([.string ⟨#[114, 101, 97, 108, 109]⟩, .string ⟨#[115, 101, 114, 118, 105, 99, 101]⟩] ++ [.string ⟨#[115, 99, 111, 112, 101]⟩]) [.string cr, .string cs] na (.slice (some ⟨w5.heap.size, 0, none⟩) 2 2) Ga (some w5.heap.size) wb) := Wa.out.call hbb
  clear hbb Wa sa1 sa2 sa3 W0
  go_wp2_with fail
  refine (CL.out _).mono ?_
  rintro e wc ⟨rfl, hbc⟩
  have Wc : Hid (Want w3 ([.string ⟨#[114, 101, 97, 108, 109]⟩, .string ⟨#[115, 101, 114, 118, 105, 99, 101]⟩] ++ [.string ⟨#[115, 99, 111, 112, 101]⟩]) [.string cr, .string cs] na (.slice (some ⟨w5.heap.size, 0, none⟩) 2 2) Ga (some w5.heap.size) wc) := Wb.out.call hbc
  clear hbc Wb CL
  go_wp2_with (at_builtin; refine wpList_push_str rfl (.tmp 108) (.tmp 114) rfl wc cl (.slice (some ⟨w5.heap.size, 0, none⟩) 2 2) _ (some w5.heap.size) rfl rfl Wc.out.vals (by simp) ?_; intro va wd Gb onb hgb hGb; have Wd : Hid (Want w3 ([.string ⟨#[114, 101, 97, 108, 109]⟩, .string ⟨#[115, 101, 114, 118, 105, 99, 101]⟩] ++ [.string ⟨#[115, 99, 111, 112, 101]⟩]) ([.string cr, .string cs] ++ [.string cl]) na va Ga Gb wd) := Wc.out.pushV onb hgb hGb; clear onb hgb hGb Wc)
  refine (equal_own nm 3 a1 c1 na Ga _ (by omega) (ST1.out.below Wd.out.bel) (by rw [SN.out]; exact Wd.out.names)).mono ?_
  rintro e wy ⟨rfl, hby⟩
  have Wy : Hid (Want w3 ([.string ⟨#[114, 101, 97, 108, 109]⟩, .string ⟨#[115, 101, 114, 118, 105, 99, 101]⟩] ++ [.string ⟨#[115, 99, 111, 112, 101]⟩]) ([.string cr, .string cs] ++ [.string cl]) na va Ga Gb wy) := Wd.out.call hby
  clear hby Wd ST1
  go_wp2_with fail
  refine (equal_own vl 3 a2 c2 va Gb _ (by omega) (ST2.out.below Wy.out.bel) (by rw [SV.out]; exact Wy.out.vals)).mono ?_
  rintro e wz ⟨rfl, hbz⟩
  have BZ : Hid (Below w9.heap.size w9 wz) := B3.out.trans ((Wy.out.call hbz).bel.mono B3.out.size)
  clear hbz Wy ST2
  go_wp2
  go_ret
  exact ⟨rfl, BZ.out⟩


set_option maxHeartbeats 4000000 in
set_option maxRecDepth 100000 in
theorem reads_se (realm service err : ByteArray) (aT aN aA : Option Addr) (n cT cN cA : Nat) (tt nn : Nat → ByteArray) (g : Nat → Sl) (ff : Nat → Nat → ByteArray) (w : World)
    (M1 : n ≤ maxLen) (M2 : n ≤ maxLen) (M3 : n ≤ maxLen) (MG : Hid (∀ i, i < n → (g i).len ≤ maxLen)) (SA1 : Hid (Strs w aT n tt)) (SA2 : Hid (Strs w aN n nn)) (SA3 : Hid (Nest w aA n g ff))
    (G1 : Hid (∀ i, i < n → (g i).len ≤ (g i).cap)) (N1 : Hid (aT = none → n = 0 ∧ cT = 0)) (hn : 0 < n) (he : 0 < err.size) :
    Calls Try.prog 3 #[.string realm, .string service, .slice aT n cT, .slice aN n cN, .slice aA n cA, .string err] w fun e w' => e = .returned (.bool true) ∧ Below w.heap.size w w' := by
  go_enter Try.func3, Try.ntmps3
  go_wp2_with fail
  refine (bytes5_any realm service aT n cT tt aN n cN nn aA n cA g ff err w SA1.out SA2.out SA3.out).mono ?_
  rintro e w' ⟨⟨b0, rfl⟩, rfl⟩
  cases b0 with
  | false =>
    go_wp2
    go_ret
    exact ⟨rfl, Below.refl _ _⟩
  | true =>
  go_wp2_with fail
  refine (add_any 0 realm.size _ (by omega) (by omega) (by omega)).mono ?_
  rintro e w9 ⟨⟨u1, ok1, rfl, h1⟩, rfl⟩
  cases ok1 with
  | false =>
    clear h1
    go_wp2
    go_ret
    exact ⟨rfl, Below.refl _ _⟩
  | true =>
  have H1 : Hid (u1 = 0 + (realm.size : Int)) := (h1 rfl).1
  have l1 : u1 ≤ 1048576 := (h1 rfl).2
  have g1 : 0 ≤ u1 := by have := H1.out; omega
  clear h1
  go_wp2_with fail
  refine (add_any u1 service.size _ g1 l1 (by omega)).mono ?_
  rintro e w9 ⟨⟨u2, ok2, rfl, h2⟩, rfl⟩
  cases ok2 with
  | false =>
    clear h2
    go_wp2
    go_ret
    exact ⟨rfl, Below.refl _ _⟩
  | true =>
  have H2 : Hid (u2 = u1 + (service.size : Int)) := (h2 rfl).1
  have l2 : u2 ≤ 1048576 := (h2 rfl).2
  have g2 : 0 ≤ u2 := by have := H2.out; omega
  clear h2
  go_wp2_with fail
  refine (add_any u2 err.size _ g2 l2 (by omega)).mono ?_
  rintro e w9 ⟨⟨u3, ok3, rfl, h3⟩, rfl⟩
  cases ok3 with
  | false =>
    clear h3
    go_wp2
    go_ret
    exact ⟨rfl, Below.refl _ _⟩
  | true =>
  have H3 : Hid (u3 = u2 + (err.size : Int)) := (h3 rfl).1
  have l3 : u3 ≤ 1048576 := (h3 rfl).2
  have g3 : 0 ≤ u3 := by have := H3.out; omega
  clear h3
  go_wp2_with fail
  refine (scopesFit_any u3 aT aN aA n cT n cN n cA tt nn g ff _ g3 l3 M1 M2 M3 MG.out SA1.out SA2.out SA3.out).mono ?_
  rintro e w9 ⟨⟨u4, ok4, rfl, h4⟩, rfl⟩
  cases ok4 with
  | false =>
    clear h4
    go_wp2
    go_ret
    exact ⟨rfl, Below.refl _ _⟩
  | true =>
  have H4 : Hid (u4 = u3 + (listSum n tt n nn n g ff : Nat)) := (h4 rfl).1
  have l4 : u4 ≤ 1048576 := (h4 rfl).2
  have g4 : 0 ≤ u4 := by have := H4.out; omega
  clear h4
  have hreal : realm.size ≤ 1048576 := by have := H1.out; omega
  have hserv : service.size ≤ 1048576 := by have := H2.out; omega
  have herr : err.size ≤ 1048576 := by have := H3.out; omega
  have FA : Fits n tt nn g ff := fits_one (by have := H4.out; omega)
  have HA : Hid (Fits n tt nn g ff) := FA
  have hn20 : n ≤ 1048576 := FA.2.1
  have hL := FA.text.1
  clear FA H1 H2 H3 H4 l1 l2 l3 l4 g1 g2 g3 g4 MG M1 M2 M3
  have f1 : ((n : Int) != (n : Int)) = false := by simp
  have hn0 : (0 : Int) < (n : Int) := by omega
  have hemp : err.toList.isEmpty = false := by
    have e1 : err.toList.length = err.size := by rw [ByteArray.toList_eq]; rfl
    cases h : err.toList with
    | nil => rw [h] at e1; simp at e1; omega
    | cons c r => rw [h] at e1; simp at e1; rfl
  -- the header and its pairs
  obtain ⟨gB, egB⟩ : ∃ gB : ByteArray, ⟨(header realm service n (listText n tt nn g ff) err).toArray⟩ = gB := ⟨_, rfl⟩
  have EG : Hid (⟨(header realm service n (listText n tt nn g ff) err).toArray⟩ = gB) := egB
  clear egB
  obtain ⟨nm, enm⟩ : ∃ nm : Nat → List UInt8, (fun i => (NS true true).getD i []) = nm := ⟨_, rfl⟩
  obtain ⟨vl, evl⟩ : ∃ vl : Nat → List UInt8, (fun i => (VS true true (canon realm.data.toList) (canon service.data.toList) (canon (listText n tt nn g ff)) (canon err.data.toList)).getD i []) = vl := ⟨_, rfl⟩
  have PARSE : Hid (∀ W, Calls Try.prog 10 #[.string gB] W fun e w' => ∃ (a1 : Option Addr) (c1 : Nat) (a2 : Option Addr) (c2 : Nat), e = .returned (.tuple #[.slice a1 4 c1, .slice a2 4 c2, .bool true]) ∧ Strs w' a1 4 (fnOf nm) ∧ Strs w' a2 4 (fnOf vl) ∧ Below W.heap.size W w') := by
    intro W
    have hp := header_pairs true true realm service err n (listText n tt nn g ff) (by constructor <;> intro h <;> first | rfl | omega | cases h) (by constructor <;> intro h <;> first | rfl | omega | cases h)
    obtain ⟨q1, q2, q3⟩ := header_len realm service err (listText n tt nn g ff) hreal hserv herr hL
    have hlen : (header realm service n (listText n tt nn g ff) err).length ≤ 268435456 := by
      unfold header scopesP scopeP param
      simp only [List.length_append]
      split <;> simp <;> omega
    rw [enm, evl] at hp
    rw [← EG.out]
    rw [hp] at hlen ⊢
    exact parse_strs nm vl 4 W (by decide) (by decide) (by rw [← enm]; exact NS_ok true true) hlen
  obtain ⟨cr, ecr⟩ : ∃ cr : ByteArray, ⟨(canon realm.data.toList).toArray⟩ = cr := ⟨_, rfl⟩
  obtain ⟨cs, ecs⟩ : ∃ cs : ByteArray, ⟨(canon service.data.toList).toArray⟩ = cs := ⟨_, rfl⟩
  obtain ⟨cl, ecl⟩ : ∃ cl : ByteArray, ⟨(canon (listText n tt nn g ff)).toArray⟩ = cl := ⟨_, rfl⟩
  obtain ⟨ce, ece⟩ : ∃ ce : ByteArray, ⟨(canon err.data.toList).toArray⟩ = ce := ⟨_, rfl⟩
  have CR : Hid (∀ W, Calls Try.prog 11 #[.string realm] W fun e w' => e = .returned (.string cr) ∧ Below W.heap.size W w') := fun W => by rw [← ecr]; exact canon_any realm W (by omega)
  have CS : Hid (∀ W, Calls Try.prog 11 #[.string service] W fun e w' => e = .returned (.string cs) ∧ Below W.heap.size W w') := fun W => by rw [← ecs]; exact canon_any service W (by omega)
  have CE : Hid (∀ W, Calls Try.prog 11 #[.string err] W fun e w' => e = .returned (.string ce) ∧ Below W.heap.size W w') := fun W => by rw [← ece]; exact canon_any err W (by omega)
  have CL : Hid (∀ W, Calls Try.prog 11 #[.string ⟨(listText n tt nn g ff).toArray⟩] W fun e w' => e = .returned (.string cl) ∧ Below W.heap.size W w') := fun W => by rw [← ecl]; exact canon_any ⟨(listText n tt nn g ff).toArray⟩ W (by rw [ba_size]; omega)
  have SN : Hid (strsTo nm 4 = [.string ⟨#[114, 101, 97, 108, 109]⟩, .string ⟨#[115, 101, 114, 118, 105, 99, 101]⟩] ++ [.string ⟨#[115, 99, 111, 112, 101]⟩] ++ [.string ⟨#[101, 114, 114, 111, 114]⟩]) := by unfold Hid; rw [← enm]; rfl
  have SV : Hid (strsTo vl 4 = [.string cr, .string cs] ++ [.string cl] ++ [.string ce]) := by unfold Hid; rw [← evl, ← ecr, ← ecs, ← ecl, ← ece]; rfl
  clear enm evl ecr ecs ecl ece
  go_wp2_with fail
  refine (scopes_any' aT aN aA n cT cN cA tt nn g ff _ hn20 N1.out SA1.out SA2.out SA3.out G1.out).mono ?_
  rintro e w1 ⟨pa, rfl, hpa, sca, hb1⟩
  have SA : Hid (Scs w1 pa n tt nn g ff) := sca
  have B1 : Hid (Below w9.heap.size w9 w1) := hb1
  clear sca hpa hb1 G1 N1
  go_wp2_with fail
  refine (chal_any realm service err pa n n tt nn g ff _ hreal hserv herr HA.out (SA.out.below ((Below.refl _ _).alloc (Nat.le_refl _) _))).mono ?_
  rintro e w2 ⟨rfl, hb2⟩
  rw [EG.out]
  have B2 : Hid (Below w9.heap.size w9 w2) := (B1.out.alloc (by have := B1.out.size; omega) _).trans (hb2.mono (by have := B1.out.size; simp; omega))
  clear hb2 SA B1
  go_wp2_with fail
  refine (PARSE.out _).mono ?_
  rintro e w3 ⟨a1, c1, a2, c2, rfl, st1, st2, hb3⟩
  have B3 : Hid (Below w9.heap.size w9 w3) := B2.out.trans (hb3.mono B2.out.size)
  have ST1 : Hid (Strs w3 a1 4 (fnOf nm)) := st1
  have ST2 : Hid (Strs w3 a2 4 (fnOf vl)) := st2
  clear st1 st2 hb3 PARSE B2 EG
  have N0 : Hid (Own 9 (w3.alloc (.cells #[.string ⟨#[114, 101, 97, 108, 109]⟩, .string ⟨#[115, 101, 114, 118, 105, 99, 101]⟩] 9)) (.slice (some ⟨w3.heap.size, 0, none⟩) 2 2) [.string ⟨#[114, 101, 97, 108, 109]⟩, .string ⟨#[115, 101, 114, 118, 105, 99, 101]⟩] (some w3.heap.size)) := own_built w3 #[.string ⟨#[114, 101, 97, 108, 109]⟩, .string ⟨#[115, 101, 114, 118, 105, 99, 101]⟩] 2 rfl (by omega)
  go_wp2_with fail
  refine (CR.out _).mono ?_
  rintro e w4 ⟨rfl, hb4⟩
  have N4 : Hid (Own 9 w4 (.slice (some ⟨w3.heap.size, 0, none⟩) 2 2) [.string ⟨#[114, 101, 97, 108, 109]⟩, .string ⟨#[115, 101, 114, 118, 105, 99, 101]⟩] (some w3.heap.size)) := N0.out.below hb4
  have b4 : Below w3.heap.size w3 w4 := ((Below.refl _ w3).alloc (Nat.le_refl _) _).trans (hb4.mono (by simp))
  have BB4 : Hid (Below w3.heap.size w3 w4) := b4
  clear hb4 N0 b4
  go_wp2_with fail
  refine (CS.out _).mono ?_
  rintro e w5 ⟨rfl, hb5⟩
  have N5 : Hid (Own 9 w5 (.slice (some ⟨w3.heap.size, 0, none⟩) 2 2) [.string ⟨#[114, 101, 97, 108, 109]⟩, .string ⟨#[115, 101, 114, 118, 105, 99, 101]⟩] (some w3.heap.size)) := N4.out.below hb5
  have BB5 : Hid (Below w3.heap.size w3 w5) := BB4.out.trans (hb5.mono BB4.out.size)
  clear hb5 N4 BB4
  have W0 : Hid (Want w3 [.string ⟨#[114, 101, 97, 108, 109]⟩, .string ⟨#[115, 101, 114, 118, 105, 99, 101]⟩] [.string cr, .string cs] (.slice (some ⟨w3.heap.size, 0, none⟩) 2 2) (.slice (some ⟨w5.heap.size, 0, none⟩) 2 2) (some w3.heap.size) (some w5.heap.size) (w5.alloc (.cells #[.string cr, .string cs] 9))) :=
    ⟨N5.out.alloc _, own_built w5 #[.string cr, .string cs] 2 rfl (by omega), .inr (fun e => by have h1 := N5.out.lt; simp at e; omega), fun g hg => by simp at hg; omega, fun g hg => by have := BB5.out.size; simp at hg; omega, BB5.out.alloc BB5.out.size _⟩
  clear N5 BB5 CR CS
  go_wp2_with (at_builtin; refine wpList_push_at rfl (.tmp 105) (.tmp 106) rfl (w5.alloc (.cells #[.string cr, .string cs] 9)) (w5.heap.size + 1) (by simp) ⟨#[115, 99, 111, 112, 101]⟩ (.slice (some ⟨w3.heap.size, 0, none⟩) 2 2) _ (some w3.heap.size) rfl rfl W0.out.names (by simp) ?_; intro na wa Ga ona hga hGa; have Wa : Hid (Want w3 ([.string ⟨#[114, 101, 97, 108, 109]⟩, .string ⟨#[115, 101, 114, 118, 105, 99, 101]⟩] ++ [.string ⟨#[115, 99, 111, 112, 101]⟩]) [.string cr, .string cs] na (.slice (some ⟨w5.heap.size, 0, none⟩) 2 2) Ga (some w5.heap.size) wa) := W0.out.pushN ona hga hGa; clear ona hga hGa)
  have sa1 : Strs wa aT n tt := (SA1.out.below B3.out).below Wa.out.bel
  have sa2 : Strs wa aN n nn := (SA2.out.below B3.out).below Wa.out.bel
  have sa3 : Nest wa aA n g ff := (SA3.out.below B3.out).below Wa.out.bel
  refine (wire_any aT aN aA n cT cN cA tt nn g ff wa HA.out sa1 sa2 sa3).mono ?_
  rintro e wb ⟨rfl, hbb⟩
  have Wb : Hid (Want w3 ([.string ⟨#[114, 101, 97, 108, 109]⟩, .string ⟨#[115, 101, 114, 118, 105, 99, 101]⟩] ++ [.string ⟨#[115, 99, 111, 112, 101]⟩]) [.string cr, .string cs] na (.slice (some ⟨w5.heap.size, 0, none⟩) 2 2) Ga (some w5.heap.size) wb) := Wa.out.call hbb
  clear hbb Wa sa1 sa2 sa3 W0
  go_wp2_with fail
  refine (CL.out _).mono ?_
  rintro e wc ⟨rfl, hbc⟩
  have Wc : Hid (Want w3 ([.string ⟨#[114, 101, 97, 108, 109]⟩, .string ⟨#[115, 101, 114, 118, 105, 99, 101]⟩] ++ [.string ⟨#[115, 99, 111, 112, 101]⟩]) [.string cr, .string cs] na (.slice (some ⟨w5.heap.size, 0, none⟩) 2 2) Ga (some w5.heap.size) wc) := Wb.out.call hbc
  clear hbc Wb CL
  go_wp2_with (first | (at_builtin; refine wpList_push_str rfl (.tmp 108) (.tmp 114) rfl wc cl (.slice (some ⟨w5.heap.size, 0, none⟩) 2 2) _ (some w5.heap.size) rfl rfl Wc.out.vals (by simp) ?_; intro va wd Gb onb hgb hGb; have Wd : Hid (Want w3 ([.string ⟨#[114, 101, 97, 108, 109]⟩, .string ⟨#[115, 101, 114, 118, 105, 99, 101]⟩] ++ [.string ⟨#[115, 99, 111, 112, 101]⟩]) ([.string cr, .string cs] ++ [.string cl]) na va Ga Gb wd) := Wc.out.pushV onb hgb hGb; clear onb hgb hGb Wc) | (at_builtin; refine wpList_push_str rfl (.tmp 118) (.tmp 119) rfl wd ⟨#[101, 114, 114, 111, 114]⟩ na _ Ga rfl rfl Wd.out.names (by simp) ?_; intro nb we Gc onc hgc hGc; have We : Hid (Want w3 ([.string ⟨#[114, 101, 97, 108, 109]⟩, .string ⟨#[115, 101, 114, 118, 105, 99, 101]⟩] ++ [.string ⟨#[115, 99, 111, 112, 101]⟩] ++ [.string ⟨#[101, 114, 114, 111, 114]⟩]) ([.string cr, .string cs] ++ [.string cl]) nb va Gc Gb we) := Wd.out.pushN onc hgc hGc; clear onc hgc hGc Wd))
  refine (CE.out _).mono ?_
  rintro e wf ⟨rfl, hbf⟩
  have Wf : Hid (Want w3 (([.string ⟨#[114, 101, 97, 108, 109]⟩, .string ⟨#[115, 101, 114, 118, 105, 99, 101]⟩] ++ [.string ⟨#[115, 99, 111, 112, 101]⟩]) ++ [.string ⟨#[101, 114, 114, 111, 114]⟩]) ([.string cr, .string cs] ++ [.string cl]) nb va Gc Gb wf) := We.out.call hbf
  clear hbf We CE
  go_wp2_with (at_builtin; refine wpList_push_str rfl (.tmp 121) (.tmp 124) rfl wf ce va _ Gb rfl rfl Wf.out.vals (by simp) ?_; intro vb wg Gd ond hgd hGd; have Wg : Hid (Want w3 (([.string ⟨#[114, 101, 97, 108, 109]⟩, .string ⟨#[115, 101, 114, 118, 105, 99, 101]⟩] ++ [.string ⟨#[115, 99, 111, 112, 101]⟩]) ++ [.string ⟨#[101, 114, 114, 111, 114]⟩]) (([.string cr, .string cs] ++ [.string cl]) ++ [.string ce]) nb vb Gc Gd wg) := Wf.out.pushV ond hgd hGd; clear ond hgd hGd Wf)
  refine (equal_own nm 4 a1 c1 nb Gc _ (by omega) (ST1.out.below Wg.out.bel) (by rw [SN.out]; exact Wg.out.names)).mono ?_
  rintro e wy ⟨rfl, hby⟩
  have Wy : Hid (Want w3 (([.string ⟨#[114, 101, 97, 108, 109]⟩, .string ⟨#[115, 101, 114, 118, 105, 99, 101]⟩] ++ [.string ⟨#[115, 99, 111, 112, 101]⟩]) ++ [.string ⟨#[101, 114, 114, 111, 114]⟩]) (([.string cr, .string cs] ++ [.string cl]) ++ [.string ce]) nb vb Gc Gd wy) := Wg.out.call hby
  clear hby Wg ST1
  go_wp2_with fail
  refine (equal_own vl 4 a2 c2 vb Gd _ (by omega) (ST2.out.below Wy.out.bel) (by rw [SV.out]; exact Wy.out.vals)).mono ?_
  rintro e wz ⟨rfl, hbz⟩
  have BZ : Hid (Below w9.heap.size w9 wz) := B3.out.trans ((Wy.out.call hbz).bel.mono B3.out.size)
  clear hbz Wy ST2
  go_wp2
  go_ret
  exact ⟨rfl, BZ.out⟩

end Go.Proofs.Qxb6628251a
