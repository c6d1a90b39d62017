/- The walk of FnChallengeStringScopeListSplitsAtAnyCut. -/
import Derived.Test.Qxb6628251aLaw
import Derived.Test.Qxb6628251aBytesB
namespace Go.Proofs.Qxb6628251a
open Go.RowKit

set_option maxHeartbeats 4000000 in
set_option maxRecDepth 100000 in
/-- Lengths that part: true at once. -/
theorem split_uneq (realm service err : ByteArray) (aT aN aA bT bN bA : Option Addr) (n nN nA cT cN cA m mN mA dT dN dA : Nat) (tt nn : Nat → ByteArray) (g : Nat → Sl) (ff : Nat → Nat → ByteArray) (tb nb : Nat → ByteArray) (gb : Nat → Sl) (fb : Nat → Nat → ByteArray) (w : World)
    (M1 : n ≤ maxLen) (M2 : nN ≤ maxLen) (M3 : nA ≤ maxLen) (M4 : m ≤ maxLen) (M5 : mN ≤ maxLen) (M6 : mA ≤ maxLen) (MG : Hid (∀ i, i < nA → (g i).len ≤ maxLen)) (MH : Hid (∀ i, i < mA → (gb i).len ≤ maxLen))
    (SA1 : Hid (Strs w aT n tt)) (SA2 : Hid (Strs w aN nN nn)) (SA3 : Hid (Nest w aA nA g ff)) (SB1 : Hid (Strs w bT m tb)) (SB2 : Hid (Strs w bN mN nb)) (SB3 : Hid (Nest w bA mA gb fb))
    (hne : ¬ (n = nN ∧ n = nA ∧ m = mN ∧ m = mA)) :
    Calls Try.prog 4 #[.string realm, .string service, .string err, .slice aT n cT, .slice aN nN cN, .slice aA nA cA, .slice bT m dT, .slice bN mN dN, .slice bA mA dA] w fun e w' => e = .returned (.bool true) ∧ Below w.heap.size w w' := by
  go_enter Try.func4, Try.ntmps4
  go_wp2_with fail
  refine (bytes14_any realm service err aT n cT tt aN nN cN nn aA nA cA g ff bT m dT tb bN mN dN nb bA mA dA gb fb w SA1.out SA2.out SA3.out SB1.out SB2.out SB3.out).mono ?_
  rintro e w' ⟨⟨b0, rfl⟩, rfl⟩
  cases b0 with
  | false =>
    go_wp2
    go_ret
    exact ⟨rfl, Below.refl _ _⟩
  | true =>
  go_wp2_with fail
  refine (add_any 0 realm.size _ (by omega) (by omega) (by omega)).mono ?_
  rintro e w9 ⟨⟨u1, ok1, rfl, h1⟩, rfl⟩
  cases ok1 with
  | false =>
    clear h1
    go_wp2
    go_ret
    exact ⟨rfl, Below.refl _ _⟩
  | true =>
  have H1 : Hid (u1 = 0 + (realm.size : Int)) := (h1 rfl).1
  have l1 : u1 ≤ 1048576 := (h1 rfl).2
  have g1 : 0 ≤ u1 := by have := H1.out; omega
  clear h1
  go_wp2_with fail
  refine (add_any u1 service.size _ g1 l1 (by omega)).mono ?_
  rintro e w9 ⟨⟨u2, ok2, rfl, h2⟩, rfl⟩
  cases ok2 with
  | false =>
    clear h2
    go_wp2
    go_ret
    exact ⟨rfl, Below.refl _ _⟩
  | true =>
  have H2 : Hid (u2 = u1 + (service.size : Int)) := (h2 rfl).1
  have l2 : u2 ≤ 1048576 := (h2 rfl).2
  have g2 : 0 ≤ u2 := by have := H2.out; omega
  clear h2
  go_wp2_with fail
  refine (add_any u2 err.size _ g2 l2 (by omega)).mono ?_
  rintro e w9 ⟨⟨u3, ok3, rfl, h3⟩, rfl⟩
  cases ok3 with
  | false =>
    clear h3
    go_wp2
    go_ret
    exact ⟨rfl, Below.refl _ _⟩
  | true =>
  have H3 : Hid (u3 = u2 + (err.size : Int)) := (h3 rfl).1
  have l3 : u3 ≤ 1048576 := (h3 rfl).2
  have g3 : 0 ≤ u3 := by have := H3.out; omega
  clear h3
  go_wp2_with fail
  refine (scopesFit_any u3 aT aN aA n cT nN cN nA cA tt nn g ff _ g3 l3 M1 M2 M3 MG.out SA1.out SA2.out SA3.out).mono ?_
  rintro e w9 ⟨⟨u4, ok4, rfl, h4⟩, rfl⟩
  cases ok4 with
  | false =>
    clear h4
    go_wp2
    go_ret
    exact ⟨rfl, Below.refl _ _⟩
  | true =>
  have H4 : Hid (u4 = u3 + (listSum n tt nN nn nA g ff : Nat)) := (h4 rfl).1
  have l4 : u4 ≤ 1048576 := (h4 rfl).2
  have g4 : 0 ≤ u4 := by have := H4.out; omega
  clear h4
  go_wp2_with fail
  refine (scopesFit_any u4 bT bN bA m dT mN dN mA dA tb nb gb fb _ g4 l4 M4 M5 M6 MH.out SB1.out SB2.out SB3.out).mono ?_
  rintro e w9 ⟨⟨u5, ok5, rfl, h5⟩, rfl⟩
  cases ok5 with
  | false =>
    clear h5
    go_wp2
    go_ret
    exact ⟨rfl, Below.refl _ _⟩
  | true =>
  have H5 : Hid (u5 = u4 + (listSum m tb mN nb mA gb fb : Nat)) := (h5 rfl).1
  have l5 : u5 ≤ 1048576 := (h5 rfl).2
  have g5 : 0 ≤ u5 := by have := H5.out; omega
  clear h5
  clear H1 H2 H3 H4 H5 MG MH SA1 SA2 SA3 SB1 SB2 SB3 M1 M2 M3 M4 M5 M6
  by_cases e1 : n = nN
  · have f1 : ((n : Int) != (nN : Int)) = false := by simp [e1]
    by_cases e2 : n = nA
    · have f2 : ((n : Int) != (nA : Int)) = false := by simp [e2]
      by_cases e3 : m = mN
      · have f3 : ((m : Int) != (mN : Int)) = false := by simp [e3]
        have f4 : ((m : Int) != (mA : Int)) = true := by rw [bne_iff_ne]; omega
        clear e1 e2 e3 hne
        go_wp2
        go_ret
        exact ⟨rfl, Below.refl _ _⟩
      · have f3 : ((m : Int) != (mN : Int)) = true := by rw [bne_iff_ne]; omega
        clear e1 e2 e3 hne
        go_wp2
        go_ret
        exact ⟨rfl, Below.refl _ _⟩
    · have f2 : ((n : Int) != (nA : Int)) = true := by rw [bne_iff_ne]; omega
      clear e1 e2 hne
      go_wp2
      go_ret
      exact ⟨rfl, Below.refl _ _⟩
  · have f1 : ((n : Int) != (nN : Int)) = true := by rw [bne_iff_ne]; omega
    clear e1 hne
    go_wp2
    go_ret
    exact ⟨rfl, Below.refl _ _⟩


/-- 'zzb1Scopes' at any types: the scopes. -/
theorem scopes_any (a0 a1 a2 : Option Addr) (n c0 c1 c2 : Nat) (tt nn : Nat → ByteArray) (g : Nat → Sl) (ff : Nat → Nat → ByteArray) (w : World) (hl : n ≤ 1048576) (h0 : a0 = none → n = 0 ∧ c0 = 0) (s0 : Strs w a0 n tt) (s1 : Strs w a1 n nn) (s2 : Nest w a2 n g ff) (hg : ∀ i, i < n → (g i).len ≤ (g i).cap) :
    Calls Try.prog 8 #[.slice a0 n c0, .slice a1 n c1, .slice a2 n c2] w fun e w' => ∃ a' : Option Addr, e = .returned (.slice a' n n) ∧ (a' = none → n = 0) ∧ Scs w' a' n tt nn g ff ∧ Below w.heap.size w w' := by
  cases a0 with
  | none =>
    obtain ⟨rfl, rfl⟩ := h0 rfl
    refine (scopes_nil _ _ w).mono ?_
    rintro e w1 ⟨rfl, rfl⟩
    exact ⟨none, rfl, fun _ => rfl, .inl rfl, Below.refl _ _⟩
  | some x =>
    refine (scopes_some x n c0 c1 c2 a1 a2 tt nn g ff w hl s0 s1 s2 hg).mono ?_
    rintro e w1 ⟨rfl, h1, h2⟩
    exact ⟨_, rfl, fun h => (by cases h), h1, h2⟩

theorem eq_self (s : ByteArray) : (s.toList == s.toList) = true := by simp

set_option maxHeartbeats 8000000 in
set_option maxRecDepth 100000 in
theorem split_eq (realm service err : ByteArray) (aT aN aA bT bN bA : Option Addr) (n cT cN cA m dT dN dA : Nat) (tt nn : Nat → ByteArray) (g : Nat → Sl) (ff : Nat → Nat → ByteArray) (tb nb : Nat → ByteArray) (gb : Nat → Sl) (fb : Nat → Nat → ByteArray) (w : World)
    (M1 : n ≤ maxLen) (M2 : n ≤ maxLen) (M3 : n ≤ maxLen) (M4 : m ≤ maxLen) (M5 : m ≤ maxLen) (M6 : m ≤ maxLen) (MG : Hid (∀ i, i < n → (g i).len ≤ maxLen)) (MH : Hid (∀ i, i < m → (gb i).len ≤ maxLen))
    (SA1 : Hid (Strs w aT n tt)) (SA2 : Hid (Strs w aN n nn)) (SA3 : Hid (Nest w aA n g ff)) (SB1 : Hid (Strs w bT m tb)) (SB2 : Hid (Strs w bN m nb)) (SB3 : Hid (Nest w bA m gb fb))
    (G1 : Hid (∀ i, i < n → (g i).len ≤ (g i).cap)) (G2 : Hid (∀ i, i < m → (gb i).len ≤ (gb i).cap)) (N1 : Hid (aT = none → n = 0 ∧ cT = 0)) (N2 : Hid (bT = none → m = 0 ∧ dT = 0)) :
    Calls Try.prog 4 #[.string realm, .string service, .string err, .slice aT n cT, .slice aN n cN, .slice aA n cA, .slice bT m dT, .slice bN m dN, .slice bA m dA] w fun e w' => e = .returned (.bool true) ∧ Below w.heap.size w w' := by
  go_enter Try.func4, Try.ntmps4
  go_wp2_with fail
  refine (bytes14_any realm service err aT n cT tt aN n cN nn aA n cA g ff bT m dT tb bN m dN nb bA m dA gb fb w SA1.out SA2.out SA3.out SB1.out SB2.out SB3.out).mono ?_
  rintro e w' ⟨⟨b0, rfl⟩, rfl⟩
  cases b0 with
  | false =>
    go_wp2
    go_ret
    exact ⟨rfl, Below.refl _ _⟩
  | true =>
  go_wp2_with fail
  refine (add_any 0 realm.size _ (by omega) (by omega) (by omega)).mono ?_
  rintro e w9 ⟨⟨u1, ok1, rfl, h1⟩, rfl⟩
  cases ok1 with
  | false =>
    clear h1
    go_wp2
    go_ret
    exact ⟨rfl, Below.refl _ _⟩
  | true =>
  have H1 : Hid (u1 = 0 + (realm.size : Int)) := (h1 rfl).1
  have l1 : u1 ≤ 1048576 := (h1 rfl).2
  have g1 : 0 ≤ u1 := by have := H1.out; omega
  clear h1
  go_wp2_with fail
  refine (add_any u1 service.size _ g1 l1 (by omega)).mono ?_
  rintro e w9 ⟨⟨u2, ok2, rfl, h2⟩, rfl⟩
  cases ok2 with
  | false =>
    clear h2
    go_wp2
    go_ret
    exact ⟨rfl, Below.refl _ _⟩
  | true =>
  have H2 : Hid (u2 = u1 + (service.size : Int)) := (h2 rfl).1
  have l2 : u2 ≤ 1048576 := (h2 rfl).2
  have g2 : 0 ≤ u2 := by have := H2.out; omega
  clear h2
  go_wp2_with fail
  refine (add_any u2 err.size _ g2 l2 (by omega)).mono ?_
  rintro e w9 ⟨⟨u3, ok3, rfl, h3⟩, rfl⟩
  cases ok3 with
  | false =>
    clear h3
    go_wp2
    go_ret
    exact ⟨rfl, Below.refl _ _⟩
  | true =>
  have H3 : Hid (u3 = u2 + (err.size : Int)) := (h3 rfl).1
  have l3 : u3 ≤ 1048576 := (h3 rfl).2
  have g3 : 0 ≤ u3 := by have := H3.out; omega
  clear h3
  go_wp2_with fail
  refine (scopesFit_any u3 aT aN aA n cT n cN n cA tt nn g ff _ g3 l3 M1 M2 M3 MG.out SA1.out SA2.out SA3.out).mono ?_
  rintro e w9 ⟨⟨u4, ok4, rfl, h4⟩, rfl⟩
  cases ok4 with
  | false =>
    clear h4
    go_wp2
    go_ret
    exact ⟨rfl, Below.refl _ _⟩
  | true =>
  have H4 : Hid (u4 = u3 + (listSum n tt n nn n g ff : Nat)) := (h4 rfl).1
  have l4 : u4 ≤ 1048576 := (h4 rfl).2
  have g4 : 0 ≤ u4 := by have := H4.out; omega
  clear h4
  go_wp2_with fail
  refine (scopesFit_any u4 bT bN bA m dT m dN m dA tb nb gb fb _ g4 l4 M4 M5 M6 MH.out SB1.out SB2.out SB3.out).mono ?_
  rintro e w9 ⟨⟨u5, ok5, rfl, h5⟩, rfl⟩
  cases ok5 with
  | false =>
    clear h5
    go_wp2
    go_ret
    exact ⟨rfl, Below.refl _ _⟩
  | true =>
  have H5 : Hid (u5 = u4 + (listSum m tb m nb m gb fb : Nat)) := (h5 rfl).1
  have l5 : u5 ≤ 1048576 := (h5 rfl).2
  have g5 : 0 ≤ u5 := by have := H5.out; omega
  clear h5
  have hreal : realm.size ≤ 1048576 := by have := H1.out; omega
  have hserv : service.size ≤ 1048576 := by have := H2.out; omega
  have herr : err.size ≤ 1048576 := by have := H3.out; omega
  have hsum : listSum n tt n nn n g ff + listSum m tb m nb m gb fb ≤ 1048576 := by have := H4.out; have := H5.out; omega
  obtain ⟨FA, FB, FAB⟩ := Fits.cat hsum
  have hn20 : n ≤ 1048576 := FA.2.1
  have hm20 : m ≤ 1048576 := FB.2.1
  have HA : Hid (Fits n tt nn g ff) := FA
  have HB : Hid (Fits m tb nb gb fb) := FB
  have HAB : Hid (Fits (n + m) (cat n tt tb) (cat n nn nb) (cat n g gb) (cat n ff fb)) := FAB
  clear FA FB FAB hsum H1 H2 H3 H4 H5 l1 l2 l3 l4 l5 g1 g2 g3 g4 g5 MG MH M1 M2 M3 M4 M5 M6
  have f1 : ((n : Int) != (n : Int)) = false := by simp
  have f2 : ((m : Int) != (m : Int)) = false := by simp
  go_wp2_with fail
  refine (scopes_any aT aN aA n cT cN cA tt nn g ff _ hn20 N1.out SA1.out SA2.out SA3.out G1.out).mono ?_
  rintro e w1 ⟨pa, rfl, hpa, sca, hb1⟩
  have SA : Hid (Scs w1 pa n tt nn g ff) := sca
  have PA : Hid (pa = none → n = 0) := hpa
  have B1 : Hid (Below w9.heap.size w9 w1) := hb1
  have T1 : Hid (Strs w1 bT m tb) := SB1.out.below hb1
  have T2 : Hid (Strs w1 bN m nb) := SB2.out.below hb1
  have T3 : Hid (Nest w1 bA m gb fb) := SB3.out.below hb1
  clear sca hpa hb1 SA1 SA2 SA3 SB1 SB2 SB3 G1 N1
  go_wp2_with fail
  refine (scopes_any bT bN bA m dT dN dA tb nb gb fb _ hm20 N2.out T1.out T2.out T3.out G2.out).mono ?_
  rintro e w2 ⟨pb, rfl, hpb, scb, hb2⟩
  have SB : Hid (Scs w2 pb m tb nb gb fb) := scb
  have PB : Hid (pb = none → m = 0) := hpb
  have SA' : Hid (Scs w2 pa n tt nn g ff) := SA.out.below hb2
  have B2 : Hid (Below w9.heap.size w9 w2) := B1.out.trans (hb2.mono B1.out.size)
  clear scb hpb hb2 SA B1 T1 T2 T3 G2 N2
  -- the two lists, one behind the other
  have hmk := make_room ((n : Int) + (m : Int)) (n + m) (by omega) (by omega) w2
  have b3 : Below w2.heap.size w2 (w2.alloc (.cells (madeCells #[.string ⟨#[]⟩, .string ⟨#[]⟩, .slice none 0 0] ((n + m) * 3)) 45)) := (Below.refl _ _).alloc (Nat.le_refl _) _
  have r3 := made3 w2 (n + m)
  generalize hW3 : w2.alloc (.cells (madeCells #[.string ⟨#[]⟩, .string ⟨#[]⟩, .slice none 0 0] ((n + m) * 3)) 45) = W3 at b3 r3
  have ap1 := fun ty => run_append_scs (n := 0) (c := n) (SA'.out.below b3) PA.out r3 (by omega) ty
  have r4 := rowIs_setCells (news tt nn g n) (0 * 3) r3
  have b4 : Below w2.heap.size w2 (W3.setCells w2.heap.size (0 * 3) (news tt nn g n)) := below_setCells (Nat.le_refl _) _ _ b3
  have rr := row_ab (ta := tt) (tb := tb) (na := nn) (nb := nb) (ga := g) (gb := gb) r3
  generalize hW4 : W3.setCells w2.heap.size (0 * 3) (news tt nn g n) = W4 at ap1 r4 b4 rr
  have ap2 := fun ty => run_append_scs (n := 0 + n) (c := m) (SB.out.below b4) PB.out r4 (by omega) ty
  have b5 : Below w2.heap.size w2 (W4.setCells w2.heap.size ((0 + n) * 3) (news tb nb gb m)) := below_setCells (Nat.le_refl _) _ _ b4
  generalize hW5 : W4.setCells w2.heap.size ((0 + n) * 3) (news tb nb gb m) = W5 at ap2 b5 rr
  have SAB : Hid (Scs W5 (some ⟨w2.heap.size, 0, none⟩) (n + m) (cat n tt tb) (cat n nn nb) (cat n g gb) (cat n ff fb)) := scs_of_row rr (fun i hi => by
    by_cases h : i < n
    · rw [cat_lt _ _ h, cat_lt _ _ h]
      rcases SA'.out with hz | ⟨_, _, _, _, hc⟩
      · omega
      · exact ⟨(hc i h).2.2.2.1.below b5, (hc i h).2.2.2.2⟩
    · rw [cat_ge _ _ h, cat_ge _ _ h]
      rcases SB.out with hz | ⟨_, _, _, _, hc⟩
      · omega
      · exact ⟨(hc (i - n) (by omega)).2.2.2.1.below b5, (hc (i - n) (by omega)).2.2.2.2⟩)
  have SA5 : Hid (Scs W5 pa n tt nn g ff) := SA'.out.below b5
  have SB5 : Hid (Scs W5 pb m tb nb gb fb) := SB.out.below b5
  have B5 : Hid (Below w9.heap.size w9 W5) := B2.out.trans (b5.mono B2.out.size)
  clear b3 r3 r4 b4 rr hW4 hW5 b5 SA' SB B2 PA PB
  simp only [Nat.zero_add] at ap1 ap2
  rw [hW3] at hmk
  clear hW3
  have AP1 : Hid (∀ ty, (Builtin.append_ #[28, 28] ty #[.slice (some ⟨w2.heap.size, 0, none⟩) 0 (n + m), .slice pa n n]).run Try.prog W3 = .ok (.slice (some ⟨w2.heap.size, 0, none⟩) n (n + m)) W4) := ap1
  have AP2 : Hid (∀ ty, (Builtin.append_ #[28, 28] ty #[.slice (some ⟨w2.heap.size, 0, none⟩) n (n + m), .slice pb m m]).run Try.prog W4 = .ok (.slice (some ⟨w2.heap.size, 0, none⟩) (n + m) (n + m)) W5) := ap2
  clear ap1 ap2
  go_wp2_with (first | (at_builtin; refine wpList_append_eq rfl (.tmp 135) (.tmp 136) 28 28 rfl _ _ _ rfl rfl AP1.out ?_) | (at_builtin; refine wpList_append_eq rfl (.tmp 138) (.tmp 139) 28 28 rfl _ _ _ rfl rfl AP2.out ?_))
  -- the five headers
  obtain ⟨tA1, tA2⟩ := HA.out.text
  obtain ⟨tB1, tB2⟩ := HB.out.text
  obtain ⟨lA1, lA2, lA3⟩ := header_len realm service err (listText n tt nn g ff) hreal hserv herr tA1
  obtain ⟨_, lB2, _⟩ := header_len realm service err (listText m tb nb gb fb) hreal hserv herr tB1
  obtain ⟨sa, esa⟩ : ∃ sa : ByteArray, ⟨(header realm service n (listText n tt nn g ff) err).toArray⟩ = sa := ⟨_, rfl⟩
  obtain ⟨sb, esb⟩ : ∃ sb : ByteArray, ⟨(header realm service m (listText m tb nb gb fb) err).toArray⟩ = sb := ⟨_, rfl⟩
  obtain ⟨sab, esab⟩ : ∃ sab : ByteArray, ⟨(header realm service (n + m) (listText (n + m) (cat n tt tb) (cat n nn nb) (cat n g gb) (cat n ff fb)) err).toArray⟩ = sab := ⟨_, rfl⟩
  obtain ⟨hB, ehB⟩ : ∃ hB : ByteArray, ⟨(header realm service 0 (listText 0 tt nn g ff) ⟨#[]⟩).toArray⟩ = hB := ⟨_, rfl⟩
  obtain ⟨ne, ene⟩ : ∃ ne : ByteArray, ⟨(header realm service 0 (listText 0 tt nn g ff) err).toArray⟩ = ne := ⟨_, rfl⟩
  obtain ⟨tl, etl⟩ : ∃ tl : ByteArray, ⟨(errP err).toArray⟩ = tl := ⟨_, rfl⟩
  have ESA : Hid (⟨(header realm service n (listText n tt nn g ff) err).toArray⟩ = sa) := esa
  have ESB : Hid (⟨(header realm service m (listText m tb nb gb fb) err).toArray⟩ = sb) := esb
  have ESAB : Hid (⟨(header realm service (n + m) (listText (n + m) (cat n tt tb) (cat n nn nb) (cat n g gb) (cat n ff fb)) err).toArray⟩ = sab) := esab
  have EHB : Hid (⟨(header realm service 0 (listText 0 tt nn g ff) ⟨#[]⟩).toArray⟩ = hB) := ehB
  have ENE : Hid (⟨(header realm service 0 (listText 0 tt nn g ff) err).toArray⟩ = ne) := ene
  have ETL : Hid (⟨(errP err).toArray⟩ = tl) := etl
  have EH2 : Hid (⟨(hd realm service).toArray⟩ = hB) := by have := EHB.out; rw [header_bare] at this; exact this
  have EN2 : Hid (⟨(hd realm service ++ errP err).toArray⟩ = ne) := by have := ENE.out; rw [header_none] at this; exact this
  clear esa esb esab ehB ene etl
  refine (chal_any realm service err pa n n tt nn g ff W5 hreal hserv herr HA.out SA5.out).mono ?_
  rintro e w6 ⟨rfl, hb6⟩
  rw [ESA.out]
  have SB6 : Hid (Scs w6 pb m tb nb gb fb) := SB5.out.below hb6
  have SAB6 : Hid (Scs w6 (some ⟨w2.heap.size, 0, none⟩) (n + m) (cat n tt tb) (cat n nn nb) (cat n g gb) (cat n ff fb)) := SAB.out.below hb6
  have B6 : Hid (Below w9.heap.size w9 w6) := B5.out.trans (hb6.mono B5.out.size)
  clear hb6 SA5 SB5 SAB B5 AP1 AP2 hmk
  go_wp2_with fail
  refine (chal_any realm service err pb m m tb nb gb fb w6 hreal hserv herr HB.out SB6.out).mono ?_
  rintro e w7 ⟨rfl, hb7⟩
  rw [ESB.out]
  have SAB7 : Hid (Scs w7 (some ⟨w2.heap.size, 0, none⟩) (n + m) (cat n tt tb) (cat n nn nb) (cat n g gb) (cat n ff fb)) := SAB6.out.below hb7
  have B7 : Hid (Below w9.heap.size w9 w7) := B6.out.trans (hb7.mono B6.out.size)
  clear hb7 SB6 SAB6 B6
  go_wp2_with fail
  refine (chal_any realm service err (some ⟨w2.heap.size, 0, none⟩) (n + m) (n + m) (cat n tt tb) (cat n nn nb) (cat n g gb) (cat n ff fb) w7 hreal hserv herr HAB.out SAB7.out).mono ?_
  rintro e w8 ⟨rfl, hb8⟩
  rw [ESAB.out]
  have B8 : Hid (Below w9.heap.size w9 w8) := B7.out.trans (hb8.mono B7.out.size)
  clear hb8 SAB7 B7
  go_wp2_with fail
  refine (chal_any realm service ⟨#[]⟩ none 0 0 tt nn g ff w8 hreal hserv (by show 0 ≤ _; omega) (fits_zero tt nn g ff) (.inl rfl)).mono ?_
  rintro e w10 ⟨rfl, hb10⟩
  rw [EHB.out]
  have B10 : Hid (Below w9.heap.size w9 w10) := B8.out.trans (hb10.mono B8.out.size)
  clear hb10 B8
  go_wp2_with fail
  refine (chal_any realm service err none 0 0 tt nn g ff w10 hreal hserv herr (fits_zero tt nn g ff) (.inl rfl)).mono ?_
  rintro e w11 ⟨rfl, hb11⟩
  rw [ENE.out]
  have B11 : Hid (Below w9.heap.size w9 w11) := B10.out.trans (hb11.mono B10.out.size)
  clear hb11 B10
  -- the opening, the tail
  have HP1 : Hid (∀ W, Calls Try.prog 15 #[.string hB, .string ⟨#[66, 101, 97, 114, 101, 114, 32, 114, 101, 97, 108, 109, 61, 34]⟩] W fun e w' => e = .returned (.bool true) ∧ w' = W) := by
    intro W
    obtain ⟨t, ht⟩ := hd_opens realm service
    rw [← EH2.out, ht]
    exact hasPrefix_list _ t W
  have HP2 : Hid (∀ W, Calls Try.prog 15 #[.string ne, .string hB] W fun e w' => e = .returned (.bool true) ∧ w' = W) := by
    intro W
    rw [← EH2.out, ← EN2.out]
    exact hasPrefix_list _ _ W
  have hhs : hB.size ≤ ne.size := by rw [← EH2.out, ← EN2.out, ba_size, ba_size]; simp
  have hext : ne.extract hB.size ne.size = tl := by
    rw [← EH2.out, ← EN2.out, ← ETL.out, ba_size, ba_size, ext_list, List.take_of_length_le (Nat.le_refl _), List.drop_left]
  obtain ⟨q, hq1, hq2⟩ : ∃ q : Bool, tl.toList.isEmpty = q ∧ err.toList.isEmpty = q := ⟨_, by rw [← ETL.out]; exact errP_empty err, rfl⟩
  have hhs' : (hB.size : Int) ≤ (ne.size : Int) := by omega
  have hne20 : ne.size ≤ 33554432 := by rw [← EN2.out, ba_size]; simp; omega
  go_wp2_with fail
  refine (HP1.out _).mono ?_
  rintro e w12 ⟨rfl, rfl⟩
  go_wp2_with fail
  refine (HP2.out _).mono ?_
  rintro e w13 ⟨rfl, rfl⟩
  have MA : Hid (0 < n → ∀ W, Calls Try.prog 16 #[.string sa, .string hB, .string tl] W fun e w' => e = .returned (.tuple #[.string ⟨(quote ⟨(listText n tt nn g ff).toArray⟩).toArray⟩, .bool true]) ∧ w' = W) := by
    intro hn0 W
    rw [← ESA.out, ← EH2.out, ← ETL.out, header_some _ _ _ _ _ hn0]
    exact mid_list _ _ _ W (by omega)
  have MB : Hid (0 < m → ∀ W, Calls Try.prog 16 #[.string sb, .string hB, .string tl] W fun e w' => e = .returned (.tuple #[.string ⟨(quote ⟨(listText m tb nb gb fb).toArray⟩).toArray⟩, .bool true]) ∧ w' = W) := by
    intro hn0 W
    rw [← ESB.out, ← EH2.out, ← ETL.out, header_some _ _ _ _ _ hn0]
    exact mid_list _ _ _ W (by omega)
  have MAB : Hid (0 < n → 0 < m → ∀ W, Calls Try.prog 16 #[.string sab, .string hB, .string tl] W fun e w' => e = .returned (.tuple #[.string ⟨(quote ⟨(listText n tt nn g ff).toArray⟩ ++ 32 :: quote ⟨(listText m tb nb gb fb).toArray⟩).toArray⟩, .bool true]) ∧ w' = W) := by
    intro hn0 hm0 W
    rw [← ESAB.out, ← EH2.out, ← ETL.out, header_some _ _ _ _ _ (by omega), text_cat n m tt tb nn nb g gb ff fb hn0 hm0, quote_join]
    exact mid_list _ _ _ W (by simp; omega)
  have EA0 : Hid (n = 0 → sa = ne) := by
    intro h
    rw [← ESA.out, ← EN2.out, h, header_none]
  have EB0 : Hid (m = 0 → sb = ne) := by
    intro h
    rw [← ESB.out, ← EN2.out, h, header_none]
  have EAB0 : Hid (n = 0 → sab = sb) := by
    intro h
    subst h
    rw [← ESAB.out, ← ESB.out, text_right, Nat.zero_add]
  have EBA0 : Hid (m = 0 → sab = sa) := by
    intro h
    subst h
    rw [← ESAB.out, ← ESA.out, text_left, Nat.add_zero]
  clear HP1 HP2 ESA ESB ESAB EHB ENE ETL EH2 EN2 HA HB HAB tA1 tA2 tB1 tB2 hreal hserv herr
  by_cases hn0 : n = 0
  · have z1 : ((n : Int) == 0) = true := by simp [hn0]
    have z2 := EA0.out hn0
    have z3 := EAB0.out hn0
    have Y2 : (sa.toList == ne.toList) = true := by rw [z2]; exact eq_self _
    have Y3 : (sab.toList == sb.toList) = true := by rw [z3]; exact eq_self _
    by_cases hm0 : m = 0
    · have y1 : ((m : Int) == 0) = true := by simp [hm0]
      have z4 := EB0.out hm0
      have Y4 : (sb.toList == ne.toList) = true := by rw [z4]; exact eq_self _
      have Y5 : (sab.toList == ne.toList) = true := by rw [z3, z4]; exact eq_self _
      clear z2 z3 z4 hn0 hm0 MA MB MAB
      go_wp2
      go_ret
      exact ⟨rfl, B11.out⟩
    · have y1 : ((m : Int) == 0) = false := by simp [hm0]
      have hm1 : 0 < m := by omega
      clear z2 z3 hn0 hm0
      go_wp2_with fail
      refine (MB.out hm1 _).mono ?_
      rintro e w14 ⟨rfl, rfl⟩
      go_wp2
      go_ret
      exact ⟨rfl, B11.out⟩
  · have z1 : ((n : Int) == 0) = false := by simp [hn0]
    have hn1 : 0 < n := by omega
    by_cases hm0 : m = 0
    · have y1 : ((m : Int) == 0) = true := by simp [hm0]
      have z4 := EB0.out hm0
      have z5 := EBA0.out hm0
      have Y4 : (sb.toList == ne.toList) = true := by rw [z4]; exact eq_self _
      have Y5 : (sab.toList == sa.toList) = true := by rw [z5]; exact eq_self _
      clear z4 z5 hn0 hm0
      go_wp2_with fail
      refine (MA.out hn1 _).mono ?_
      rintro e w14 ⟨rfl, rfl⟩
      go_wp2
      go_ret
      exact ⟨rfl, B11.out⟩
    · have y1 : ((m : Int) == 0) = false := by simp [hm0]
      have hm1 : 0 < m := by omega
      obtain ⟨qa, eqa⟩ : ∃ qa : List UInt8, quote ⟨(listText n tt nn g ff).toArray⟩ = qa := ⟨_, rfl⟩
      obtain ⟨qb, eqb⟩ : ∃ qb : List UInt8, quote ⟨(listText m tb nb gb fb).toArray⟩ = qb := ⟨_, rfl⟩
      obtain ⟨ma, ema⟩ : ∃ ma : ByteArray, ⟨qa.toArray⟩ = ma := ⟨_, rfl⟩
      obtain ⟨mb, emb⟩ : ∃ mb : ByteArray, ⟨qb.toArray⟩ = mb := ⟨_, rfl⟩
      obtain ⟨mab, emab⟩ : ∃ mab : ByteArray, ⟨(qa ++ 32 :: qb).toArray⟩ = mab := ⟨_, rfl⟩
      obtain ⟨x1, ex1⟩ : ∃ x1 : ByteArray, ⟨(qa ++ [32]).toArray⟩ = x1 := ⟨_, rfl⟩
      have CA : Hid (∀ W, Calls Try.prog 16 #[.string sa, .string hB, .string tl] W fun e w' => e = .returned (.tuple #[.string ma, .bool true]) ∧ w' = W) := by
        have h := MA.out hn1
        rw [eqa, ema] at h
        exact h
      have CB : Hid (∀ W, Calls Try.prog 16 #[.string sb, .string hB, .string tl] W fun e w' => e = .returned (.tuple #[.string mb, .bool true]) ∧ w' = W) := by
        have h := MB.out hm1
        rw [eqb, emb] at h
        exact h
      have CAB : Hid (∀ W, Calls Try.prog 16 #[.string sab, .string hB, .string tl] W fun e w' => e = .returned (.tuple #[.string mab, .bool true]) ∧ w' = W) := by
        have h := MAB.out hn1 hm1
        rw [eqa, eqb, emab] at h
        exact h
      rw [eqa] at lA2
      rw [eqb] at lB2
      have s1 : ma.size = qa.length := by rw [← ema, ba_size]
      have s2 : mb.size = qb.length := by rw [← emb, ba_size]
      have a1 : ∀ w, (Op.stringOp .add ma ⟨#[32]⟩).run Try.prog w = .ok (.string x1) w := fun w => by
        rw [run_string_add_sum w _ _ (by show _ + 1 ≤ _; omega), ba_append, ← ema, ← ex1]
      have a2 : ∀ w, (Op.stringOp .add x1 mb).run Try.prog w = .ok (.string mab) w := fun w => by
        rw [run_string_add_sum w _ _ (by rw [← ex1, ba_size, s2]; simp; omega), ba_append, ← ex1, ← emb, ← emab]
        simp
      have Y6 := eq_self mab
      clear s1 s2 eqa eqb ema emb emab ex1 MA MB MAB hn0 hm0 lA2 lB2 EA0 EB0 EAB0 EBA0
      go_wp2_with fail
      refine (CA.out _).mono ?_
      rintro e w14 ⟨rfl, rfl⟩
      go_wp2_with fail
      refine (CB.out _).mono ?_
      rintro e w15 ⟨rfl, rfl⟩
      go_wp2_with fail
      refine (CAB.out _).mono ?_
      rintro e w16 ⟨rfl, rfl⟩
      go_wp2
      go_ret
      exact ⟨rfl, B11.out⟩

end Go.Proofs.Qxb6628251a
