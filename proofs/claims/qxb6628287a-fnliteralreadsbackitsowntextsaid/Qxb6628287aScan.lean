/- The walks of the functions that both statements go through. -/
import Derived.Test.Qxb6628287aRows
import Derived.Test.Qxb6628287aPlain
import Derived.WalkKit
import Derived.ProofKit
import Derived.Below
import Derived.WalkSpells
import Derived.Deep.OwnRows
import Derived.Deep.QuietTactic
import Derived.BigQuiet
import Derived.RegionTactic
import Derived.Deep.LoopGhost
import Derived.WalkSmall
namespace Go.Proofs.Qxb6628287a
open Go.RowKit Go.Proofs.Qxb6628287a.Plain

theorem ret_bool {a b : Bool} (h : a = b) : Ending.returned (.bool a) = .returned (.bool b) := by rw [h]

/-- The bytes of a text, as numbers. -/
def ch (s : ByteArray) (i : Nat) : Nat := (s.data.toList.getD i 0).toNat

theorem idx (s : ByteArray) (i : Nat) (hi : i < s.size) : (s[i]'hi).toNat = ch s i := by
  have hi' : i < s.data.toList.length := hi
  unfold ch
  rw [List.getD_eq_getElem?_getD, List.getElem?_eq_getElem hi']
  rfl

theorem sp_cases (c : Nat) : c = 32 ∨ c = 9 ∨ c = 10 ∨ c = 13 ∨ (((c : Int) == 32) = false ∧ ((c : Int) == 9) = false ∧ ((c : Int) == 10) = false ∧ ((c : Int) == 13) = false ∧ sp c = false) := by
  by_cases h1 : c = 32
  · exact .inl h1
  by_cases h2 : c = 9
  · exact .inr (.inl h2)
  by_cases h3 : c = 10
  · exact .inr (.inr (.inl h3))
  by_cases h4 : c = 13
  · exact .inr (.inr (.inr (.inl h4)))
  refine .inr (.inr (.inr (.inr ⟨?_, ?_, ?_, ?_, by simp [sp, h1, h2, h3, h4]⟩)))
  all_goals (simp; omega)

theorem isSpace_any (c : Nat) (w : World) : Calls Try.prog 9 #[.int .u8 (c : Int)] w fun e w' => e = .returned (.bool (sp c)) ∧ w' = w := by
  rcases sp_cases c with h | h | h | h | ⟨b1, b2, b3, b4, hs⟩
  · subst h
    go_enter Try.func9, Try.ntmps9
    go_wp2
    go_ret
    exact ⟨rfl, rfl⟩
  · subst h
    go_enter Try.func9, Try.ntmps9
    go_wp2
    go_ret
    exact ⟨rfl, rfl⟩
  · subst h
    go_enter Try.func9, Try.ntmps9
    go_wp2
    go_ret
    exact ⟨rfl, rfl⟩
  · subst h
    go_enter Try.func9, Try.ntmps9
    go_wp2
    go_ret
    exact ⟨rfl, rfl⟩
  have HS : Hid (sp c = false) := hs
  clear hs
  go_enter Try.func9, Try.ntmps9
  go_wp2
  go_ret
  exact ⟨ret_bool HS.out.symm, rfl⟩

theorem newScanner_any (text : ByteArray) (off : Int) (w : World) :
    Calls Try.prog 6 #[.string text, .int .i64 off] w fun e w' => e = .returned (.pointer (some ⟨w.heap.size, 0, none⟩)) ∧ w' = w.alloc (.cells #[.string text, .int .i64 off] 31) := by
  go_enter Try.func6, Try.ntmps6
  go_wp2
  go_ret
  exact ⟨rfl, rfl⟩

theorem at_any (N : Nat) (v : Int) (w : World) (h : w.cell? ⟨N, 1, none⟩ = some (.int .i64 v)) : Calls Try.prog 8 #[.pointer (some ⟨N, 0, none⟩)] w fun e w' => e = .returned (.int .i64 v) ∧ w' = w := by
  go_enter Try.func8, Try.ntmps8
  go_wp2
  go_ret
  exact ⟨rfl, rfl⟩

theorem box_cells (w : World) (x y : Value) : (w.alloc (.cells #[x, y] 31)).cell? ⟨w.heap.size, 0, none⟩ = some x ∧ (w.alloc (.cells #[x, y] 31)).cell? ⟨w.heap.size, 1, none⟩ = some y ∧ (w.alloc (.cells #[x, y] 31)).frozen? ⟨w.heap.size, 1, none⟩ = false := by
  refine ⟨?_, ?_, ?_⟩ <;> go_simp

theorem skip_step {N len off k n : Nat} {text : ByteArray} {z : Nat → Nat} {w wr : World} (hk1 : off ≤ k) (hlt : k < len) (hrun : Hid (∀ i, off ≤ i → i < k → sp (z i) = true)) (hsp : Hid (sp (z k) = true))
    (g0 : wr.cell? ⟨N, 0, none⟩ = some (.string text)) (g1 : wr.cell? ⟨N, 1, none⟩ = some (.int .i64 k)) (gf : wr.frozen? ⟨N, 1, none⟩ = false) (hbel : Below N w wr) :
    ∃ k' : Nat, off ≤ k' ∧ k' ≤ len ∧ len - (k + 1) = len - k' ∧ Hid (∀ i, off ≤ i → i < k' → sp (z i) = true) ∧ ((wr.drewN n).setCell ⟨N, 1, none⟩ (.int .i64 ((k : Int) + 1))).cell? ⟨N, 0, none⟩ = some (.string text) ∧
      ((wr.drewN n).setCell ⟨N, 1, none⟩ (.int .i64 ((k : Int) + 1))).cell? ⟨N, 1, none⟩ = some (.int .i64 k') ∧ ((wr.drewN n).setCell ⟨N, 1, none⟩ (.int .i64 ((k : Int) + 1))).frozen? ⟨N, 1, none⟩ = false ∧
      Below N w ((wr.drewN n).setCell ⟨N, 1, none⟩ (.int .i64 ((k : Int) + 1))) := by
  have d0 : (wr.drewN n).cell? ⟨N, 0, none⟩ = some (.string text) := g0
  have d1 : (wr.drewN n).cell? ⟨N, 1, none⟩ = some (.int .i64 k) := g1
  have d2 : (wr.drewN n).frozen? ⟨N, 1, none⟩ = false := gf
  refine ⟨k + 1, by omega, by omega, rfl, fun i a c => ?_, ?_, ?_, ?_, (below_drewN hbel n).setCell (Nat.le_refl _) _⟩
  · by_cases h : i = k
    · subst h; exact hsp.out
    · exact hrun.out i a (by omega)
  · go_simp
  · go_simp
  · go_simp

set_option maxHeartbeats 1000000 in
theorem skipSpace_any (N off : Nat) (text : ByteArray) (z : Nat → Nat) (w : World) (hidx : ∀ (i : Nat) (hi : i < text.size), (text[i]'hi).toNat = z i) (hl : text.size ≤ 1048577) (ho : off ≤ text.size)
    (h0 : w.cell? ⟨N, 0, none⟩ = some (.string text)) (h1 : w.cell? ⟨N, 1, none⟩ = some (.int .i64 off)) (hf : w.frozen? ⟨N, 1, none⟩ = false) :
    Calls Try.prog 12 #[.pointer (some ⟨N, 0, none⟩)] w fun e w' => e = .returned (.tuple #[]) ∧ ∃ r : Nat, IsStop z text.size off r ∧ w'.cell? ⟨N, 0, none⟩ = some (.string text) ∧ w'.cell? ⟨N, 1, none⟩ = some (.int .i64 r) ∧ w'.frozen? ⟨N, 1, none⟩ = false ∧ Below N w w' := by
  go_enter Try.func12, Try.ntmps12
  go_wp2
  go_loopg [] (text.size - off) (fun n wr => ∃ k : Nat, off ≤ k ∧ k ≤ text.size ∧ n = text.size - k ∧ Hid (∀ i, off ≤ i → i < k → sp (z i) = true) ∧ wr.cell? ⟨N, 0, none⟩ = some (.string text) ∧ wr.cell? ⟨N, 1, none⟩ = some (.int .i64 k) ∧ wr.frozen? ⟨N, 1, none⟩ = false ∧ Below N w wr)
  case atStart => exact ⟨off, Nat.le_refl _, ho, rfl, fun i a b => absurd b (by omega), h0, h1, hf, Below.refl _ _⟩
  case round =>
    obtain ⟨k, hk1, hk2, rfl, hrun, g0, g1, gf, hbel⟩ := hrel
    clear h0 h1 hf
    by_cases hlt : k < text.size
    · have hi : (k : Int) < (text.size : Int) := by omega
      have hi0 : (0 : Int) ≤ (k : Int) := by omega
      rcases sp_cases (z k) with hz | hz | hz | hz | ⟨n1, n2, n3, n4, hz⟩
      · have hsp : Hid (sp (z k) = true) := by unfold Hid; rw [hz]; rfl
        go_wp2
        go_quiet (fail)
        go_wp2
        go_quiet (fail)
        go_wp2
        go_roundg (text.size - (k + 1))
        case rel => exact skip_step hk1 hlt hrun hsp g0 g1 gf hbel
        case measure => omega
      · have hsp : Hid (sp (z k) = true) := by unfold Hid; rw [hz]; rfl
        go_wp2
        go_quiet (fail)
        go_wp2
        go_quiet (fail)
        go_wp2
        go_roundg (text.size - (k + 1))
        case rel => exact skip_step hk1 hlt hrun hsp g0 g1 gf hbel
        case measure => omega
      · have hsp : Hid (sp (z k) = true) := by unfold Hid; rw [hz]; rfl
        go_wp2
        go_quiet (fail)
        go_wp2
        go_quiet (fail)
        go_wp2
        go_roundg (text.size - (k + 1))
        case rel => exact skip_step hk1 hlt hrun hsp g0 g1 gf hbel
        case measure => omega
      · have hsp : Hid (sp (z k) = true) := by unfold Hid; rw [hz]; rfl
        go_wp2
        go_quiet (fail)
        go_wp2
        go_quiet (fail)
        go_wp2
        go_roundg (text.size - (k + 1))
        case rel => exact skip_step hk1 hlt hrun hsp g0 g1 gf hbel
        case measure => omega
      · have hsp : Hid (sp (z k) = false) := hz
        clear hz
        go_wp2
        go_quiet (fail)
        go_wp2
        go_quiet (fail)
        go_wp2
        refine bodyPost_ret (results_none rfl _ _ _) rfl ?_
        exact ⟨rfl, k, ⟨hk1, hk2, hrun.out, fun _ => hsp.out⟩, g0, g1, gf, below_drewN hbel _⟩
    · have hke : k = text.size := by omega
      have hnl : ¬ (k : Int) < (text.size : Int) := by omega
      have HE : Hid (k = text.size) := hke
      clear hke
      go_wp2
      go_quiet (fail)
      go_wp2
      go_end0
      exact ⟨rfl, k, ⟨hk1, hk2, hrun.out, fun h => absurd h hlt⟩, g0, g1, gf, below_drewN hbel _⟩

/-! ### strings.HasPrefix -/

theorem hp14_yes (s p : ByteArray) (w : World) (h1 : p.size ≤ s.size) (h2 : ((s.extract 0 p.size).toList == p.toList) = true) :
    Calls Try.prog 14 #[.string s, .string p] w fun e w' => e = .returned (.bool true) ∧ w' = w := by
  have h1' : (p.size : Int) ≤ (s.size : Int) := by omega
  go_enter Try.func14, Try.ntmps14
  go_wp2
  go_ret
  exact ⟨rfl, rfl⟩

theorem hp14_other (s p : ByteArray) (w : World) (h1 : p.size ≤ s.size) (h2 : ((s.extract 0 p.size).toList == p.toList) = false) :
    Calls Try.prog 14 #[.string s, .string p] w fun e w' => e = .returned (.bool false) ∧ w' = w := by
  have h1' : (p.size : Int) ≤ (s.size : Int) := by omega
  go_enter Try.func14, Try.ntmps14
  go_wp2
  go_ret
  exact ⟨rfl, rfl⟩

theorem hp14_short (s p : ByteArray) (w : World) (h1 : s.size < p.size) :
    Calls Try.prog 14 #[.string s, .string p] w fun e w' => e = .returned (.bool false) ∧ w' = w := by
  have h1' : ¬ (p.size : Int) ≤ (s.size : Int) := by omega
  go_enter Try.func14, Try.ntmps14
  go_wp2
  go_ret
  exact ⟨rfl, rfl⟩

theorem ext_take (s : ByteArray) (n : Nat) : (s.extract 0 n).toList = s.data.toList.take n := by
  rw [ByteArray.toList_eq, ByteArray.data_extract]
  simp

theorem hasPrefix_any (s p : ByteArray) (w : World) : Calls Try.prog 13 #[.string s, .string p] w fun e w' => e = .returned (.bool (p.data.toList.isPrefixOf s.data.toList)) ∧ w' = w := by
  have key : Calls Try.prog 14 #[.string s, .string p] w fun e w' => e = .returned (.bool (p.data.toList.isPrefixOf s.data.toList)) ∧ w' = w := by
    by_cases h1 : p.size ≤ s.size
    · cases h2 : ((s.extract 0 p.size).toList == p.toList) with
      | true =>
        have e : p.data.toList.isPrefixOf s.data.toList = true := by
          rw [List.isPrefixOf_iff_prefix, List.prefix_iff_eq_take]
          rw [ext_take, ByteArray.toList_eq, beq_iff_eq] at h2
          exact h2.symm
        rw [e]
        exact hp14_yes s p w h1 h2
      | false =>
        have e : p.data.toList.isPrefixOf s.data.toList = false := by
          cases hp : p.data.toList.isPrefixOf s.data.toList with
          | false => rfl
          | true =>
            rw [List.isPrefixOf_iff_prefix, List.prefix_iff_eq_take] at hp
            rw [ext_take, ByteArray.toList_eq] at h2
            have : (s.data.toList.take p.size == p.data.toList) = true := by rw [beq_iff_eq]; exact hp.symm
            rw [this] at h2
            cases h2
        rw [e]
        exact hp14_other s p w h1 h2
    · have e : p.data.toList.isPrefixOf s.data.toList = false := by
        cases hp : p.data.toList.isPrefixOf s.data.toList with
        | false => rfl
        | true =>
          rw [List.isPrefixOf_iff_prefix] at hp
          have := hp.length_le
          exact absurd this h1
      rw [e]
      exact hp14_short s p w (by omega)
  have K : Hid (Calls Try.prog 14 #[.string s, .string p] w fun e w' => e = .returned (.bool (p.data.toList.isPrefixOf s.data.toList)) ∧ w' = w) := key
  clear key
  generalize p.data.toList.isPrefixOf s.data.toList = b at *
  go_enter Try.func13, Try.ntmps13
  go_wp2_with fail
  refine K.out.mono ?_
  rintro e w1 ⟨rfl, rfl⟩
  go_wp2
  go_ret
  exact ⟨rfl, rfl⟩

theorem ext_drop (s : ByteArray) (n : Nat) : (s.extract n s.size).data.toList = s.data.toList.drop n := by
  rw [ByteArray.data_extract]
  have e : s.size = s.data.toList.length := rfl
  simp
  exact List.take_of_length_le (by rw [List.length_drop, e]; omega)

set_option maxHeartbeats 1000000 in
/-- 'Literal' on a scanner just made. -/
theorem literal_any (text word : ByteArray) (off : Nat) (w : World) (hl : text.size ≤ 1048576) (hw : word.size ≤ 1048577) (ho : off ≤ text.size) :
    Calls Try.prog 7 #[.pointer (some ⟨w.heap.size, 0, none⟩), .string word] (w.alloc (.cells #[.string text, .int .i64 off] 31)) fun e w' => ∃ r : Nat, IsStop (ch text) text.size off r ∧ e = .returned (.bool (fits text.data.toList r word.data.toList)) ∧ w'.cell? ⟨w.heap.size, 1, none⟩ = some (.int .i64 (if fits text.data.toList r word.data.toList then r + word.size else r : Nat)) ∧ Below w.heap.size w w' := by
  obtain ⟨c0, c1, c2⟩ := box_cells w (.string text) (.int .i64 off)
  have hb0 : Below w.heap.size w (w.alloc (.cells #[.string text, .int .i64 off] 31)) := (Below.refl _ _).alloc (Nat.le_refl _) _
  generalize hW : w.alloc (.cells #[.string text, .int .i64 off] 31) = W at *
  clear hW
  have SK : Hid (Calls Try.prog 12 #[.pointer (some ⟨w.heap.size, 0, none⟩)] W fun e w' => e = .returned (.tuple #[]) ∧ ∃ r : Nat, IsStop (ch text) text.size off r ∧ w'.cell? ⟨w.heap.size, 0, none⟩ = some (.string text) ∧ w'.cell? ⟨w.heap.size, 1, none⟩ = some (.int .i64 r) ∧ w'.frozen? ⟨w.heap.size, 1, none⟩ = false ∧ Below w.heap.size W w') :=
    skipSpace_any w.heap.size off text (ch text) W (idx text) (by omega) ho c0 c1 c2
  have HB0 : Hid (Below w.heap.size w W) := hb0
  clear c0 c1 c2 hb0
  go_enter Try.func7, Try.ntmps7
  go_wp2_with fail
  refine SK.out.mono ?_
  rintro e w1 ⟨rfl, r, hr, d0, d1, d2, hb1⟩
  have R : Hid (IsStop (ch text) text.size off r) := hr
  have B1 : Hid (Below w.heap.size w w1) := HB0.out.trans hb1
  have hrl : r ≤ text.size := hr.hi
  have hrl' : (r : Int) ≤ (text.size : Int) := by omega
  have hr0 : (0 : Int) ≤ (r : Int) := by omega
  clear hr hb1 SK HB0
  obtain ⟨x, hx⟩ : ∃ x, text.extract r text.size = x := ⟨_, rfl⟩
  have HX : Hid (x.data.toList = text.data.toList.drop r) := by unfold Hid; rw [← hx]; exact ext_drop text r
  cases hf : fits text.data.toList r word.data.toList with
  | true =>
    have HP : Hid (∀ W, Calls Try.prog 13 #[.string x, .string word] W fun e w' => e = .returned (.bool true) ∧ w' = W) := by
      intro W
      have h := hasPrefix_any x word W
      rw [HX.out] at h
      unfold fits at hf
      rw [hf] at h
      exact h
    have HF : Hid (fits text.data.toList r word.data.toList = true) := hf
    clear hf HX
    go_wp2
    go_quiet ((go_at_call 13; exact Calls.quiet_of_same (HP.out _)))
    go_wp2
    go_ret
    refine ⟨r, R.out, ret_bool HF.out.symm, ?_, (below_drewN B1.out _).setCell (by exact Nat.le_refl _) _⟩
    rw [HF.out, if_pos rfl]
    have e1 : (w1.drewN nq).cell? ⟨w.heap.size, 1, none⟩ = some (.int .i64 r) := d1
    go_simp
  | false =>
    have HP : Hid (∀ W, Calls Try.prog 13 #[.string x, .string word] W fun e w' => e = .returned (.bool false) ∧ w' = W) := by
      intro W
      have h := hasPrefix_any x word W
      rw [HX.out] at h
      unfold fits at hf
      rw [hf] at h
      exact h
    have HF : Hid (fits text.data.toList r word.data.toList = false) := hf
    clear hf HX
    go_wp2
    go_quiet ((go_at_call 13; exact Calls.quiet_of_same (HP.out _)))
    go_wp2
    go_ret
    refine ⟨r, R.out, ret_bool HF.out.symm, ?_, below_drewN B1.out _⟩
    rw [HF.out]
    exact d1

set_option maxHeartbeats 1000000 in
/-- 'hasWordAt'. -/
theorem hasWordAt_any (text word : ByteArray) (p : Nat) (w : World) (hl : text.size ≤ 1048576) (hw : word.size ≤ 1048576) (hp : p ≤ text.size) :
    Calls Try.prog 10 #[.string text, .int .i64 p, .string word] w fun e w' => e = .returned (.bool (fits text.data.toList p word.data.toList)) ∧ Below w.heap.size w w' := by
  have lt : text.data.toList.length = text.size := rfl
  have lw : word.data.toList.length = word.size := rfl
  by_cases hlong : text.size - p < word.size
  · have hf : Hid (fits text.data.toList p word.data.toList = false) := fits_long _ _ _ (by omega)
    have h1 : (text.size : Int) - (p : Int) < (word.size : Int) := by omega
    clear lt lw
    go_enter Try.func10, Try.ntmps10
    go_wp2
    go_ret
    exact ⟨ret_bool hf.out.symm, Below.refl _ _⟩
  · have h1 : ¬ (text.size : Int) - (p : Int) < (word.size : Int) := by omega
    have LT : Hid (text.data.toList.length = text.size) := lt
    have LW : Hid (word.data.toList.length = word.size) := lw
    clear lt lw
    obtain ⟨zt, ezt⟩ : ∃ zt, ch text = zt := ⟨_, rfl⟩
    obtain ⟨zw, ezw⟩ : ∃ zw, ch word = zw := ⟨_, rfl⟩
    have it := idx text
    have iw := idx word
    rw [ezt] at it
    rw [ezw] at iw
    have EZT : Hid (ch text = zt) := ezt
    have EZW : Hid (ch word = zw) := ezw
    clear ezt ezw
    go_enter Try.func10, Try.ntmps10
    go_wp2
    go_loopw [7] (fun i wr => ∃ k : Nat, k ≤ word.size ∧ i = .int .i64 k ∧ Hid (∀ j, j < k → zt (p + j) = zw j) ∧ Below w.heap.size w wr) (fun i _ => word.size - (intOf i).toNat)
    case atStart => exact ⟨0, Nat.zero_le _, rfl, fun j hj => absurd hj (by omega), Below.refl _ _⟩
    case round =>
      obtain ⟨k, hk, rfl, hrun, hb⟩ := hrel
      by_cases hlt : k < word.size
      · have hi : (k : Int) < (word.size : Int) := by omega
        have hi0 : (0 : Int) ≤ (k : Int) := by omega
        have hi1 : (p : Int) + (k : Int) < (text.size : Int) := by omega
        have hi2 : (0 : Int) ≤ (p : Int) + (k : Int) := by omega
        by_cases he : zt (p + k) = zw k
        · have hq : ((zt (p + k) : Int) != (zw k : Int)) = false := by simp [he]
          have HE : Hid (zt (p + k) = zw k) := he
          clear he
          go_wp2
          go_quiet (fail)
          go_wp2
          go_roundw
          case rel => exact ⟨k + 1, by omega, by go_num, fun j hj => (by by_cases e : j = k; · subst e; exact HE.out
                                                                         · exact hrun.out j (by omega)), below_drewN hb _⟩
          case measure => simp [intOf]; omega
        · have hq : ((zt (p + k) : Int) != (zw k : Int)) = true := by rw [bne_iff_ne]; omega
          have hf : Hid (fits text.data.toList p word.data.toList = false) := by
            refine fits_no _ _ _ k (by rw [LW.out]; exact hlt) (fun e => he ?_)
            rw [← EZT.out, ← EZW.out]
            unfold ch
            rw [e]
          clear he
          go_wp2
          go_quiet (fail)
          go_wp2
          go_ret
          exact ⟨ret_bool hf.out.symm, below_drewN hb _⟩
      · have hf : Hid (fits text.data.toList p word.data.toList = true) := by
          refine fits_all _ _ _ (by rw [LT.out, LW.out]; omega) (fun i hi => ?_)
          have h := hrun.out i (by rw [LW.out] at hi; omega)
          rw [← EZT.out, ← EZW.out] at h
          unfold ch at h
          exact UInt8.toNat_inj.1 h
        clear hrun
        go_wp2
        go_ret
        exact ⟨ret_bool hf.out.symm, hb⟩

end Go.Proofs.Qxb6628287a
