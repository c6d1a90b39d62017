/- The walk of 'FnLiteralIsSkipThenExactMatch'. -/
import Derived.Test.Qxb6628287aScan
namespace Go.Proofs.Qxb6628287a
open Go.RowKit Go.Proofs.Qxb6628287a.Plain

theorem bytes5_no (text word : ByteArray) (a1 : Int) (w : World) (h : 1048576 < text.size + word.size) : Calls Try.prog 5 #[.string text, .int .i64 a1, .string word] w fun e w' => e = .returned (.bool false) ∧ w' = w := by
  by_cases h1 : 1048576 < text.size
  · have h1' : (1048576 : Int) < (text.size : Int) := by omega
    clear h
    go_enter Try.func5, Try.ntmps5
    go_wp2
    go_ret
    exact ⟨rfl, rfl⟩
  have h1' : ¬ (1048576 : Int) < (text.size : Int) := by omega
  by_cases h2 : 1048576 < word.size
  · have h2' : (1048576 : Int) < (word.size : Int) := by omega
    clear h
    go_enter Try.func5, Try.ntmps5
    go_wp2
    go_ret
    exact ⟨rfl, rfl⟩
  have h2' : ¬ (1048576 : Int) < (word.size : Int) := by omega
  have h3 : (1048576 : Int) < (text.size : Int) + (word.size : Int) := by omega
  go_enter Try.func5, Try.ntmps5
  go_wp2
  go_ret
  exact ⟨rfl, rfl⟩

theorem bytes5_yes (text word : ByteArray) (a1 : Int) (w : World) (h : text.size + word.size ≤ 1048576) : Calls Try.prog 5 #[.string text, .int .i64 a1, .string word] w fun e w' => e = .returned (.bool true) ∧ w' = w := by
  have h1' : ¬ (1048576 : Int) < (text.size : Int) := by omega
  have h2' : ¬ (1048576 : Int) < (word.size : Int) := by omega
  have h3 : ¬ (1048576 : Int) < (text.size : Int) + (word.size : Int) := by omega
  go_enter Try.func5, Try.ntmps5
  go_wp2
  go_ret
  exact ⟨rfl, rfl⟩

theorem match_out (text word : ByteArray) (a1 : Int) (w : World) (hl : text.size + word.size ≤ 1048576) (h : a1 < 0 ∨ (text.size : Int) < a1) :
    Calls Try.prog 3 #[.string text, .int .i64 a1, .string word] w fun e w' => e = .returned (.bool true) ∧ Below w.heap.size w w' := by
  have h1' : ¬ (1048576 : Int) < (text.size : Int) := by omega
  have h2' : ¬ (1048576 : Int) - (text.size : Int) < (word.size : Int) := by omega
  by_cases h1 : a1 < 0
  · go_enter Try.func3, Try.ntmps3
    go_wp2_with (go_at_call 5; refine (bytes5_yes _ _ _ _ hl).mono ?_; rintro e w' ⟨rfl, rfl⟩)
    go_ret
    exact ⟨rfl, Below.refl _ _⟩
  have h2 : (text.size : Int) < a1 := by omega
  clear h
  go_enter Try.func3, Try.ntmps3
  go_wp2_with (go_at_call 5; refine (bytes5_yes _ _ _ _ hl).mono ?_; rintro e w' ⟨rfl, rfl⟩)
  go_ret
  exact ⟨rfl, Below.refl _ _⟩

/-- 'Literal("")' and 'Literal(word)' on a scanner just made, with the stop named. -/
theorem lit_empty (text : ByteArray) (off : Nat) (w : World) (hl : text.size ≤ 1048576) (ho : off ≤ text.size) :
    Calls Try.prog 7 #[.pointer (some ⟨w.heap.size, 0, none⟩), .string ⟨#[]⟩] (w.alloc (.cells #[.string text, .int .i64 off] 31)) fun e w' => e = .returned (.bool true) ∧ ∃ r : Nat, IsStop (ch text) text.size off r ∧ w'.cell? ⟨w.heap.size, 1, none⟩ = some (.int .i64 r) ∧ Below w.heap.size w w' := by
  refine (literal_any text ⟨#[]⟩ off w hl (by decide) ho).mono ?_
  rintro e w' ⟨r, hr, rfl, hc, hb⟩
  exact ⟨rfl, r, hr, hc, hb⟩

theorem lit_yes (text word : ByteArray) (off r : Nat) (w : World) (hl : text.size ≤ 1048576) (hw : word.size ≤ 1048577) (ho : off ≤ text.size) (hr : IsStop (ch text) text.size off r) (hf : fits text.data.toList r word.data.toList = true) :
    Calls Try.prog 7 #[.pointer (some ⟨w.heap.size, 0, none⟩), .string word] (w.alloc (.cells #[.string text, .int .i64 off] 31)) fun e w' => e = .returned (.bool true) ∧ w'.cell? ⟨w.heap.size, 1, none⟩ = some (.int .i64 ((r : Int) + (word.size : Int))) ∧ Below w.heap.size w w' := by
  refine (literal_any text word off w hl hw ho).mono ?_
  rintro e w' ⟨r', hr', rfl, hc, hb⟩
  obtain rfl := hr.uniq hr'
  rw [hf] at hc ⊢
  exact ⟨rfl, hc, hb⟩

theorem lit_no (text word : ByteArray) (off r : Nat) (w : World) (hl : text.size ≤ 1048576) (hw : word.size ≤ 1048577) (ho : off ≤ text.size) (hr : IsStop (ch text) text.size off r) (hf : fits text.data.toList r word.data.toList = false) :
    Calls Try.prog 7 #[.pointer (some ⟨w.heap.size, 0, none⟩), .string word] (w.alloc (.cells #[.string text, .int .i64 off] 31)) fun e w' => e = .returned (.bool false) ∧ w'.cell? ⟨w.heap.size, 1, none⟩ = some (.int .i64 r) ∧ Below w.heap.size w w' := by
  refine (literal_any text word off w hl hw ho).mono ?_
  rintro e w' ⟨r', hr', rfl, hc, hb⟩
  obtain rfl := hr.uniq hr'
  rw [hf] at hc ⊢
  exact ⟨rfl, hc, hb⟩

theorem space_at {z : Nat → Nat} {k : Nat} {b : Bool} (hs : Hid (sp (z k) = b)) (w : World) : Calls Try.prog 9 #[.int .u8 (z k : Int)] w fun e w' => e = .returned (.bool b) ∧ w' = w := by
  have h := isSpace_any (z k) w
  rw [hs.out] at h
  exact h

theorem word_at (text word : ByteArray) (p : Nat) (b : Bool) (w : World) (hl : text.size ≤ 1048576) (hw : word.size ≤ 1048576) (hp : p ≤ text.size) (hf : fits text.data.toList p word.data.toList = b) :
    Calls Try.prog 10 #[.string text, .int .i64 p, .string word] w fun e w' => e = .returned (.bool b) ∧ Below w.heap.size w w' := by
  have h := hasWordAt_any text word p w hl hw hp
  rw [hf] at h
  exact h

set_option maxHeartbeats 1000000 in
theorem match_main (text word : ByteArray) (off : Nat) (w : World) (hl : text.size + word.size ≤ 1048576) (ho : off ≤ text.size) :
    Calls Try.prog 3 #[.string text, .int .i64 off, .string word] w fun e w' => e = .returned (.bool true) ∧ Below w.heap.size w w' := by
  have h1 : ¬ (1048576 : Int) < (text.size : Int) := by omega
  have h2 : ¬ (1048576 : Int) - (text.size : Int) < (word.size : Int) := by omega
  have h3 : ¬ (off : Int) < 0 := by omega
  have h4 : ¬ (text.size : Int) < (off : Int) := by omega
  go_enter Try.func3, Try.ntmps3
  go_wp2_with fail
  refine (bytes5_yes _ _ _ _ hl).mono ?_
  rintro e w' ⟨rfl, rfl⟩
  go_wp2_with fail
  refine (newScanner_any _ _ _).mono ?_
  rintro e w1 ⟨rfl, rfl⟩
  go_wp2_with fail
  refine (lit_empty text off w' (by omega) ho).mono ?_
  rintro e w1 ⟨rfl, r, hr, hc, hb⟩
  have R : Hid (IsStop (ch text) text.size off r) := hr
  have B1 : Hid (Below w'.heap.size w' w1) := hb
  have C1 : Hid (w1.cell? ⟨w'.heap.size, 1, none⟩ = some (.int .i64 r)) := hc
  have l1 : ¬ (r : Int) < (off : Int) := by have := hr.lo; omega
  have l2 : ¬ (text.size : Int) < (r : Int) := by have := hr.hi; omega
  clear hr hb hc
  go_wp2_with fail
  refine (at_any w'.heap.size r w1 C1.out).mono ?_
  rintro e w2 ⟨rfl, rfl⟩
  have hidx := idx text
  obtain ⟨z, ez⟩ : ∃ z, ch text = z := ⟨_, rfl⟩
  rw [ez] at hidx
  have EZ : Hid (ch text = z) := ez
  clear ez
  go_wp2
  go_loopw [9] (fun i wr => ∃ k : Nat, off ≤ k ∧ k ≤ r ∧ i = .int .i64 k ∧ Below w'.heap.size w' wr) (fun i _ => r - (intOf i).toNat)
  case atStart => exact ⟨off, Nat.le_refl _, by omega, rfl, B1.out⟩
  case round =>
    obtain ⟨k, hk1, hk2, rfl, hb⟩ := hrel
    by_cases hlt : k < r
    · have hi : (k : Int) < (r : Int) := by omega
      have hi0 : (0 : Int) ≤ (k : Int) := by omega
      have hi1 : (k : Int) < (text.size : Int) := by omega
      have S : Hid (sp (z k) = true) := by unfold Hid; rw [← EZ.out]; exact R.out.run k hk1 hlt
      go_wp2_with fail
      refine (space_at S _).mono ?_
      rintro e w3 ⟨rfl, rfl⟩
      go_wp2
      have e1 : decide (r < off) = false := decide_eq_false (by omega)
      have e2 : decide (text.size < r) = false := decide_eq_false (by omega)
      simp only [e1, e2, Bool.or_false]
      refine ⟨⟨_, _, _, _, _, _, _, _, _, _, _, _, ?_, rfl⟩, ?_⟩
      · exact ⟨k + 1, by omega, by omega, by go_num, hb⟩
      · simp [intOf]; omega
    · have hi : ¬ (k : Int) < (r : Int) := by omega
      have B2 : Hid (Below w'.heap.size w' wr) := hb
      clear B1 C1 hb
      by_cases hrt : r < text.size
      · have hi1 : (r : Int) < (text.size : Int) := by omega
        have hi0 : (0 : Int) ≤ (r : Int) := by omega
        have S : Hid (sp (z r) = false) := by unfold Hid; rw [← EZ.out]; exact R.out.at_ hrt
        go_wp2_with fail
        refine (space_at S _).mono ?_
        rintro e w3 ⟨rfl, rfl⟩
        go_wp2_with fail
        refine (newScanner_any _ _ _).mono ?_
        rintro e w3b ⟨rfl, rfl⟩
        cases hf : fits text.data.toList r word.data.toList with
        | true =>
          have F : Hid (fits text.data.toList r word.data.toList = true) := hf
          clear hf
          go_wp2_with fail
          refine (lit_yes text word off r w3 (by omega) (by omega) ho R.out F.out).mono ?_
          rintro e w4 ⟨rfl, hc4, hb4⟩
          have C4 : Hid (w4.cell? ⟨w3.heap.size, 1, none⟩ = some (.int .i64 ((r : Int) + (word.size : Int)))) := hc4
          have B4 : Hid (Below w'.heap.size w' w4) := B2.out.trans (hb4.mono B2.out.size)
          clear hc4 hb4 B2
          go_wp2_with fail
          refine (at_any w3.heap.size _ w4 C4.out).mono ?_
          rintro e w5 ⟨rfl, rfl⟩
          clear C4
          go_wp2_with fail
          refine (word_at text word r true w5 (by omega) (by omega) (by omega) F.out).mono ?_
          rintro e w6 ⟨rfl, hb6⟩
          have B6 : Hid (Below w'.heap.size w' w6) := B4.out.trans (hb6.mono B4.out.size)
          clear hb6 B4
          go_wp2
          go_ret
          exact ⟨rfl, B6.out⟩
        | false =>
          have F : Hid (fits text.data.toList r word.data.toList = false) := hf
          clear hf
          go_wp2_with fail
          refine (lit_no text word off r w3 (by omega) (by omega) ho R.out F.out).mono ?_
          rintro e w4 ⟨rfl, hc4, hb4⟩
          have C4 : Hid (w4.cell? ⟨w3.heap.size, 1, none⟩ = some (.int .i64 (r : Int))) := hc4
          have B4 : Hid (Below w'.heap.size w' w4) := B2.out.trans (hb4.mono B2.out.size)
          clear hc4 hb4 B2
          go_wp2_with fail
          refine (at_any w3.heap.size _ w4 C4.out).mono ?_
          rintro e w5 ⟨rfl, rfl⟩
          clear C4
          go_wp2_with fail
          refine (word_at text word r false w5 (by omega) (by omega) (by omega) F.out).mono ?_
          rintro e w6 ⟨rfl, hb6⟩
          have B6 : Hid (Below w'.heap.size w' w6) := B4.out.trans (hb6.mono B4.out.size)
          clear hb6 B4
          go_wp2
          go_ret
          exact ⟨rfl, B6.out⟩
      · have hi1 : ¬ (r : Int) < (text.size : Int) := by omega
        go_wp2_with fail
        refine (newScanner_any _ _ _).mono ?_
        rintro e w3 ⟨rfl, rfl⟩
        cases hf : fits text.data.toList r word.data.toList with
        | true =>
          have F : Hid (fits text.data.toList r word.data.toList = true) := hf
          clear hf
          go_wp2_with fail
          refine (lit_yes text word off r wr (by omega) (by omega) ho R.out F.out).mono ?_
          rintro e w4 ⟨rfl, hc4, hb4⟩
          have C4 : Hid (w4.cell? ⟨wr.heap.size, 1, none⟩ = some (.int .i64 ((r : Int) + (word.size : Int)))) := hc4
          have B4 : Hid (Below w'.heap.size w' w4) := B2.out.trans (hb4.mono B2.out.size)
          clear hc4 hb4 B2
          go_wp2_with fail
          refine (at_any wr.heap.size _ w4 C4.out).mono ?_
          rintro e w5 ⟨rfl, rfl⟩
          clear C4
          go_wp2_with fail
          refine (word_at text word r true w5 (by omega) (by omega) (by omega) F.out).mono ?_
          rintro e w6 ⟨rfl, hb6⟩
          have B6 : Hid (Below w'.heap.size w' w6) := B4.out.trans (hb6.mono B4.out.size)
          clear hb6 B4
          go_wp2
          go_ret
          exact ⟨rfl, B6.out⟩
        | false =>
          have F : Hid (fits text.data.toList r word.data.toList = false) := hf
          clear hf
          go_wp2_with fail
          refine (lit_no text word off r wr (by omega) (by omega) ho R.out F.out).mono ?_
          rintro e w4 ⟨rfl, hc4, hb4⟩
          have C4 : Hid (w4.cell? ⟨wr.heap.size, 1, none⟩ = some (.int .i64 (r : Int))) := hc4
          have B4 : Hid (Below w'.heap.size w' w4) := B2.out.trans (hb4.mono B2.out.size)
          clear hc4 hb4 B2
          go_wp2_with fail
          refine (at_any wr.heap.size _ w4 C4.out).mono ?_
          rintro e w5 ⟨rfl, rfl⟩
          clear C4
          go_wp2_with fail
          refine (word_at text word r false w5 (by omega) (by omega) (by omega) F.out).mono ?_
          rintro e w6 ⟨rfl, hb6⟩
          have B6 : Hid (Below w'.heap.size w' w6) := B4.out.trans (hb6.mono B4.out.size)
          clear hb6 B4
          go_wp2
          go_ret
          exact ⟨rfl, B6.out⟩

end Go.Proofs.Qxb6628287a
