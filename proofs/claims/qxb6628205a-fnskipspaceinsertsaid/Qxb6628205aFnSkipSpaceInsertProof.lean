/- The proof of 'Rows.FnSkipSpaceInsertSaid': the frame by the kit's tool (proof-skeleton), the walk filled in. -/
import Derived.Test.Qxb6628205aRows
import Derived.Test.Qxb6628205aSkip
import Derived.WalkKit
import Derived.ProofKit
import Derived.OpenShut
import Derived.ShutString
import Derived.ChangeOld
import Derived.Below
namespace Go.Proofs.Qxb6628205a.fnSkipSpaceInsert
open Go.ChangeShapes Go.WideShapes Go.ChangeAt Go.RowKit
open Go.ChangeMaps (open_string shut_string)
set_option linter.unusedVariables false

theorem own : ownKnob Try.prog.godebug = none := by kernel_rfl
theorem laidOut : laidOutB Try.prog = true := by kernel_rfl

/-- WHAT THE WALK IS TOLD OF A SLICE OF INTEGERS THAT CAME IN: it is nil; or it leads to a row of 'cap' cells, the numbers 'zs' (the first 'len' are its elements, the rest its spare room), each fitting its kind. -/
def IsRow (k : IntKind) (w : World) (a : Option Addr) (len cap : Nat) (zs : List Int) : Prop :=
  (a = none ∧ len = 0 ∧ cap = 0 ∧ zs = []) ∨
  ∃ x, a = some x ∧ len ≤ cap ∧ cap ≤ maxLen ∧ zs.length = cap ∧ (∀ i, i < zs.length → w.cell? (x.add i) = some (.int k (zs.getD i 0))) ∧ ∀ n ∈ zs, (Lit.int k n).wf = true

/-! ### STEP 1: THE WALK -/
open Go.Proofs.Qxb6628205a.Plain

theorem seg_of_row {w : World} {x : Addr} {len cap : Nat} {zs : List Int} (hl : len ≤ cap) (hz : zs.length = cap) (hcell : ∀ i, i < zs.length → w.cell? (x.add i) = some (.int .u8 (zs.getD i 0))) : Seg w (some x) len (fun i => zs.getD i 0) := by
  by_cases h : len = 0
  · exact .inl h
  · obtain ⟨b, off, spot⟩ := x
    have hspot : spot = none := by simpa [Addr.add] using World.cell?_spot (hcell 0 (by omega))
    subst hspot
    exact .inr ⟨b, off, rfl, World.block_lt_of_cell? _ _ (hcell 0 (by omega)), fun i hi => by rw [← add_plain]; exact hcell i (by omega)⟩

theorem bytes_no (a : Option Addr) (len cap : Nat) (a1 a2 a3 : Int) (w : World) (h : 1048576 < len) : Calls Try.prog 9 #[.slice a len cap, .int .i64 a1, .int .i64 a2, .int .u8 a3] w fun e w' => e = .returned (.bool false) ∧ w' = w := by
  have h' : (1048576 : Int) < (len : Int) := by omega
  go_enter Try.func9, Try.ntmps9
  go_wp2
  go_ret
  exact ⟨rfl, rfl⟩

theorem bytes_yes (a : Option Addr) (len cap : Nat) (a1 a2 a3 : Int) (w : World) (h : len ≤ 1048576) : Calls Try.prog 9 #[.slice a len cap, .int .i64 a1, .int .i64 a2, .int .u8 a3] w fun e w' => e = .returned (.bool true) ∧ w' = w := by
  have h' : ¬ (1048576 : Int) < (len : Int) := by omega
  go_enter Try.func9, Try.ntmps9
  go_wp2
  go_ret
  exact ⟨rfl, rfl⟩

/-- The inputs that the law lets by. -/
theorem walk_out (a : Option Addr) (len cap : Nat) (a1 a2 a3 : Int) (w : World) (hl : len ≤ 1048576) (h : a1 < 0 ∨ (len : Int) < a1 ∨ a2 < 0 ∨ (len : Int) < a2) :
    Calls Try.prog 4 #[.slice a len cap, .int .i64 a1, .int .i64 a2, .int .u8 a3] w fun e w' => e = .returned (.bool true) ∧ Below w.heap.size w w' := by
  by_cases h1 : a1 < 0
  · go_enter Try.func4, Try.ntmps4
    go_wp2_with (go_at_call 9; refine (bytes_yes _ _ _ _ _ _ _ hl).mono ?_; rintro e w' ⟨rfl, rfl⟩)
    go_ret
    exact ⟨rfl, Below.refl _ _⟩
  by_cases h2 : (len : Int) < a1
  · go_enter Try.func4, Try.ntmps4
    go_wp2_with (go_at_call 9; refine (bytes_yes _ _ _ _ _ _ _ hl).mono ?_; rintro e w' ⟨rfl, rfl⟩)
    go_ret
    exact ⟨rfl, Below.refl _ _⟩
  by_cases h3 : a2 < 0
  · go_enter Try.func4, Try.ntmps4
    go_wp2_with (go_at_call 9; refine (bytes_yes _ _ _ _ _ _ _ hl).mono ?_; rintro e w' ⟨rfl, rfl⟩)
    go_ret
    exact ⟨rfl, Below.refl _ _⟩
  have h4 : (len : Int) < a2 := by omega
  clear h
  go_enter Try.func4, Try.ntmps4
  go_wp2_with (go_at_call 9; refine (bytes_yes _ _ _ _ _ _ _ hl).mono ?_; rintro e w' ⟨rfl, rfl⟩)
  go_ret
  exact ⟨rfl, Below.refl _ _⟩

/-- 'zzCloneBytes' at any slice: the same numbers. -/
theorem clone_seg (a : Option Addr) (len cap : Nat) (z : Nat → Int) (w : World) (hl : len ≤ 1048576) (hs : Seg w a len z) (hn : a = none → len = 0 ∧ cap = 0) :
    Calls Try.prog 6 #[.slice a len cap] w fun e w' => ∃ a' : Option Addr, e = .returned (.slice a' len len) ∧ Seg w' a' len z ∧ Below w.heap.size w w' := by
  cases a with
  | none =>
    obtain ⟨rfl, rfl⟩ := hn rfl
    refine (clone_nil w).mono ?_
    rintro e w1 ⟨rfl, rfl⟩
    exact ⟨none, rfl, .inl rfl, Below.refl _ _⟩
  | some x =>
    refine (clone_some x len cap z w hl hs).mono ?_
    rintro e w1 ⟨rfl, h1, h2⟩
    exact ⟨_, rfl, h1, h2⟩

/-- 'zzSkip', its offset as an int. -/
theorem skip_int (a : Option Addr) (len cap : Nat) (o : Int) (off : Nat) (z : Nat → Int) (w : World) (he : o = (off : Int)) (hl : len ≤ 1048577) (ho : off ≤ len) (hs : Seg w a len z) :
    Calls Try.prog 7 #[.slice a len cap, .int .i64 o] w fun e w' => ∃ r : Nat, e = .returned (.int .i64 r) ∧ IsStop z len off r ∧ Below w.heap.size w w' := by
  subst he
  exact skip_any a len cap off z w hl ho hs

/-- What the second loop has laid behind its rounds up to k. -/
def part (z : Nat → Int) (p : Nat) (c : Int) (k j : Nat) : Value := if j ≤ k then .int .u8 (ins z p c j) else .int .u8 0

theorem part_start (z : Nat → Int) (p : Nat) (c : Int) (j : Nat) : (if j = p then Value.int .u8 c else if j < p then Value.int .u8 (z j) else Value.int .u8 0) = part z p c p j := by
  unfold part ins
  by_cases h : j = p
  · subst h; simp
  · by_cases h2 : j < p
    · simp [h, h2, show j ≤ p by omega]
    · simp [h, h2, show ¬ j ≤ p by omega]

theorem part_step (z : Nat → Int) (p : Nat) (c : Int) (k j : Nat) (hp : p ≤ k) : (if j = k + 1 then Value.int .u8 (z k) else part z p c k j) = part z p c (k + 1) j := by
  unfold part ins
  by_cases h : j = k + 1
  · subst h; simp [show ¬ k + 1 < p by omega, show ¬ k + 1 = p by omega]
  · by_cases h2 : j ≤ k
    · simp [h, h2, show j ≤ k + 1 by omega]
    · simp [h, h2, show ¬ j ≤ k + 1 by omega]

set_option maxHeartbeats 2000000 in
theorem walk_in (a : Option Addr) (len cap : Nat) (z : Nat → Int) (off p : Nat) (c : Int) (w : World) (hl : len ≤ 1048576) (ho : off ≤ len) (hp : p ≤ len) (hs : Seg w a len z) (hn : a = none → len = 0 ∧ cap = 0) :
    Calls Try.prog 4 #[.slice a len cap, .int .i64 off, .int .i64 p, .int .u8 c] w fun e w' => e = .returned (.bool true) ∧ Below w.heap.size w w' := by
  have h1 : ¬ (off : Int) < 0 := by omega
  have h2 : ¬ (len : Int) < (off : Int) := by omega
  have h3 : ¬ (p : Int) < 0 := by omega
  have h4 : ¬ (len : Int) < (p : Int) := by omega
  have h5 : ¬ (1048576 : Int) < (len : Int) := by omega
  have HS : Hid (Seg w a len z) := hs
  have HN : Hid (a = none → len = 0 ∧ cap = 0) := hn
  clear hs hn
  go_enter Try.func4, Try.ntmps4
  go_wp2_with fail
  refine (bytes_yes _ _ _ _ _ _ _ hl).mono ?_
  rintro e w' ⟨rfl, rfl⟩
  go_wp2_with fail
  refine (clone_seg a len cap z _ hl HS.out HN.out).mono ?_
  rintro e w1 ⟨a', rfl, hs1, hb1⟩
  have S1 : Hid (Seg w1 a' len z) := hs1
  have B1 : Hid (Below w'.heap.size w' w1) := hb1
  clear hs1 hb1 HS HN
  go_wp2_with fail
  refine (skip_any _ len len off z w1 (by omega) (by omega) S1.out).mono ?_
  rintro e w2 ⟨r, rfl, hr, hb2⟩
  have R : Hid (IsStop z len off r) := hr
  have S2 : Hid (Seg w2 a' len z) := S1.out.below hb2
  have B2 : Hid (Below w'.heap.size w' w2) := B1.out.trans (hb2.mono B1.out.size)
  clear hr hb2 S1 B1
  have hmk := run_make_row' (P := Try.prog) 22 5 (.int .u8 0) 1 Try.underlying22 Try.info5 rfl .i64 .i64 (len + 1) (by omega) (by omega)
  have ec : ((len + 1 : Nat) : Int) = (len : Int) + 1 := by omega
  rw [ec] at hmk
  clear ec
  go_wp2
  clear hmk
  go_loopw [11] (fun i wr => ∃ k : Nat, k ≤ p ∧ i = .int .i64 k ∧ wr.rowIs w2.heap.size 5 (len + 1) (fun j => if j < k then .int .u8 (z j) else .int .u8 0) ∧ Below w2.heap.size w2 wr) (fun i _ => p - (intOf i).toNat)
  case atStart => exact ⟨0, Nat.zero_le _, rfl, by simpa using World.rowIs_made w2 (.int .u8 0) (len + 1) 5, (Below.refl _ _).alloc (Nat.le_refl _) _⟩
  case round =>
    obtain ⟨k, hk, rfl, hrow, hbel⟩ := hrel
    by_cases hlt : k < p
    · rcases S2.out with h | ⟨b, o, rfl, hb, hc⟩
      · omega
      have hcx : wr.cell? ⟨b, o + k, none⟩ = some (.int .u8 (z k)) := (hbel.cell (by exact hb)).trans (hc k (by omega))
      have hold : wr.cell? ⟨w2.heap.size, k, none⟩ = some (.int .u8 0) := by have := hrow.cell (i := k) (by omega); simpa using this
      have hfz := hrow.frozen k
      have hi : (k : Int) < (len : Int) := by omega
      have hi2 : (k : Int) < ((len + 1 : Nat) : Int) := by omega
      clear hc S2
      go_wp2
      go_roundw
      case rel => exact ⟨k + 1, by omega, by go_num, (hrow.set k _).congr (fun i _ => fill_step z k i), hbel.setCell (by exact Nat.le_refl _) _⟩
      case measure => simp [intOf]; omega
    · obtain rfl : k = p := by omega
      have hold : wr.cell? ⟨w2.heap.size, k, none⟩ = some (.int .u8 0) := by have := hrow.cell (i := k) (by omega); simpa using this
      have hfz := hrow.frozen k
      have hi2 : (k : Int) < ((len + 1 : Nat) : Int) := by omega
      have hrow2 : Hid ((wr.setCell ⟨w2.heap.size, k, none⟩ (.int .u8 c)).rowIs w2.heap.size 5 (len + 1) (part z k c k)) := (hrow.set k _).congr (fun j _ => part_start z k c j)
      have hbel2 : Hid (Below w2.heap.size w2 (wr.setCell ⟨w2.heap.size, k, none⟩ (.int .u8 c))) := hbel.setCell (by exact Nat.le_refl _) _
      clear hrow hbel
      go_wp2
      clear hold hfz
      go_loopw [12] (fun i wr => ∃ m : Nat, k ≤ m ∧ m ≤ len ∧ i = .int .i64 m ∧ wr.rowIs w2.heap.size 5 (len + 1) (part z k c m) ∧ Below w2.heap.size w2 wr) (fun i _ => len - (intOf i).toNat)
      case atStart => exact ⟨k, Nat.le_refl _, hp, rfl, hrow2.out, hbel2.out⟩
      case round =>
        clear hrow2 hbel2
        obtain ⟨m, hm1, hm2, rfl, hrow, hbel⟩ := hrel
        by_cases hlt2 : m < len
        · rcases S2.out with h | ⟨b, o, rfl, hb, hc⟩
          · omega
          have hcx : wr.cell? ⟨b, o + m, none⟩ = some (.int .u8 (z m)) := (hbel.cell (by exact hb)).trans (hc m (by omega))
          have hold : wr.cell? ⟨w2.heap.size, m + 1, none⟩ = some (.int .u8 0) := by have := hrow.cell (i := m + 1) (by omega); rw [this]; unfold part; rw [if_neg (by omega)]
          have hfz := hrow.frozen (m + 1)
          have hi : (m : Int) < (len : Int) := by omega
          have hi3 : (m : Int) + 1 < ((len + 1 : Nat) : Int) := by omega
          clear hc S2
          go_wp2
          go_roundw
          case rel => exact ⟨m + 1, by omega, by omega, by go_num, (hrow.set (m + 1) _).congr (fun i _ => part_step z k c m i hm1), hbel.setCell (by exact Nat.le_refl _) _⟩
          case measure => simp [intOf]; omega
        · obtain rfl : m = len := by omega
          have SD : Hid (Seg wr (some ⟨w2.heap.size, 0, none⟩) (m + 1) (ins z k c)) := .inr ⟨_, 0, rfl, hrow.lt, fun i hi => by rw [Nat.zero_add, hrow.cell hi]; unfold part; rw [if_pos (by omega)]⟩
          have S3 : Hid (Seg wr a' m z) := S2.out.below hbel
          have B3 : Hid (Below w'.heap.size w' wr) := B2.out.trans (hbel.mono B2.out.size)
          clear hrow hbel S2 B2
          by_cases hpo : k < off
          · have hpo' : (k : Int) < (off : Int) := by omega
            go_wp2_with fail
            refine (skip_int _ (m + 1) (m + 1) _ (off + 1) (ins z k c) wr (by omega) (by omega) (by omega) SD.out).mono ?_
            rintro e w3 ⟨r2, rfl, hr2, hb3⟩
            have E : Hid (r2 = r + 1) := ins_before hpo R.out hr2
            have S4 : Hid (Seg w3 a' m z) := S3.out.below hb3
            have B4 : Hid (Below w'.heap.size w' w3) := B3.out.trans (hb3.mono B3.out.size)
            have hrm : r ≤ m := R.out.hi
            clear hr2 hb3 S3 B3 SD
            go_wp2_with fail
            refine (first_any _ m m off r z w3 (by omega) S4.out R.out).mono ?_
            rintro e w5 ⟨rfl, rfl⟩
            go_wp2
            go_ret
            exact ⟨ret_bool (by rw [E.out]; simp), B4.out⟩
          · have hpo' : ¬ (k : Int) < (off : Int) := by omega
            go_wp2_with fail
            refine (skip_int _ (m + 1) (m + 1) _ off (ins z k c) wr (by omega) (by omega) (by omega) SD.out).mono ?_
            rintro e w3 ⟨r2, rfl, hr2, hb3⟩
            have R2 : Hid (IsStop (ins z k c) (m + 1) off r2) := hr2
            have S4 : Hid (Seg w3 a' m z) := S3.out.below hb3
            have B4 : Hid (Below w'.heap.size w' w3) := B3.out.trans (hb3.mono B3.out.size)
            have hrm : r ≤ m := R.out.hi
            clear hr2 hb3 S3 B3 SD
            go_wp2_with fail
            refine (first_any _ m m off r z w3 (by omega) S4.out R.out).mono ?_
            rintro e w5 ⟨rfl, rfl⟩
            by_cases hrp : r < k
            · have E : Hid (r2 = r) := ins_after hp hrp R.out R2.out
              have hrp' : (r : Int) < (k : Int) := by omega
              go_wp2
              go_ret
              exact ⟨ret_bool (by rw [E.out]; simp), B4.out⟩
            · have hrp' : ¬ (r : Int) < (k : Int) := by omega
              cases hc : sp c with
              | true =>
                have E : Hid (r2 = r + 1) := ins_space (by omega) (by omega) hc R.out R2.out
                go_wp2_with (go_at_call 10; refine (isSpace_any _ _).mono ?_; rintro e w' ⟨rfl, rfl⟩)
                go_ret
                exact ⟨ret_bool (by rw [E.out]; simp), B4.out⟩
              | false =>
                have E : Hid (r2 = k) := ins_other (by omega) (by omega) hc R.out R2.out
                go_wp2_with (go_at_call 10; refine (isSpace_any _ _).mono ?_; rintro e w' ⟨rfl, rfl⟩)
                go_ret
                exact ⟨ret_bool (by rw [E.out]; simp), B4.out⟩

theorem walk (a0 : Option Addr) (len0 cap0 : Nat) (z0 : List Int) (a1 : Int) (a2 : Int) (a3 : Int) (w : World) (w0 : IsRow .u8 w a0 len0 cap0 z0) (w1 : (Lit.int .i64 a1).wf = true) (w2 : (Lit.int .i64 a2).wf = true) (w3 : (Lit.int .u8 a3).wf = true) :
    Calls Try.prog 4 #[.slice a0 len0 cap0, .int .i64 a1, .int .i64 a2, .int .u8 a3] w fun e w' => e = .returned (.bool true) ∧ Below w.heap.size w w' := by
  by_cases hl : len0 ≤ 1048576
  · by_cases h : a1 < 0 ∨ (len0 : Int) < a1 ∨ a2 < 0 ∨ (len0 : Int) < a2
    · exact walk_out a0 len0 cap0 a1 a2 a3 w hl h
    · obtain ⟨off, rfl⟩ := Int.eq_ofNat_of_zero_le (show 0 ≤ a1 by omega)
      obtain ⟨p, rfl⟩ := Int.eq_ofNat_of_zero_le (show 0 ≤ a2 by omega)
      rcases w0 with ⟨rfl, rfl, rfl, rfl⟩ | ⟨x, rfl, hlc, hm, hz, hcell, hwz⟩
      · exact walk_in none 0 0 (fun _ => 0) off p a3 w hl (by omega) (by omega) (.inl rfl) (fun _ => ⟨rfl, rfl⟩)
      · exact walk_in (some x) len0 cap0 _ off p a3 w hl (by omega) (by omega) (seg_of_row hlc hz hcell) (fun h => by cases h)
  · have h' : 1048576 < len0 := by omega
    clear w0 w1 w2 w3 hl
    go_enter Try.func4, Try.ntmps4
    go_wp2_with fail
    refine (bytes_no _ _ _ _ _ _ _ h').mono ?_
    rintro e w' ⟨rfl, rfl⟩
    go_wp2
    go_ret
    exact ⟨rfl, Below.refl _ _⟩

/-! ### THE ROW's STEP: WRITTEN OUT: LEAVE IT -/
set_option maxRecDepth 100000 in
theorem lifted (os : Os) (started : os.Started) (H : Type) (enc : TypeId × Value → H) :
    ReturnsInHanded {} Try.checked os 4 .any (Rows.fnSkipSpaceInsertSpec.pre6 enc Try.prog Try.f4 Rows.fnSkipSpaceInsertRow.domain false) (Rows.fnSkipSpaceInsertSpec.post enc Try.prog Try.f4 false true false false) := by
  refine returnsInHanded_of_change (C := Try.checked) own started (by kernel_rfl) Try.func4
    (ChangeSpec.witness6 (enc := enc) (C := Try.checked) false ⟨#[], #[.slice none 0 0, .int .i64 0, .int .i64 0, .int .u8 0], []⟩ 8 (by kernel_rfl) (by kernel_rfl) (by kernel_rfl) (by kernel_rfl)) ?_
  intro W base args ds gs before hval0 hW hcnd _
  have hval : ∀ (j : Nat) t v, Try.f4.params[j]? = some t → args[j]? = some v → Value.okWide Try.prog W .any base t v := hval0
  have hW' := hW
  obtain ⟨p, q, hA0, hV, rfl, hfz, hnd⟩ := hW
  have hA : DataW.TrodAll enc Try.prog W 0 (fun _ => true) true Try.f4.params.toList args.toList ds p := hA0
  rw [Try.params4] at hA hval
  obtain ⟨v0, vs0, d0, ds0, p0, q0, hargs, rfl, rfl, h0, r0⟩ := trodAll_cons hA
  obtain ⟨v1, vs1, d1, ds1, p1, q1, rfl, rfl, rfl, h1, r1⟩ := trodAll_cons r0
  obtain ⟨v2, vs2, d2, ds2, p2, q2, rfl, rfl, rfl, h2, r2⟩ := trodAll_cons r1
  obtain ⟨v3, vs3, d3, ds3, p3, q3, rfl, rfl, rfl, h3, r3⟩ := trodAll_cons r2
  obtain ⟨rfl, rfl, rfl⟩ := trodAll_nil r3
  obtain rfl : args = #[v0, v1, v2, v3] := by cases args; simp_all
  obtain ⟨rfl, rfl⟩ := trodVars_none hV
  obtain ⟨a0, len0, cap0, rfl⟩ := okWide_slice Try.underlying22 (hval 0 22 v0 rfl rfl)
  have k0 := h0
  have lt0 : ∀ x ∈ p0, x.block < W.heap.size := by obtain ⟨m, hm⟩ := k0; exact DataW.trod_lt m _ _ _ hm
  obtain ⟨z0, w0⟩ : ∃ zs, IsRow .u8 W a0 len0 cap0 zs := by
    obtain ⟨fuel, hf⟩ := h0
    rcases open_ints Try.underlying22 Try.underlying5 (by kernel_rfl) hf with ⟨hcs, _⟩ | ⟨x, l, c, zs, hcs, _, hl, hm, hz, _, hcell, hwz⟩
    · simp [Value.cells] at hcs
      obtain ⟨rfl, rfl, rfl⟩ := hcs
      exact ⟨[], .inl ⟨rfl, rfl, rfl, rfl⟩⟩
    · simp [Value.cells] at hcs
      obtain ⟨rfl, rfl, rfl⟩ := hcs
      exact ⟨zs, .inr ⟨_, rfl, hl, hm, by simpa using hz, hcell, hwz⟩⟩
  obtain ⟨a1, rfl, rfl, rfl, w1⟩ := open_int Try.underlying3 (hval 1 3 v1 rfl rfl) h1
  obtain ⟨a2, rfl, rfl, rfl, w2⟩ := open_int Try.underlying3 (hval 2 3 v2 rfl rfl) h2
  obtain ⟨a3, rfl, rfl, rfl, w3⟩ := open_int Try.underlying5 (hval 3 5 v3 rfl rfl) h3
  clear hA0 hval0
  refine (walk a0 len0 cap0 z0 a1 a2 a3 W w0 w1 w2 w3).mono fun e W' ⟨he, bel⟩ => ?_
  subst he
  exact ⟨_, rfl, _, _, _, [], _, [], hW', trodAll_mk1 (shut_bool Try.underlying4 _), (trodAll_cons_mk (Below.trod laidOut (by kernel_rfl) (of_decide_eq_true (by kernel_rfl)) k0 bel lt0) (trodAll_cons_mk (shut_int Try.underlying3 w1) (trodAll_cons_mk (shut_int Try.underlying3 w2) (trodAll_cons_mk (shut_int Try.underlying5 w3) trodAll_mk0)))), rfl, bel.frame _, fun h => by cases h⟩

theorem over : Rows.fnSkipSpaceInsertRow.holds Try.pinned (OpenSpec.ofChange Rows.fnSkipSpaceInsertSpec) :=
  OpenClaim.holds_of_wide 4 Try.f4 rfl rfl rfl rfl rfl rfl rfl ⟨rfl, rfl, rfl, rfl, rfl⟩ rfl rfl rfl rfl rfl (by kernel_rfl) Try.func4 (by kernel_rfl)
    (of_decide_eq_true (by kernel_rfl)) (by unfold Func.isWrapper; first | (rw [if_pos (by decide +kernel)]; kernel_rfl) | (rw [if_neg (by decide +kernel)]; exact ⟨rfl, rfl⟩))
    (fun os started H enc _ => lifted os started H enc)

end Go.Proofs.Qxb6628205a.fnSkipSpaceInsert

namespace Go.Proofs.Qxb6628205a
/-- THE STATEMENT -/
theorem fnSkipSpaceInsert_holds : Rows.FnSkipSpaceInsertSaid := fnSkipSpaceInsert.over
end Go.Proofs.Qxb6628205a
