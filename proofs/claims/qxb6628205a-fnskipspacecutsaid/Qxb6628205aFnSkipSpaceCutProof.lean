/- The proof of 'Rows.FnSkipSpaceCutSaid': the frame by the kit's tool (proof-skeleton), the walk filled in. -/
import Derived.Test.Qxb6628205aRows
import Derived.Test.Qxb6628205aSkip
import Derived.WalkKit
import Derived.ProofKit
import Derived.OpenShut
import Derived.ShutString
import Derived.ChangeOld
import Derived.Below
namespace Go.Proofs.Qxb6628205a.fnSkipSpaceCut
open Go.ChangeShapes Go.WideShapes Go.ChangeAt Go.RowKit
open Go.ChangeMaps (open_string shut_string)
set_option linter.unusedVariables false

theorem own : ownKnob Try.prog.godebug = none := by kernel_rfl
theorem laidOut : laidOutB Try.prog = true := by kernel_rfl

/-- WHAT THE WALK IS TOLD OF A SLICE OF INTEGERS THAT CAME IN: it is nil; or it leads to a row of 'cap' cells, the numbers 'zs' (the first 'len' are its elements, the rest its spare room), each fitting its kind. -/
def IsRow (k : IntKind) (w : World) (a : Option Addr) (len cap : Nat) (zs : List Int) : Prop :=
  (a = none ∧ len = 0 ∧ cap = 0 ∧ zs = []) ∨
  ∃ x, a = some x ∧ len ≤ cap ∧ cap ≤ maxLen ∧ zs.length = cap ∧ (∀ i, i < zs.length → w.cell? (x.add i) = some (.int k (zs.getD i 0))) ∧ ∀ n ∈ zs, (Lit.int k n).wf = true

/-! ### STEP 1: THE WALK -/
open Go.Proofs.Qxb6628205a.Plain

theorem seg_of_row {w : World} {x : Addr} {len cap : Nat} {zs : List Int} (hl : len ≤ cap) (hz : zs.length = cap) (hcell : ∀ i, i < zs.length → w.cell? (x.add i) = some (.int .u8 (zs.getD i 0))) : Seg w (some x) len (fun i => zs.getD i 0) := by
  by_cases h : len = 0
  · exact .inl h
  · obtain ⟨b, off, spot⟩ := x
    have hspot : spot = none := by simpa [Addr.add] using World.cell?_spot (hcell 0 (by omega))
    subst hspot
    exact .inr ⟨b, off, rfl, World.block_lt_of_cell? _ _ (hcell 0 (by omega)), fun i hi => by rw [← add_plain]; exact hcell i (by omega)⟩

theorem cut_ge {z : Nat → Int} {len off k r r1 r2 : Nat} (e : r1 = k) (h : IsStop z len off r) (h1 : IsStop z k off r1) (h2 : IsStop z len k r2) : r = r2 := by
  subst e
  exact cut_eq h h1 h2

theorem bytes_no (a : Option Addr) (len cap : Nat) (a1 a2 : Int) (w : World) (h : 1048576 < len) : Calls Try.prog 5 #[.slice a len cap, .int .i64 a1, .int .i64 a2] w fun e w' => e = .returned (.bool false) ∧ w' = w := by
  have h' : (1048576 : Int) < (len : Int) := by omega
  go_enter Try.func5, Try.ntmps5
  go_wp2
  go_ret
  exact ⟨rfl, rfl⟩

theorem bytes_yes (a : Option Addr) (len cap : Nat) (a1 a2 : Int) (w : World) (h : len ≤ 1048576) : Calls Try.prog 5 #[.slice a len cap, .int .i64 a1, .int .i64 a2] w fun e w' => e = .returned (.bool true) ∧ w' = w := by
  have h' : ¬ (1048576 : Int) < (len : Int) := by omega
  go_enter Try.func5, Try.ntmps5
  go_wp2
  go_ret
  exact ⟨rfl, rfl⟩

/-- The inputs that the law lets by. -/
theorem walk_out (a : Option Addr) (len cap : Nat) (a1 a2 : Int) (w : World) (hl : len ≤ 1048576) (h : a1 < 0 ∨ (len : Int) < a1 ∨ a2 < a1 ∨ (len : Int) < a2) :
    Calls Try.prog 3 #[.slice a len cap, .int .i64 a1, .int .i64 a2] w fun e w' => e = .returned (.bool true) ∧ Below w.heap.size w w' := by
  by_cases h1 : a1 < 0
  · go_enter Try.func3, Try.ntmps3
    go_wp2_with (go_at_call 5; refine (bytes_yes _ _ _ _ _ _ hl).mono ?_; rintro e w' ⟨rfl, rfl⟩)
    go_ret
    exact ⟨rfl, Below.refl _ _⟩
  by_cases h2 : (len : Int) < a1
  · go_enter Try.func3, Try.ntmps3
    go_wp2_with (go_at_call 5; refine (bytes_yes _ _ _ _ _ _ hl).mono ?_; rintro e w' ⟨rfl, rfl⟩)
    go_ret
    exact ⟨rfl, Below.refl _ _⟩
  by_cases h3 : a2 < a1
  · go_enter Try.func3, Try.ntmps3
    go_wp2_with (go_at_call 5; refine (bytes_yes _ _ _ _ _ _ hl).mono ?_; rintro e w' ⟨rfl, rfl⟩)
    go_ret
    exact ⟨rfl, Below.refl _ _⟩
  have h4 : (len : Int) < a2 := by omega
  clear h
  go_enter Try.func3, Try.ntmps3
  go_wp2_with (go_at_call 5; refine (bytes_yes _ _ _ _ _ _ hl).mono ?_; rintro e w' ⟨rfl, rfl⟩)
  go_ret
  exact ⟨rfl, Below.refl _ _⟩

set_option maxHeartbeats 1000000 in
theorem walk_some (x : Addr) (len cap : Nat) (z : Nat → Int) (off k : Nat) (w : World) (hl : len ≤ 1048576) (ho : off ≤ k) (hk : k ≤ len) (hs : Seg w (some x) len z) :
    Calls Try.prog 3 #[.slice (some x) len cap, .int .i64 off, .int .i64 k] w fun e w' => e = .returned (.bool true) ∧ Below w.heap.size w w' := by
  have h1 : ¬ (off : Int) < 0 := by omega
  have h2 : ¬ (len : Int) < (off : Int) := by omega
  have h3 : ¬ (k : Int) < (off : Int) := by omega
  have h4 : ¬ (len : Int) < (k : Int) := by omega
  have h5 : ¬ (1048576 : Int) < (len : Int) := by omega
  have HS : Hid (Seg w (some x) len z) := hs
  clear hs
  go_enter Try.func3, Try.ntmps3
  go_wp2_with fail
  refine (bytes_yes _ _ _ _ _ _ hl).mono ?_
  rintro e w' ⟨rfl, rfl⟩
  go_wp2_with fail
  refine (clone_some x len cap z _ hl HS.out).mono ?_
  rintro e w1 ⟨rfl, hs1, hb1⟩
  have S1 : Hid (Seg w1 (some ⟨w'.heap.size, 0, none⟩) len z) := hs1
  have B1 : Hid (Below w'.heap.size w' w1) := hb1
  clear hs1 hb1
  go_wp2_with fail
  refine (skip_any _ len len off z w1 (by omega) (by omega) S1.out).mono ?_
  rintro e w2 ⟨r, rfl, hr, hb2⟩
  have R : Hid (IsStop z len off r) := hr
  have S2 : Hid (Seg w2 (some ⟨w'.heap.size, 0, none⟩) len z) := S1.out.below hb2
  have S2k : Hid (Seg w2 (some ⟨w'.heap.size, 0, none⟩) k z) := by
    rcases S2.out with h | ⟨b, o, ha, hlt, hc⟩
    · exact .inl (by omega)
    · exact .inr ⟨b, o, ha, hlt, fun i hi => hc i (by omega)⟩
  have B2 : Hid (Below w'.heap.size w' w2) := B1.out.trans (hb2.mono B1.out.size)
  clear hr hb2 S1 B1 HS
  go_wp2_with fail
  refine (skip_any _ k len off z w2 (by omega) (by omega) S2k.out).mono ?_
  rintro e w3 ⟨r1, rfl, hr1, hb3⟩
  have R1 : Hid (IsStop z k off r1) := hr1
  have S3 : Hid (Seg w3 (some ⟨w'.heap.size, 0, none⟩) len z) := S2.out.below hb3
  have B3 : Hid (Below w'.heap.size w' w3) := B2.out.trans (hb3.mono B2.out.size)
  clear hr1 hb3 S2 S2k B2
  go_wp2_with fail
  refine (skip_any _ len len k z w3 (by omega) (by omega) S3.out).mono ?_
  rintro e w4 ⟨r2, rfl, hr2, hb4⟩
  have R2 : Hid (IsStop z len k r2) := hr2
  have S4 : Hid (Seg w4 (some ⟨w'.heap.size, 0, none⟩) len z) := S3.out.below hb4
  have B4 : Hid (Below w'.heap.size w' w4) := B3.out.trans (hb4.mono B3.out.size)
  clear hr2 hb4 S3 B3
  go_wp2_with fail
  refine (first_any _ len len off r z w4 (by omega) S4.out R.out).mono ?_
  rintro e w5 ⟨rfl, rfl⟩
  have hle : r1 ≤ k := R1.out.hi
  by_cases hlt : r1 < k
  · have he : Hid (r = r1) := cut_lt hk R.out R1.out hlt
    go_wp2
    go_ret
    exact ⟨ret_bool (by rw [he.out]; simp), B4.out⟩
  · have he : Hid (r = r2) := cut_ge (by omega) R.out R1.out R2.out
    go_wp2
    go_ret
    exact ⟨ret_bool (by rw [he.out]; simp), B4.out⟩

/-- nil. -/
theorem walk_nil (w : World) : Calls Try.prog 3 #[.slice none 0 0, .int .i64 0, .int .i64 0] w fun e w' => e = .returned (.bool true) ∧ Below w.heap.size w w' := by
  have z : Nat → Int := fun _ => 0
  go_enter Try.func3, Try.ntmps3
  go_wp2_with fail
  refine (bytes_yes none 0 0 _ _ _ (by omega)).mono ?_
  rintro e w' ⟨rfl, rfl⟩
  go_wp2_with fail
  refine (clone_nil _).mono ?_
  rintro e w1 ⟨rfl, rfl⟩
  go_wp2_with fail
  refine (skip_any none 0 0 0 z _ (by omega) (by omega) (.inl rfl)).mono ?_
  rintro e w2 ⟨r, rfl, hr, hb2⟩
  obtain rfl : r = 0 := by have := hr.hi; omega
  have B2 : Hid (Below _ _ w2) := hb2
  clear hb2
  go_wp2_with fail
  refine (skip_any none 0 0 0 z _ (by omega) (by omega) (.inl rfl)).mono ?_
  rintro e w3 ⟨r1, rfl, hr1, hb3⟩
  obtain rfl : r1 = 0 := by have := hr1.hi; omega
  have B3 : Hid (Below _ _ w3) := B2.out.trans (hb3.mono B2.out.size)
  clear hb3 B2
  go_wp2_with fail
  refine (skip_any none 0 0 0 z _ (by omega) (by omega) (.inl rfl)).mono ?_
  rintro e w4 ⟨r2, rfl, hr2, hb4⟩
  obtain rfl : r2 = 0 := by have := hr2.hi; omega
  have B4 : Hid (Below _ _ w4) := B3.out.trans (hb4.mono B3.out.size)
  clear hb4 B3
  go_wp2_with fail
  refine (first_any none 0 0 0 0 z w4 (by omega) (.inl rfl) hr).mono ?_
  rintro e w5 ⟨rfl, rfl⟩
  go_wp2
  go_ret
  exact ⟨rfl, B4.out⟩

theorem walk (a0 : Option Addr) (len0 cap0 : Nat) (z0 : List Int) (a1 : Int) (a2 : Int) (w : World) (w0 : IsRow .u8 w a0 len0 cap0 z0) (w1 : (Lit.int .i64 a1).wf = true) (w2 : (Lit.int .i64 a2).wf = true) :
    Calls Try.prog 3 #[.slice a0 len0 cap0, .int .i64 a1, .int .i64 a2] w fun e w' => e = .returned (.bool true) ∧ Below w.heap.size w w' := by
  by_cases hl : len0 ≤ 1048576
  · by_cases h : a1 < 0 ∨ (len0 : Int) < a1 ∨ a2 < a1 ∨ (len0 : Int) < a2
    · exact walk_out a0 len0 cap0 a1 a2 w hl h
    · obtain ⟨off, rfl⟩ := Int.eq_ofNat_of_zero_le (show 0 ≤ a1 by omega)
      obtain ⟨k, rfl⟩ := Int.eq_ofNat_of_zero_le (show 0 ≤ a2 by omega)
      rcases w0 with ⟨rfl, rfl, rfl, rfl⟩ | ⟨x, rfl, hlc, hm, hz, hcell, hwz⟩
      · obtain rfl : off = 0 := by omega
        obtain rfl : k = 0 := by omega
        exact walk_nil w
      · exact walk_some x len0 cap0 _ off k w hl (by omega) (by omega) (seg_of_row hlc hz hcell)
  · have h' : 1048576 < len0 := by omega
    clear w0 w1 w2 hl
    go_enter Try.func3, Try.ntmps3
    go_wp2_with fail
    refine (bytes_no _ _ _ _ _ _ h').mono ?_
    rintro e w' ⟨rfl, rfl⟩
    go_wp2
    go_ret
    exact ⟨rfl, Below.refl _ _⟩

/-! ### THE ROW's STEP: WRITTEN OUT: LEAVE IT -/
set_option maxRecDepth 100000 in
theorem lifted (os : Os) (started : os.Started) (H : Type) (enc : TypeId × Value → H) :
    ReturnsInHanded {} Try.checked os 3 .any (Rows.fnSkipSpaceCutSpec.pre6 enc Try.prog Try.f3 Rows.fnSkipSpaceCutRow.domain false) (Rows.fnSkipSpaceCutSpec.post enc Try.prog Try.f3 false true false false) := by
  refine returnsInHanded_of_change (C := Try.checked) own started (by kernel_rfl) Try.func3
    (ChangeSpec.witness6 (enc := enc) (C := Try.checked) false ⟨#[], #[.slice none 0 0, .int .i64 0, .int .i64 0], []⟩ 8 (by kernel_rfl) (by kernel_rfl) (by kernel_rfl) (by kernel_rfl)) ?_
  intro W base args ds gs before hval0 hW hcnd _
  have hval : ∀ (j : Nat) t v, Try.f3.params[j]? = some t → args[j]? = some v → Value.okWide Try.prog W .any base t v := hval0
  have hW' := hW
  obtain ⟨p, q, hA0, hV, rfl, hfz, hnd⟩ := hW
  have hA : DataW.TrodAll enc Try.prog W 0 (fun _ => true) true Try.f3.params.toList args.toList ds p := hA0
  rw [Try.params3] at hA hval
  obtain ⟨v0, vs0, d0, ds0, p0, q0, hargs, rfl, rfl, h0, r0⟩ := trodAll_cons hA
  obtain ⟨v1, vs1, d1, ds1, p1, q1, rfl, rfl, rfl, h1, r1⟩ := trodAll_cons r0
  obtain ⟨v2, vs2, d2, ds2, p2, q2, rfl, rfl, rfl, h2, r2⟩ := trodAll_cons r1
  obtain ⟨rfl, rfl, rfl⟩ := trodAll_nil r2
  obtain rfl : args = #[v0, v1, v2] := by cases args; simp_all
  obtain ⟨rfl, rfl⟩ := trodVars_none hV
  obtain ⟨a0, len0, cap0, rfl⟩ := okWide_slice Try.underlying22 (hval 0 22 v0 rfl rfl)
  have k0 := h0
  have lt0 : ∀ x ∈ p0, x.block < W.heap.size := by obtain ⟨m, hm⟩ := k0; exact DataW.trod_lt m _ _ _ hm
  obtain ⟨z0, w0⟩ : ∃ zs, IsRow .u8 W a0 len0 cap0 zs := by
    obtain ⟨fuel, hf⟩ := h0
    rcases open_ints Try.underlying22 Try.underlying5 (by kernel_rfl) hf with ⟨hcs, _⟩ | ⟨x, l, c, zs, hcs, _, hl, hm, hz, _, hcell, hwz⟩
    · simp [Value.cells] at hcs
      obtain ⟨rfl, rfl, rfl⟩ := hcs
      exact ⟨[], .inl ⟨rfl, rfl, rfl, rfl⟩⟩
    · simp [Value.cells] at hcs
      obtain ⟨rfl, rfl, rfl⟩ := hcs
      exact ⟨zs, .inr ⟨_, rfl, hl, hm, by simpa using hz, hcell, hwz⟩⟩
  obtain ⟨a1, rfl, rfl, rfl, w1⟩ := open_int Try.underlying3 (hval 1 3 v1 rfl rfl) h1
  obtain ⟨a2, rfl, rfl, rfl, w2⟩ := open_int Try.underlying3 (hval 2 3 v2 rfl rfl) h2
  clear hA0 hval0
  refine (walk a0 len0 cap0 z0 a1 a2 W w0 w1 w2).mono fun e W' ⟨he, bel⟩ => ?_
  subst he
  exact ⟨_, rfl, _, _, _, [], _, [], hW', trodAll_mk1 (shut_bool Try.underlying4 _), (trodAll_cons_mk (Below.trod laidOut (by kernel_rfl) (of_decide_eq_true (by kernel_rfl)) k0 bel lt0) (trodAll_cons_mk (shut_int Try.underlying3 w1) (trodAll_cons_mk (shut_int Try.underlying3 w2) trodAll_mk0))), rfl, bel.frame _, fun h => by cases h⟩

theorem over : Rows.fnSkipSpaceCutRow.holds Try.pinned (OpenSpec.ofChange Rows.fnSkipSpaceCutSpec) :=
  OpenClaim.holds_of_wide 3 Try.f3 rfl rfl rfl rfl rfl rfl rfl ⟨rfl, rfl, rfl, rfl, rfl⟩ rfl rfl rfl rfl rfl (by kernel_rfl) Try.func3 (by kernel_rfl)
    (of_decide_eq_true (by kernel_rfl)) (by unfold Func.isWrapper; first | (rw [if_pos (by decide +kernel)]; kernel_rfl) | (rw [if_neg (by decide +kernel)]; exact ⟨rfl, rfl⟩))
    (fun os started H enc _ => lifted os started H enc)

end Go.Proofs.Qxb6628205a.fnSkipSpaceCut

namespace Go.Proofs.Qxb6628205a
/-- THE STATEMENT -/
theorem fnSkipSpaceCut_holds : Rows.FnSkipSpaceCutSaid := fnSkipSpaceCut.over
end Go.Proofs.Qxb6628205a
