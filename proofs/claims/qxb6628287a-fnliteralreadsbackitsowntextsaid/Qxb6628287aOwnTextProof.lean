/- The proof of 'Rows.FnLiteralReadsBackItsOwnTextSaid': the frame by the kit's tool (proof-skeleton), the walk filled in. -/
import Derived.Test.Qxb6628287aRows
import Derived.Test.Qxb6628287aOwnText
import Derived.Below
import Derived.ChangeOld
import Derived.WalkKit
import Derived.ProofKit
import Derived.OpenShut
import Derived.ShutString
namespace Go.Proofs.Qxb6628287a.fnLiteralReadsBackItsOwnText
open Go.ChangeShapes Go.WideShapes Go.ChangeAt Go.RowKit
open Go.ChangeMaps (open_string shut_string)
set_option linter.unusedVariables false      -- a walk need not use every 'w<i>' (that an integer argument fits its kind)

theorem own : ownKnob Try.prog.godebug = none := by kernel_rfl

theorem walk (a0 : ByteArray) (a1 : Int) (a2 : Int) (w0 : a0.size ≤ maxLen) (w1 : (Lit.int .i64 a1).wf = true) (w2 : (Lit.int .i64 a2).wf = true) (w : World) :
    Calls Try.prog 4 #[.string a0, .int .i64 a1, .int .i64 a2] w fun e w' => e = .returned (.bool true) ∧ Below w.heap.size w w' := by
  by_cases hl : a0.size ≤ 1048576
  · by_cases h : a1 < 0 ∨ (a0.size : Int) < a1 ∨ a2 < 0
    · exact own_out a0 a1 a2 w hl h
    · obtain ⟨off, rfl⟩ := Int.eq_ofNat_of_zero_le (show 0 ≤ a1 by omega)
      obtain ⟨m, rfl⟩ := Int.eq_ofNat_of_zero_le (show 0 ≤ a2 by omega)
      obtain ⟨r, hr⟩ := Go.Proofs.Qxb6628287a.stop_exists (Go.Proofs.Qxb6628287a.ch a0) a0.size (a0.size - off) off (by omega)
      have hrh := hr.hi
      obtain ⟨q, hq⟩ : ∃ q : Nat, (a0.size : Int) - (r : Int) = (q : Int) := ⟨a0.size - r, by omega⟩
      by_cases hmq : (q : Int) < (m : Int)
      · cases q with
        | zero => exact own_end a0 off m w hl (by omega) r hr 0 hq (by omega) hmq
        | succ k => exact own_long a0 off m w hl (by omega) r hr (k + 1) hq k rfl hmq
      · cases m with
        | zero => exact own_none a0 off w hl (by omega) r hr q hq 0 (by omega) (by omega)
        | succ k => exact own_short a0 off w hl (by omega) r hr q hq k hmq
  · have h' : 1048576 < a0.size := by omega
    clear w0 w1 w2 hl
    go_enter Try.func4, Try.ntmps4
    go_wp2_with fail
    refine (bytes11_no _ _ _ _ h').mono ?_
    rintro e w' ⟨rfl, rfl⟩
    go_wp2
    go_ret
    exact ⟨rfl, Below.refl _ _⟩


/-! ### THE ROW's STEP: WRITTEN OUT: LEAVE IT -/
set_option maxRecDepth 100000 in
theorem lifted (os : Os) (started : os.Started) (H : Type) (enc : TypeId × Value → H) :
    ReturnsInHanded {} Try.checked os 4 .any (Rows.fnLiteralReadsBackItsOwnTextSpec.pre6 enc Try.prog Try.f4 Rows.fnLiteralReadsBackItsOwnTextRow.domain false) (Rows.fnLiteralReadsBackItsOwnTextSpec.post enc Try.prog Try.f4 false true false false) := by
  refine returnsInHanded_of_change (C := Try.checked) own started (by kernel_rfl) Try.func4
    (ChangeSpec.witness6 (enc := enc) (C := Try.checked) false ⟨#[], #[.string ByteArray.empty, .int .i64 0, .int .i64 0], []⟩ 8 (by kernel_rfl) (by kernel_rfl) (by kernel_rfl) (by kernel_rfl)) ?_
  intro W base args ds gs before hval0 hW hcnd _
  have hval : ∀ (j : Nat) t v, Try.f4.params[j]? = some t → args[j]? = some v → Value.okWide Try.prog W .any base t v := hval0
  have hW' := hW
  obtain ⟨p, q, hA0, hV, rfl, hfz, hnd⟩ := hW
  have hA : DataW.TrodAll enc Try.prog W 0 (fun _ => true) true Try.f4.params.toList args.toList ds p := hA0
  rw [Try.params4] at hA hval
  obtain ⟨v0, vs0, d0, ds0, p0, q0, hargs, rfl, rfl, h0, r0⟩ := trodAll_cons hA
  obtain ⟨v1, vs1, d1, ds1, p1, q1, rfl, rfl, rfl, h1, r1⟩ := trodAll_cons r0
  obtain ⟨v2, vs2, d2, ds2, p2, q2, rfl, rfl, rfl, h2, r2⟩ := trodAll_cons r1
  obtain ⟨rfl, rfl, rfl⟩ := trodAll_nil r2
  obtain rfl : args = #[v0, v1, v2] := by cases args; simp_all
  obtain ⟨rfl, rfl⟩ := trodVars_none hV
  obtain ⟨a0, rfl, rfl, rfl, w0⟩ := open_string Try.underlying9 (hval 0 9 v0 rfl rfl) h0
  obtain ⟨a1, rfl, rfl, rfl, w1⟩ := open_int Try.underlying3 (hval 1 3 v1 rfl rfl) h1
  obtain ⟨a2, rfl, rfl, rfl, w2⟩ := open_int Try.underlying3 (hval 2 3 v2 rfl rfl) h2
  clear hA0 hval0
  refine (walk a0 a1 a2 w0 w1 w2 W).mono fun e W' ⟨he, bel⟩ => ?_
  subst he
  exact ⟨_, rfl, _, _, _, [], _, [], hW', trodAll_mk1 (shut_bool Try.underlying4 _), (trodAll_cons_mk (shut_string Try.underlying9 w0) (trodAll_cons_mk (shut_int Try.underlying3 w1) (trodAll_cons_mk (shut_int Try.underlying3 w2) trodAll_mk0))), rfl, bel.frame _, fun h => by cases h⟩

theorem over : Rows.fnLiteralReadsBackItsOwnTextRow.holds Try.pinned (OpenSpec.ofChange Rows.fnLiteralReadsBackItsOwnTextSpec) :=
  OpenClaim.holds_of_wide 4 Try.f4 rfl rfl rfl rfl rfl rfl rfl ⟨rfl, rfl, rfl, rfl, rfl⟩ rfl rfl rfl rfl rfl (by kernel_rfl) Try.func4 (by kernel_rfl)
    (of_decide_eq_true (by kernel_rfl)) (by unfold Func.isWrapper; first | (rw [if_pos (by decide +kernel)]; kernel_rfl) | (rw [if_neg (by decide +kernel)]; exact ⟨rfl, rfl⟩))
    (fun os started H enc _ => lifted os started H enc)

end Go.Proofs.Qxb6628287a.fnLiteralReadsBackItsOwnText

namespace Go.Proofs.Qxb6628287a
/-- THE STATEMENT -/
theorem fnLiteralReadsBackItsOwnText_holds : Rows.FnLiteralReadsBackItsOwnTextSaid := fnLiteralReadsBackItsOwnText.over
end Go.Proofs.Qxb6628287a
