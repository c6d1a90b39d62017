/- The proof of 'Rows.FnChallengeStringReadsBackAsItsFieldsSaid': the frame as the kit's shells have it, over the walk. -/
import Derived.Test.Qxb6628251aRows
import Derived.Test.Qxb6628251aOpen
import Derived.Test.Qxb6628251aReads
import Derived.WalkKit
import Derived.ProofKit
import Derived.OpenShut
import Derived.ShutString
import Derived.ChangeOld
import Derived.Below
namespace Go.Proofs.Qxb6628251a.fnChallengeStringReadsBackAsItsFields
open Go.ChangeShapes Go.WideShapes Go.ChangeAt Go.RowKit
open Go.ChangeMaps (open_string shut_string)
set_option linter.unusedVariables false

theorem own : ownKnob Try.prog.godebug = none := by kernel_rfl
theorem laidOut : laidOutB Try.prog = true := by kernel_rfl

theorem walk (realm service err : ByteArray) (aT aN aA : Option Addr) (n cT nN cN nA cA : Nat) (tt nn : Nat → ByteArray) (g : Nat → Sl) (ff : Nat → Nat → ByteArray) (w : World)
    (M1 : n ≤ maxLen) (M2 : nN ≤ maxLen) (M3 : nA ≤ maxLen) (MG : ∀ i, i < nA → (g i).len ≤ maxLen) (SA1 : Strs w aT n tt) (SA2 : Strs w aN nN nn) (SA3 : Nest w aA nA g ff)
    (G1 : ∀ i, i < nA → (g i).len ≤ (g i).cap) (N1 : aT = none → n = 0 ∧ cT = 0) :
    Calls Try.prog 3 #[.string realm, .string service, .slice aT n cT, .slice aN nN cN, .slice aA nA cA, .string err] w fun e w' => e = .returned (.bool true) ∧ Below w.heap.size w w' := by
  by_cases h : n = nN ∧ n = nA
  · obtain ⟨rfl, rfl⟩ := h
    by_cases hn : 0 < n
    · by_cases he : 0 < err.size
      · exact reads_se realm service err aT aN aA n cT cN cA tt nn g ff w M1 M2 M3 MG SA1 SA2 SA3 G1 N1 hn he
      · exact reads_sn realm service err aT aN aA n cT cN cA tt nn g ff w M1 M2 M3 MG SA1 SA2 SA3 G1 N1 hn (by omega)
    · by_cases he : 0 < err.size
      · exact reads_ne realm service err aT aN aA n cT cN cA tt nn g ff w M1 M2 M3 MG SA1 SA2 SA3 G1 N1 (by omega) he
      · exact reads_nn realm service err aT aN aA n cT cN cA tt nn g ff w M1 M2 M3 MG SA1 SA2 SA3 G1 N1 (by omega) (by omega)
  · exact reads_uneq realm service err aT aN aA n nN nA cT cN cA tt nn g ff w M1 M2 M3 MG SA1 SA2 SA3 h

set_option maxRecDepth 100000 in
theorem lifted (os : Os) (started : os.Started) (H : Type) (enc : TypeId × Value → H) :
    ReturnsInHanded {} Try.checked os 3 .any (Rows.fnChallengeStringReadsBackAsItsFieldsSpec.pre6 enc Try.prog Try.f3 Rows.fnChallengeStringReadsBackAsItsFieldsRow.domain false) (Rows.fnChallengeStringReadsBackAsItsFieldsSpec.post enc Try.prog Try.f3 false true false false) := by
  refine returnsInHanded_of_change (C := Try.checked) own started (by kernel_rfl) Try.func3
    (ChangeSpec.witness6 (enc := enc) (C := Try.checked) false ⟨#[], #[.string ⟨#[]⟩, .string ⟨#[]⟩, .slice none 0 0, .slice none 0 0, .slice none 0 0, .string ⟨#[]⟩], []⟩ 8 (by kernel_rfl) (by kernel_rfl) (by kernel_rfl) (by kernel_rfl)) ?_
  intro W base args ds gs before hval0 hW hcnd _
  have hval : ∀ (j : Nat) t v, Try.f3.params[j]? = some t → args[j]? = some v → Value.okWide Try.prog W .any base t v := hval0
  have hW' := hW
  obtain ⟨p, q, hA0, hV, rfl, hfz, hnd⟩ := hW
  have hA : DataW.TrodAll enc Try.prog W 0 (fun _ => true) true Try.f3.params.toList args.toList ds p := hA0
  rw [Try.params3] at hA hval
  obtain ⟨v0, vs0, d0, ds0, p0, q0, hargs, rfl, rfl, h0, r0⟩ := trodAll_cons hA
  obtain ⟨v1, vs1, d1, ds1, p1, q1, rfl, rfl, rfl, h1, r1⟩ := trodAll_cons r0
  obtain ⟨v2, vs2, d2, ds2, p2, q2, rfl, rfl, rfl, h2, r2⟩ := trodAll_cons r1
  obtain ⟨v3, vs3, d3, ds3, p3, q3, rfl, rfl, rfl, h3, r3⟩ := trodAll_cons r2
  obtain ⟨v4, vs4, d4, ds4, p4, q4, rfl, rfl, rfl, h4, r4⟩ := trodAll_cons r3
  obtain ⟨v5, vs5, d5, ds5, p5, q5, rfl, rfl, rfl, h5, r5⟩ := trodAll_cons r4
  obtain ⟨rfl, rfl, rfl⟩ := trodAll_nil r5
  obtain rfl : args = #[v0, v1, v2, v3, v4, v5] := by cases args; simp_all
  obtain ⟨rfl, rfl⟩ := trodVars_none hV
  obtain ⟨s0, rfl, rfl, rfl, w0⟩ := open_string Try.underlying9 (hval 0 9 v0 rfl rfl) h0
  obtain ⟨s1, rfl, rfl, rfl, w1⟩ := open_string Try.underlying9 (hval 1 9 v1 rfl rfl) h1
  obtain ⟨a2, n2, c2, rfl⟩ := okWide_slice Try.underlying22 (hval 2 22 v2 rfl rfl)
  have k2 := h2
  have lt2 : ∀ x ∈ p2, x.block < W.heap.size := by obtain ⟨m, hm⟩ := k2; exact DataW.trod_lt m _ _ _ hm
  obtain ⟨fuel2, hf2⟩ := h2
  obtain ⟨f2, S2, C2, M2, N2⟩ := strs_open (by simpa [Value.cells] using hf2)
  obtain ⟨a3, n3, c3, rfl⟩ := okWide_slice Try.underlying22 (hval 3 22 v3 rfl rfl)
  have k3 := h3
  have lt3 : ∀ x ∈ p3, x.block < W.heap.size := by obtain ⟨m, hm⟩ := k3; exact DataW.trod_lt m _ _ _ hm
  obtain ⟨fuel3, hf3⟩ := h3
  obtain ⟨f3, S3, C3, M3, N3⟩ := strs_open (by simpa [Value.cells] using hf3)
  obtain ⟨a4, n4, c4, rfl⟩ := okWide_slice Try.underlying23 (hval 4 23 v4 rfl rfl)
  have k4 := h4
  have lt4 : ∀ x ∈ p4, x.block < W.heap.size := by obtain ⟨m, hm⟩ := k4; exact DataW.trod_lt m _ _ _ hm
  obtain ⟨fuel4, hf4⟩ := h4
  obtain ⟨g4, f4, S4, M4, C4, G4⟩ := nest_open (by simpa [Value.cells] using hf4)
  obtain ⟨s5, rfl, rfl, rfl, w5⟩ := open_string Try.underlying9 (hval 5 9 v5 rfl rfl) h5
  clear hA0 hval0
  refine (walk s0 s1 s5 a2 a3 a4 n2 c2 n3 c3 n4 c4 f2 f3 g4 f4 W M2 M3 M4 G4 S2 S3 S4 C4 N2).mono fun e W' ⟨he, bel⟩ => ?_
  subst he
  exact ⟨_, rfl, _, _, _, [], _, [], hW', trodAll_mk1 (shut_bool Try.underlying4 _), (trodAll_cons_mk (shut_string Try.underlying9 w0) (trodAll_cons_mk (shut_string Try.underlying9 w1) (trodAll_cons_mk (Below.trod laidOut (by kernel_rfl) (of_decide_eq_true (by kernel_rfl)) k2 bel lt2) (trodAll_cons_mk (Below.trod laidOut (by kernel_rfl) (of_decide_eq_true (by kernel_rfl)) k3 bel lt3) (trodAll_cons_mk (Below.trod laidOut (by kernel_rfl) (of_decide_eq_true (by kernel_rfl)) k4 bel lt4) (trodAll_cons_mk (shut_string Try.underlying9 w5) trodAll_mk0)))))), rfl, bel.frame _, fun h => by cases h⟩

theorem over : Rows.fnChallengeStringReadsBackAsItsFieldsRow.holds Try.pinned (OpenSpec.ofChange Rows.fnChallengeStringReadsBackAsItsFieldsSpec) :=
  OpenClaim.holds_of_wide 3 Try.f3 rfl rfl rfl rfl rfl rfl rfl ⟨rfl, rfl, rfl, rfl, rfl⟩ rfl rfl rfl rfl rfl (by kernel_rfl) Try.func3 (by kernel_rfl)
    (of_decide_eq_true (by kernel_rfl)) (by unfold Func.isWrapper; first | (rw [if_pos (by decide +kernel)]; kernel_rfl) | (rw [if_neg (by decide +kernel)]; exact ⟨rfl, rfl⟩))
    (fun os started H enc _ => lifted os started H enc)

end Go.Proofs.Qxb6628251a.fnChallengeStringReadsBackAsItsFields

namespace Go.Proofs.Qxb6628251a
/-- THE STATEMENT -/
theorem fnChallengeStringReadsBackAsItsFields_holds : Rows.FnChallengeStringReadsBackAsItsFieldsSaid := fnChallengeStringReadsBackAsItsFields.over
end Go.Proofs.Qxb6628251a
