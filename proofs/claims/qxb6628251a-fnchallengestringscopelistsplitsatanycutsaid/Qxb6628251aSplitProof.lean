/- The proof of 'Rows.FnChallengeStringScopeListSplitsAtAnyCutSaid': the frame as the kit's shells have it, over the walk. -/
import Derived.Test.Qxb6628251aRows
import Derived.Test.Qxb6628251aOpen
import Derived.Test.Qxb6628251aSplit
import Derived.WalkKit
import Derived.ProofKit
import Derived.OpenShut
import Derived.ShutString
import Derived.ChangeOld
import Derived.Below
namespace Go.Proofs.Qxb6628251a.fnChallengeStringScopeListSplitsAtAnyCut
open Go.ChangeShapes Go.WideShapes Go.ChangeAt Go.RowKit
open Go.ChangeMaps (open_string shut_string)
set_option linter.unusedVariables false

theorem own : ownKnob Try.prog.godebug = none := by kernel_rfl
theorem laidOut : laidOutB Try.prog = true := by kernel_rfl

theorem walk (realm service err : ByteArray) (aT aN aA bT bN bA : Option Addr) (n cT nN cN nA cA m dT mN dN mA dA : Nat) (tt nn : Nat → ByteArray) (g : Nat → Sl) (ff : Nat → Nat → ByteArray) (tb nb : Nat → ByteArray) (gb : Nat → Sl) (fb : Nat → Nat → ByteArray) (w : World)
    (M1 : n ≤ maxLen) (M2 : nN ≤ maxLen) (M3 : nA ≤ maxLen) (M4 : m ≤ maxLen) (M5 : mN ≤ maxLen) (M6 : mA ≤ maxLen) (MG : ∀ i, i < nA → (g i).len ≤ maxLen) (MH : ∀ i, i < mA → (gb i).len ≤ maxLen)
    (SA1 : Strs w aT n tt) (SA2 : Strs w aN nN nn) (SA3 : Nest w aA nA g ff) (SB1 : Strs w bT m tb) (SB2 : Strs w bN mN nb) (SB3 : Nest w bA mA gb fb)
    (G1 : ∀ i, i < nA → (g i).len ≤ (g i).cap) (G2 : ∀ i, i < mA → (gb i).len ≤ (gb i).cap) (N1 : aT = none → n = 0 ∧ cT = 0) (N2 : bT = none → m = 0 ∧ dT = 0) :
    Calls Try.prog 4 #[.string realm, .string service, .string err, .slice aT n cT, .slice aN nN cN, .slice aA nA cA, .slice bT m dT, .slice bN mN dN, .slice bA mA dA] w fun e w' => e = .returned (.bool true) ∧ Below w.heap.size w w' := by
  by_cases h : n = nN ∧ n = nA ∧ m = mN ∧ m = mA
  · obtain ⟨rfl, rfl, rfl, rfl⟩ := h
    exact split_eq realm service err aT aN aA bT bN bA n cT cN cA m dT dN dA tt nn g ff tb nb gb fb w M1 M2 M3 M4 M5 M6 MG MH SA1 SA2 SA3 SB1 SB2 SB3 G1 G2 N1 N2
  · exact split_uneq realm service err aT aN aA bT bN bA n nN nA cT cN cA m mN mA dT dN dA tt nn g ff tb nb gb fb w M1 M2 M3 M4 M5 M6 MG MH SA1 SA2 SA3 SB1 SB2 SB3 h

set_option maxRecDepth 100000 in
theorem lifted (os : Os) (started : os.Started) (H : Type) (enc : TypeId × Value → H) :
    ReturnsInHanded {} Try.checked os 4 .any (Rows.fnChallengeStringScopeListSplitsAtAnyCutSpec.pre6 enc Try.prog Try.f4 Rows.fnChallengeStringScopeListSplitsAtAnyCutRow.domain false) (Rows.fnChallengeStringScopeListSplitsAtAnyCutSpec.post enc Try.prog Try.f4 false true false false) := by
  refine returnsInHanded_of_change (C := Try.checked) own started (by kernel_rfl) Try.func4
    (ChangeSpec.witness6 (enc := enc) (C := Try.checked) false ⟨#[], #[.string ⟨#[]⟩, .string ⟨#[]⟩, .string ⟨#[]⟩, .slice none 0 0, .slice none 0 0, .slice none 0 0, .slice none 0 0, .slice none 0 0, .slice none 0 0], []⟩ 8 (by kernel_rfl) (by kernel_rfl) (by kernel_rfl) (by kernel_rfl)) ?_
  intro W base args ds gs before hval0 hW hcnd _
  have hval : ∀ (j : Nat) t v, Try.f4.params[j]? = some t → args[j]? = some v → Value.okWide Try.prog W .any base t v := hval0
  have hW' := hW
  obtain ⟨p, q, hA0, hV, rfl, hfz, hnd⟩ := hW
  have hA : DataW.TrodAll enc Try.prog W 0 (fun _ => true) true Try.f4.params.toList args.toList ds p := hA0
  rw [Try.params4] at hA hval
  obtain ⟨v0, vs0, d0, ds0, p0, q0, hargs, rfl, rfl, h0, r0⟩ := trodAll_cons hA
  obtain ⟨v1, vs1, d1, ds1, p1, q1, rfl, rfl, rfl, h1, r1⟩ := trodAll_cons r0
  obtain ⟨v2, vs2, d2, ds2, p2, q2, rfl, rfl, rfl, h2, r2⟩ := trodAll_cons r1
  obtain ⟨v3, vs3, d3, ds3, p3, q3, rfl, rfl, rfl, h3, r3⟩ := trodAll_cons r2
  obtain ⟨v4, vs4, d4, ds4, p4, q4, rfl, rfl, rfl, h4, r4⟩ := trodAll_cons r3
  obtain ⟨v5, vs5, d5, ds5, p5, q5, rfl, rfl, rfl, h5, r5⟩ := trodAll_cons r4
  obtain ⟨v6, vs6, d6, ds6, p6, q6, rfl, rfl, rfl, h6, r6⟩ := trodAll_cons r5
  obtain ⟨v7, vs7, d7, ds7, p7, q7, rfl, rfl, rfl, h7, r7⟩ := trodAll_cons r6
  obtain ⟨v8, vs8, d8, ds8, p8, q8, rfl, rfl, rfl, h8, r8⟩ := trodAll_cons r7
  obtain ⟨rfl, rfl, rfl⟩ := trodAll_nil r8
  obtain rfl : args = #[v0, v1, v2, v3, v4, v5, v6, v7, v8] := by cases args; simp_all
  obtain ⟨rfl, rfl⟩ := trodVars_none hV
  obtain ⟨s0, rfl, rfl, rfl, w0⟩ := open_string Try.underlying9 (hval 0 9 v0 rfl rfl) h0
  obtain ⟨s1, rfl, rfl, rfl, w1⟩ := open_string Try.underlying9 (hval 1 9 v1 rfl rfl) h1
  obtain ⟨s2, rfl, rfl, rfl, w2⟩ := open_string Try.underlying9 (hval 2 9 v2 rfl rfl) h2
  obtain ⟨a3, n3, c3, rfl⟩ := okWide_slice Try.underlying22 (hval 3 22 v3 rfl rfl)
  have k3 := h3
  have lt3 : ∀ x ∈ p3, x.block < W.heap.size := by obtain ⟨m, hm⟩ := k3; exact DataW.trod_lt m _ _ _ hm
  obtain ⟨fuel3, hf3⟩ := h3
  obtain ⟨f3, S3, C3, M3, N3⟩ := strs_open (by simpa [Value.cells] using hf3)
  obtain ⟨a4, n4, c4, rfl⟩ := okWide_slice Try.underlying22 (hval 4 22 v4 rfl rfl)
  have k4 := h4
  have lt4 : ∀ x ∈ p4, x.block < W.heap.size := by obtain ⟨m, hm⟩ := k4; exact DataW.trod_lt m _ _ _ hm
  obtain ⟨fuel4, hf4⟩ := h4
  obtain ⟨f4, S4, C4, M4, N4⟩ := strs_open (by simpa [Value.cells] using hf4)
  obtain ⟨a5, n5, c5, rfl⟩ := okWide_slice Try.underlying23 (hval 5 23 v5 rfl rfl)
  have k5 := h5
  have lt5 : ∀ x ∈ p5, x.block < W.heap.size := by obtain ⟨m, hm⟩ := k5; exact DataW.trod_lt m _ _ _ hm
  obtain ⟨fuel5, hf5⟩ := h5
  obtain ⟨g5, f5, S5, M5, C5, G5⟩ := nest_open (by simpa [Value.cells] using hf5)
  obtain ⟨a6, n6, c6, rfl⟩ := okWide_slice Try.underlying22 (hval 6 22 v6 rfl rfl)
  have k6 := h6
  have lt6 : ∀ x ∈ p6, x.block < W.heap.size := by obtain ⟨m, hm⟩ := k6; exact DataW.trod_lt m _ _ _ hm
  obtain ⟨fuel6, hf6⟩ := h6
  obtain ⟨f6, S6, C6, M6, N6⟩ := strs_open (by simpa [Value.cells] using hf6)
  obtain ⟨a7, n7, c7, rfl⟩ := okWide_slice Try.underlying22 (hval 7 22 v7 rfl rfl)
  have k7 := h7
  have lt7 : ∀ x ∈ p7, x.block < W.heap.size := by obtain ⟨m, hm⟩ := k7; exact DataW.trod_lt m _ _ _ hm
  obtain ⟨fuel7, hf7⟩ := h7
  obtain ⟨f7, S7, C7, M7, N7⟩ := strs_open (by simpa [Value.cells] using hf7)
  obtain ⟨a8, n8, c8, rfl⟩ := okWide_slice Try.underlying23 (hval 8 23 v8 rfl rfl)
  have k8 := h8
  have lt8 : ∀ x ∈ p8, x.block < W.heap.size := by obtain ⟨m, hm⟩ := k8; exact DataW.trod_lt m _ _ _ hm
  obtain ⟨fuel8, hf8⟩ := h8
  obtain ⟨g8, f8, S8, M8, C8, G8⟩ := nest_open (by simpa [Value.cells] using hf8)
  clear hA0 hval0
  refine (walk s0 s1 s2 a3 a4 a5 a6 a7 a8 n3 c3 n4 c4 n5 c5 n6 c6 n7 c7 n8 c8 f3 f4 g5 f5 f6 f7 g8 f8 W M3 M4 M5 M6 M7 M8 G5 G8 S3 S4 S5 S6 S7 S8 C5 C8 N3 N6).mono fun e W' ⟨he, bel⟩ => ?_
  subst he
  exact ⟨_, rfl, _, _, _, [], _, [], hW', trodAll_mk1 (shut_bool Try.underlying4 _), (trodAll_cons_mk (shut_string Try.underlying9 w0) (trodAll_cons_mk (shut_string Try.underlying9 w1) (trodAll_cons_mk (shut_string Try.underlying9 w2) (trodAll_cons_mk (Below.trod laidOut (by kernel_rfl) (of_decide_eq_true (by kernel_rfl)) k3 bel lt3) (trodAll_cons_mk (Below.trod laidOut (by kernel_rfl) (of_decide_eq_true (by kernel_rfl)) k4 bel lt4) (trodAll_cons_mk (Below.trod laidOut (by kernel_rfl) (of_decide_eq_true (by kernel_rfl)) k5 bel lt5) (trodAll_cons_mk (Below.trod laidOut (by kernel_rfl) (of_decide_eq_true (by kernel_rfl)) k6 bel lt6) (trodAll_cons_mk (Below.trod laidOut (by kernel_rfl) (of_decide_eq_true (by kernel_rfl)) k7 bel lt7) (trodAll_cons_mk (Below.trod laidOut (by kernel_rfl) (of_decide_eq_true (by kernel_rfl)) k8 bel lt8) trodAll_mk0))))))))), rfl, bel.frame _, fun h => by cases h⟩

theorem over : Rows.fnChallengeStringScopeListSplitsAtAnyCutRow.holds Try.pinned (OpenSpec.ofChange Rows.fnChallengeStringScopeListSplitsAtAnyCutSpec) :=
  OpenClaim.holds_of_wide 4 Try.f4 rfl rfl rfl rfl rfl rfl rfl ⟨rfl, rfl, rfl, rfl, rfl⟩ rfl rfl rfl rfl rfl (by kernel_rfl) Try.func4 (by kernel_rfl)
    (of_decide_eq_true (by kernel_rfl)) (by unfold Func.isWrapper; first | (rw [if_pos (by decide +kernel)]; kernel_rfl) | (rw [if_neg (by decide +kernel)]; exact ⟨rfl, rfl⟩))
    (fun os started H enc _ => lifted os started H enc)

end Go.Proofs.Qxb6628251a.fnChallengeStringScopeListSplitsAtAnyCut

namespace Go.Proofs.Qxb6628251a
/-- THE STATEMENT -/
theorem fnChallengeStringScopeListSplitsAtAnyCut_holds : Rows.FnChallengeStringScopeListSplitsAtAnyCutSaid := fnChallengeStringScopeListSplitsAtAnyCut.over
end Go.Proofs.Qxb6628251a
