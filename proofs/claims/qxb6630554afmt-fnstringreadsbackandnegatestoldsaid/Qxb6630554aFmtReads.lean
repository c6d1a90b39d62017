/- The walk of 'FnStringReadsBackAndNegates'. -/
import Derived.Test.Qxb6630554aFmtCanon
namespace Go.Proofs.Qxb6630554aFmt
open Go.RowKit Go.Extern.Stop Go.Stop Go.Extern

theorem amt_minus (a : Int) (h : 0 < a) : amt (-a) = 45 :: amt a := by
  have e1 : sgn (-a) = ⟨#[45]⟩ := if_pos (by omega)
  have e2 : sgn a = ⟨#[]⟩ := if_neg (by omega)
  have e3 : (-a).natAbs = a.natAbs := Int.natAbs_neg a
  rw [amt_eq, amt_eq, e1, e2, e3]
  rfl

/-- The minus put ahead. -/
theorem minus_add (x y : ByteArray) (W : World) (hx : x.size ≤ 64) (h : y.data.toList = 45 :: x.data.toList) : (Op.stringOp .add ⟨#[45]⟩ x).run Tryf.prog W = .ok (.string y) W := by
  have e : (⟨#[45]⟩ : ByteArray) ++ x = y := by
    rw [bytes_ext h]
    refine bytes_ext ?_
    rw [ByteArray.data_append, Array.toList_append]
    rfl
  have h1 : (⟨#[45]⟩ : ByteArray).size = 1 := rfl
  rw [← e]
  exact run_string_add_sum W _ _ (by omega)

set_option maxHeartbeats 1000000 in
theorem reads_any (F : Interp) (a : Int) (w : World) (hF : F.told.answers w.tape) (hw : (Lit.int .i64 a).wf = true) :
    Calls Tryf.prog 3 #[.int .i64 a] w fun e w' => e = .returned (.bool true) ∧ Below w.heap.size w w' := by
  have hb := i64_bounds hw
  have HB : Hid (-9223372036854775808 ≤ a ∧ a ≤ 9223372036854775807) := hb
  have HW : Hid ((Lit.int .i64 a).wf = true) := hw
  have HF : Hid (F.told.answers w.tape) := hF
  clear hw hF
  obtain ⟨m, hm⟩ : ∃ m, a.natAbs = m := ⟨_, rfl⟩
  have HM : Hid (a.natAbs = m) := hm
  clear hm
  go_enter Tryf.func3, Tryf.ntmps3
  go_wp2_with fail
  refine (str_any F a w HF.out HW.out).mono ?_
  rintro e w2 ⟨rfl, hB⟩
  have B2 : Hid (Below w.heap.size w w2) := hB
  have F2 : Hid (F.told.answers w2.tape) := by unfold Hid; rw [hB.tape]; exact HF.out
  clear hB HF
  obtain ⟨s, hs⟩ : ∃ s : ByteArray, (⟨(amt a).toArray⟩ : ByteArray) = s := ⟨_, rfl⟩
  rw [hs]
  have HS : Hid (s.data.toList = amt a) := by unfold Hid; rw [← hs]
  clear hs
  obtain ⟨ng, hng⟩ : ∃ ng, decide (a < 0) = ng := ⟨_, rfl⟩
  have P : Hid (Calls Tryf.prog 6 #[.string s] w2 fun e w' => e = .returned (.tuple #[.bool ng, .int .u64 (m : Int), .bool true]) ∧ Below w2.heap.size w2 w') := by
    unfold Hid
    rw [← hng, ← HM.out]
    exact parse_amt s a w2 HS.out HW.out
  go_wp2_with fail
  refine P.out.mono ?_
  rintro e w3 ⟨rfl, hB⟩
  have B3 : Hid (Below w.heap.size w w3) := B2.out.trans (hB.mono B2.out.size)
  have F3 : Hid (F.told.answers w3.tape) := by unfold Hid; rw [hB.tape]; exact F2.out
  clear hB P B2 F2
  have M : Hid (Calls Tryf.prog 7 #[.int .i64 a] w3 fun e w' => e = .returned (.int .u64 (m : Int)) ∧ w' = w3) := by
    unfold Hid
    rw [← HM.out]
    exact mag7_any a w3 HW.out
  have ls : Hid (s.size ≤ 64) := by
    have e : s.size = s.data.toList.length := rfl
    unfold Hid
    rw [e, HS.out]
    exact amt_len a HW.out
  go_wp2_with fail
  refine M.out.mono ?_
  rintro e w4 ⟨rfl, rfl⟩
  clear M
  by_cases hmin : a = -9223372036854775808
  · have e : (a == -9223372036854775808) = true := by rw [hmin]; rfl
    clear hmin hb
    go_wp2
    go_ret
    exact ⟨rfl, B3.out⟩
  have emin : (a == -9223372036854775808) = false := by simpa using hmin
  have T : Hid (Calls Tryf.prog 5 #[.int .i64 (-a)] w4 fun e w' => e = .returned (.string ⟨(amt (-a)).toArray⟩) ∧ Below w4.heap.size w4 w') := str_any F (-a) w4 F3.out (i64_wf (by omega) (by omega))
  obtain ⟨t, ht⟩ : ∃ t : ByteArray, (⟨(amt (-a)).toArray⟩ : ByteArray) = t := ⟨_, rfl⟩
  rw [ht] at T
  have HT : Hid (t.data.toList = amt (-a)) := by unfold Hid; rw [← ht]
  have lt : Hid (t.size ≤ 64) := by
    have e : t.size = t.data.toList.length := rfl
    unfold Hid
    rw [e, HT.out]
    exact amt_len (-a) (i64_wf (by omega) (by omega))
  clear ht
  have n1 : -9223372036854775808 ≤ -a := by omega
  have n2 : -a ≤ 9223372036854775807 := by omega
  clear hmin
  by_cases hp : 0 < a
  · have A : ∀ W, (Op.stringOp .add ⟨#[45]⟩ s).run Tryf.prog W = .ok (.string t) W := fun W => minus_add s t W ls.out (by rw [HT.out, HS.out, amt_minus a hp])
    go_wp2_with fail
    refine T.out.mono ?_
    rintro e w5 ⟨rfl, hB⟩
    have B5 : Hid (Below w.heap.size w w5) := B3.out.trans (hB.mono B3.out.size)
    clear hB T
    go_wp2
    go_ret
    exact ⟨rfl, B5.out⟩
  by_cases hn : a < 0
  · have A : ∀ W, (Op.stringOp .add ⟨#[45]⟩ t).run Tryf.prog W = .ok (.string s) W := fun W => minus_add t s W lt.out (by rw [HT.out, HS.out, ← amt_minus (-a) (by omega), Int.neg_neg])
    go_wp2_with fail
    refine T.out.mono ?_
    rintro e w5 ⟨rfl, hB⟩
    have B5 : Hid (Below w.heap.size w w5) := B3.out.trans (hB.mono B3.out.size)
    clear hB T
    go_wp2
    go_ret
    exact ⟨rfl, B5.out⟩
  · obtain rfl : a = 0 := by omega
    have e : t = s := by
      have h1 := HT.out
      rw [Int.neg_zero] at h1
      rw [bytes_ext h1, bytes_ext HS.out]
    subst e
    rw [Int.neg_zero] at T
    have eng : ng = false := by rw [← hng]; rfl
    subst eng
    clear hp hn n1 n2 emin hb hng
    go_wp2_with fail
    refine T.out.mono ?_
    rintro e w5 ⟨rfl, hB⟩
    have B5 : Hid (Below w.heap.size w w5) := B3.out.trans (hB.mono B3.out.size)
    clear hB T
    go_wp2
    go_ret
    exact ⟨rfl, B5.out⟩

end Go.Proofs.Qxb6630554aFmt
