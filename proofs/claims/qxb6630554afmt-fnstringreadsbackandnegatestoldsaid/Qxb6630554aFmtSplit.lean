/- The walk of 'FnStringSplitsYuanAndFen'. -/
import Derived.Test.Qxb6630554aFmtStop
import Derived.Laws.IdiomStrings
import Derived.RegionTactic
import Derived.Deep.QuietTactic
import Derived.BigQuiet
import Derived.Deep.OwnRows
import Derived.WalkSmall
import Derived.Deep.LoopGhost
namespace Go.Proofs.Qxb6630554aFmt
open Go.RowKit Go.Extern.Stop Go.Stop Go.Extern

/-- The two digits of a number below a hundred. -/
def two (r : Nat) : List UInt8 := List.replicate (2 - (Lib.decDigits r).length) 48 ++ Lib.decDigits r

theorem two_eq (r : Nat) (h : r < 100) : two r = [UInt8.ofNat (48 + r / 10), UInt8.ofNat (48 + r % 10)] := by
  have : ∀ r : Fin 100, two r.val = [UInt8.ofNat (48 + r.val / 10), UInt8.ofNat (48 + r.val % 10)] := by decide +kernel
  exact this ⟨r, h⟩

theorem dec_zero : Lib.decDigits 0 = [48] := by decide +kernel

theorem amt_eq (a : Int) : amt a = (sgn a).data.toList ++ (Lib.decDigits (a.natAbs / 100) ++ ([46] ++ two (a.natAbs % 100))) := rfl

theorem amt_whole (q : Nat) : amt ((q * 100 : Nat) : Int) = Lib.decDigits q ++ [46, 48, 48] := by
  have h1 : ((q * 100 : Nat) : Int).natAbs = q * 100 := rfl
  have h2 : sgn ((q * 100 : Nat) : Int) = ⟨#[]⟩ := if_neg (by omega)
  have h3 : q * 100 / 100 = q := by omega
  have h4 : q * 100 % 100 = 0 := by omega
  have h5 : two 0 = [48, 48] := by decide +kernel
  rw [amt_eq, h1, h2, h3, h4, h5]
  rfl

theorem amt_frac (r : Nat) (h : r < 100) : amt (r : Int) = [48, 46, UInt8.ofNat (48 + r / 10), UInt8.ofNat (48 + r % 10)] := by
  have h1 : ((r : Nat) : Int).natAbs = r := rfl
  have h2 : sgn (r : Int) = ⟨#[]⟩ := if_neg (by omega)
  have h3 : r / 100 = 0 := by omega
  have h4 : r % 100 = r := by omega
  rw [amt_eq, h1, h2, h3, h4, two_eq r h, dec_zero]
  rfl

theorem i64_wf {a : Int} (h1 : -9223372036854775808 ≤ a) (h2 : a ≤ 9223372036854775807) : (Lit.int .i64 a).wf = true := by
  simp [Lit.wf, IntKind.min, IntKind.max, IntKind.signed, IntKind.bits]
  omega

theorem dec_pos (q : Nat) : 1 ≤ (Lib.decDigits q).length := by
  rw [Lib.decDigits_length]
  unfold Lib.nDigits
  split <;> omega

theorem dec_step (u : Nat) : Lib.decDigits u = if u < 10 then [UInt8.ofNat (48 + u)] else Lib.decDigits (u / 10) ++ [UInt8.ofNat (48 + u % 10)] := by
  by_cases h : u < 10
  · rw [if_pos h, Lib.decDigits_one h]
  · rw [if_neg h, Lib.decDigits, dif_neg h]

theorem dec_digit (u : Nat) : ∀ c ∈ Lib.decDigits u, 48 ≤ c.toNat ∧ c.toNat ≤ 57 := by
  induction u using Nat.strongRecOn with
  | ind u ih =>
    intro c hc
    rw [dec_step] at hc
    by_cases h : u < 10
    · rw [if_pos h, List.mem_singleton] at hc
      subst hc
      rw [UInt8.toNat_ofNat']
      omega
    · rw [if_neg h, List.mem_append, List.mem_singleton] at hc
      rcases hc with hc | hc
      · exact ih (u / 10) (by omega) c hc
      · subst hc
        rw [UInt8.toNat_ofNat']
        omega

/-- 'string([]byte{..})' of the four bytes. -/
theorem back4 (w : World) (fr : ByteArray) (t u : Nat) (ht : t < 200) (hu : u < 200) (h : fr.data.toList = [48, 46, UInt8.ofNat (48 + t), UInt8.ofNat (48 + u)]) :
    (convert 29 9 (.slice (some ⟨w.heap.size, 0, none⟩) 4 4)).run Tryf.prog (w.alloc (.cells #[.int .u8 48, .int .u8 46, .int .u8 (48 + (t : Int)), .int .u8 (48 + (u : Int))] 5)) = .ok (.string fr) (w.alloc (.cells #[.int .u8 48, .int .u8 46, .int .u8 (48 + (t : Int)), .int .u8 (48 + (u : Int))] 5)) := by
  have e1 : ((UInt8.ofNat (48 + t)).toNat : Int) = 48 + (t : Int) := by rw [UInt8.toNat_ofNat']; omega
  have e2 : ((UInt8.ofNat (48 + u)).toNat : Int) = 48 + (u : Int) := by rw [UInt8.toNat_ofNat']; omega
  have hb := run_convert_bytes_back (P := Tryf.prog) (w.alloc (.cells #[.int .u8 48, .int .u8 46, .int .u8 (48 + (t : Int)), .int .u8 (48 + (u : Int))] 5)) 29 9 5 ⟨w.heap.size, 0, none⟩ 4 [48, 46, UInt8.ofNat (48 + t), UInt8.ofNat (48 + u)] Tryf.underlying29 Tryf.underlying5 Tryf.underlying9 (fun j hj => by
    rw [Go.WideShapes.add_plain, Nat.zero_add]
    have hj' : j < 4 := hj
    match j, hj' with
    | 0, _ => go_simp
    | 1, _ => go_simp
    | 2, _ => show _ = some (Value.int .u8 ((UInt8.ofNat (48 + t)).toNat : Int)); rw [e1]; go_simp
    | 3, _ => show _ = some (Value.int .u8 ((UInt8.ofNat (48 + u)).toNat : Int)); rw [e2]; go_simp)
  rw [bytes_ext h]
  exact hb

set_option maxHeartbeats 1000000 in
theorem split_any (F : Interp) (a : Int) (w : World) (hF : F.told.answers w.tape) (hw : (Lit.int .i64 a).wf = true) :
    Calls Tryf.prog 4 #[.int .i64 a] w fun e w' => e = .returned (.bool true) ∧ Below w.heap.size w w' := by
  have hb := i64_bounds hw
  obtain ⟨m, hm⟩ : ∃ m, a.natAbs = m := ⟨_, rfl⟩
  have hm' : m ≤ 9223372036854775808 := by omega
  obtain ⟨q, hq⟩ : ∃ q : Nat, (m : Int) / 100 = (q : Int) := ⟨m / 100, by omega⟩
  obtain ⟨r, hr⟩ : ∃ r : Nat, (m : Int) % 100 = (r : Int) := ⟨m % 100, by omega⟩
  obtain ⟨t, ht⟩ : ∃ t : Nat, (r : Int) / 10 = (t : Int) := ⟨r / 10, by omega⟩
  obtain ⟨u, hu⟩ : ∃ u : Nat, (r : Int) % 10 = (u : Int) := ⟨r % 10, by omega⟩
  obtain ⟨k, hk⟩ : ∃ k : Nat, (q : Int) * 100 = (k : Int) := ⟨q * 100, by omega⟩
  have hk' : (k : Int) ≤ 9223372036854775807 := by omega
  have hk0 : (0 : Int) ≤ (k : Int) := by omega
  have hr' : r < 100 := by omega
  have ht' : t < 10 := by omega
  have hu' : u < 10 := by omega
  have M7 : Hid (Calls Tryf.prog 7 #[.int .i64 a] w fun e w' => e = .returned (.int .u64 (m : Int)) ∧ w' = w) := by
    unfold Hid; rw [← hm]; exact mag7_any a w hw
  have HM : Hid (a.natAbs = m) := hm
  have HW : Hid ((Lit.int .i64 a).wf = true) := hw
  have HF : Hid (F.told.answers w.tape) := hF
  clear hm hw hF hb
  go_enter Tryf.func4, Tryf.ntmps4
  go_wp2_with fail
  refine M7.out.mono ?_
  rintro e w1 ⟨rfl, rfl⟩
  clear M7
  go_wp2_with fail
  refine (str_any F a w1 HF.out HW.out).mono ?_
  rintro e w2 ⟨rfl, hB⟩
  have B2 : Hid (Below w1.heap.size w1 w2) := hB
  have F2 : Hid (F.told.answers w2.tape) := by unfold Hid; rw [hB.tape]; exact HF.out
  clear hB HF
  obtain ⟨s, hs⟩ : ∃ s : ByteArray, (⟨(amt a).toArray⟩ : ByteArray) = s := ⟨_, rfl⟩
  rw [hs]
  have HS : Hid (s.data.toList = amt a) := by unfold Hid; rw [← hs]
  clear hs
  go_wp2_with fail
  refine (str_any F k w2 F2.out (i64_wf (by omega) (by omega))).mono ?_
  rintro e w3 ⟨rfl, hB⟩
  have B3 : Hid (Below w1.heap.size w1 w3) := B2.out.trans (hB.mono B2.out.size)
  have F3 : Hid (F.told.answers w3.tape) := by unfold Hid; rw [hB.tape]; exact F2.out
  clear hB B2 F2
  obtain ⟨wh, hwh⟩ : ∃ wh : ByteArray, (⟨(amt (k : Int)).toArray⟩ : ByteArray) = wh := ⟨_, rfl⟩
  rw [hwh]
  have HWH : Hid (wh.data.toList = Lib.decDigits q ++ [46, 48, 48]) := by
    unfold Hid
    have e : (k : Int) = ((q * 100 : Nat) : Int) := by omega
    rw [← hwh, e]
    exact amt_whole q
  clear hwh
  go_wp2_with fail
  refine (str_any F r w3 F3.out (i64_wf (by omega) (by omega))).mono ?_
  rintro e w4 ⟨rfl, hB⟩
  have B4 : Hid (Below w1.heap.size w1 w4) := B3.out.trans (hB.mono B3.out.size)
  clear hB B3 F3
  obtain ⟨fr, hfr⟩ : ∃ fr : ByteArray, (⟨(amt (r : Int)).toArray⟩ : ByteArray) = fr := ⟨_, rfl⟩
  rw [hfr]
  have HFR : Hid (fr.data.toList = [48, 46, UInt8.ofNat (48 + t), UInt8.ofNat (48 + u)]) := by
    unfold Hid
    have e1 : t = r / 10 := by omega
    have e2 : u = r % 10 := by omega
    rw [← hfr, e1, e2]
    exact amt_frac r hr'
  clear hfr
  -- the texts
  have hback : (convert 29 9 (.slice (some ⟨w4.heap.size, 0, none⟩) 4 4)).run Tryf.prog (w4.alloc (.cells #[.int .u8 48, .int .u8 46, .int .u8 (48 + (t : Int)), .int .u8 (48 + (u : Int))] 5)) = .ok (.string fr) (w4.alloc (.cells #[.int .u8 48, .int .u8 46, .int .u8 (48 + (t : Int)), .int .u8 (48 + (u : Int))] 5)) := back4 w4 fr t u (by omega) (by omega) HFR.out
  obtain ⟨d, hd⟩ : ∃ d, (Lib.decDigits q).length = d := ⟨_, rfl⟩
  have hd1 : 1 ≤ d := by rw [← hd]; exact dec_pos q
  have hws : wh.size = d + 3 := by
    have e : wh.size = wh.data.toList.length := rfl
    rw [e, HWH.out, List.length_append, hd]; rfl
  have hfs : fr.size = 4 := by
    have e : fr.size = fr.data.toList.length := rfl
    rw [e, HFR.out]; rfl
  obtain ⟨c0, hc0, hc45⟩ : ∃ c0 : Nat, (∀ hi : 0 < wh.size, (wh[0]'hi).toNat = c0) ∧ c0 ≠ 45 := by
    refine ⟨(wh.data.toList.getD 0 0).toNat, fun hi => ?_, ?_⟩
    · have hi' : 0 < wh.data.toList.length := hi
      rw [List.getD_eq_getElem?_getD, List.getElem?_eq_getElem hi']
      rfl
    · have h0 : 0 < (Lib.decDigits q).length := by omega
      rw [HWH.out, List.getD_eq_getElem?_getD, List.getElem?_append_left h0, List.getElem?_eq_getElem h0]
      have := dec_digit q _ (List.getElem_mem h0)
      simp only [Option.getD_some]
      omega
  have n0 : ((c0 : Int) == 45) = false := by simp; omega
  have n1 : decide ((d : Int) + 3 < 4) = false := decide_eq_false (by omega)
  have hd2 : d ≤ 21 := by rw [← hd]; exact dec_len q (by omega)
  obtain ⟨sx, hsx⟩ : ∃ sx, wh.extract d (d + 3) = sx := ⟨_, rfl⟩
  have x1 : (sx.toList == [46, 48, 48]) = true := by
    rw [beq_iff_eq, ByteArray.toList_eq, ← hsx, ByteArray.data_extract, Array.toList_extract, HWH.out]
    simp [← hd]
  obtain ⟨dg, hdg⟩ : ∃ dg, wh.extract 0 d = dg := ⟨_, rfl⟩
  have HDG : Hid (dg.data.toList = Lib.decDigits q) := by
    unfold Hid
    rw [← hdg, ByteArray.data_extract, Array.toList_extract, HWH.out]
    simp [← hd]
  obtain ⟨fx, hfx⟩ : ∃ fx, fr.extract 1 4 = fx := ⟨_, rfl⟩
  have HFX : Hid (fx.data.toList = [46, UInt8.ofNat (48 + t), UInt8.ofNat (48 + u)]) := by
    unfold Hid
    rw [← hfx, ByteArray.data_extract, Array.toList_extract, HFR.out]
    rfl
  have HD : Hid ((Lib.decDigits q).length = d) := hd
  clear hd hc45
  obtain ⟨s1, hs1⟩ : ∃ s1, sgn a ++ dg = s1 := ⟨_, rfl⟩
  have S1 : Hid (s1.data.toList = (sgn a).data.toList ++ Lib.decDigits q) := by unfold Hid; rw [← hs1, ByteArray.data_append, Array.toList_append, HDG.out]
  have S2 : Hid (s1 ++ fx = s) := by
    unfold Hid
    have e : s = ⟨(amt a).toArray⟩ := bytes_ext HS.out
    have e2 : s1 ++ fx = ⟨(amt a).toArray⟩ := by
      refine bytes_ext ?_
      have hq' : m / 100 = q := by omega
      have hr2 : m % 100 = r := by omega
      have et : r / 10 = t := by omega
      have eu : r % 10 = u := by omega
      rw [ByteArray.data_append, Array.toList_append, S1.out, HFX.out, amt_eq, HM.out, hq', hr2, two_eq r hr', et, eu]
      simp
    rw [e, e2]
  have lq := dec_len q (by omega)
  have ls := sgn_len a
  have z1 : s1.size ≤ 30 := by
    have e : s1.size = s1.data.toList.length := rfl
    rw [e, S1.out, List.length_append]; omega
  have z2 : dg.size ≤ 30 := by
    have e : dg.size = dg.data.toList.length := rfl
    rw [e, HDG.out]; omega
  have z3 : fx.size = 3 := by
    have e : fx.size = fx.data.toList.length := rfl
    rw [e, HFX.out]; rfl
  have z4 : (sgn a).size ≤ 1 := ls
  have A1 : ∀ W, (Op.stringOp .add (sgn a) dg).run Tryf.prog W = .ok (.string s1) W := fun W => by rw [← hs1]; exact run_string_add_sum W _ _ (by omega)
  have A2 : ∀ W, (Op.stringOp .add s1 fx).run Tryf.prog W = .ok (.string s) W := fun W => by rw [← S2.out]; exact run_string_add_sum W _ _ (by omega)
  have B5 : Hid (∀ n, Below w1.heap.size w1 ((w4.alloc (.cells #[.int .u8 48, .int .u8 46, .int .u8 (48 + (t : Int)), .int .u8 (48 + (u : Int))] 5)).drewN n)) := fun n => below_drewN (B4.out.alloc B4.out.size _) n
  clear hs1 lq ls z1 z2 z3 z4
  by_cases h : a < 0
  · have e : sgn a = ⟨#[45]⟩ := if_pos h
    rw [e] at A1
    clear e
    go_wp2
    go_quiet (fail)
    go_wp2
    go_ret
    exact ⟨rfl, B5.out _⟩
  · have e : sgn a = ⟨#[]⟩ := if_neg h
    rw [e] at A1
    clear e
    go_wp2
    go_quiet (fail)
    go_wp2
    go_ret
    exact ⟨rfl, B5.out _⟩

end Go.Proofs.Qxb6630554aFmt
