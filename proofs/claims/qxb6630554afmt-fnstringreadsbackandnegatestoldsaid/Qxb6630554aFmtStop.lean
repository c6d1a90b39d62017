/- fmt.Sprintf as this program meets it, the text that it gives (told), and the walk of 'Amount.String'. -/
import Derived.Test.Qxb6630554aFmtRows
import Derived.Test.Qxb6630554aFmtCards
import Derived.Stop.CallBack
import Derived.Stop.IfaceNil
import GoSem.ClaimData
import Derived.WalkKit
import Derived.WalkSpells
import Derived.ProofKit
import Derived.Below
import Derived.Stop.JoinedAt
import Derived.Stop.Texts
import Derived.Stop.JoinedTold
import Derived.Stop.FmtTextKit
import Derived.Stop.FmtTextWidths
import Derived.Lib.ItoaMem
namespace Go.Proofs.Qxb6630554aFmt
open Go.RowKit Go.Extern.Stop Go.Stop Go.Extern

theorem Tryf.call9 (args : Array Value) (w : World) : (callFunc 9 args).run Tryf.prog w = ((FmtStop.sprintf #[9, 48] #[9] args).run Tryf.prog w).andThen fun v w' => .ok (.value v) w' :=
  run_callFunc_extern Tryf.func9 (by kernel_rfl) (by kernel_rfl) (by kernel_rfl) (by kernel_rfl) args w

theorem Tryf.guard (name : String) (w : World) : (FmtStop.guard name).run Tryf.prog w = .ok () w := by kernel_rfl

-- the one format of this program, 3 operands
theorem Tryf.fmt0 : FmtStop.printed? ⟨#[37, 115, 37, 100, 46, 37, 48, 50, 100]⟩ 3 = some [(0, 115, false), (1, 100, false), (2, 100, false)] := by kernel_rfl
theorem Tryf.fmt0r (w : World) : (FmtDoors.printed ⟨#[37, 115, 37, 100, 46, 37, 48, 50, 100]⟩ 3).run Tryf.prog w = .ok [(0, 115, false), (1, 100, false), (2, 100, false)] w := by kernel_rfl

def Tryf.shape9 : List UInt8 := [12, 6, 0, 0, 0, 0, 0, 0, 0, 115, 116, 114, 105, 110, 103]
theorem Tryf.op9_115 (name : String) (x : ByteArray) (w : World) : (FmtStop.operand name false 115 false (.iface 9 (.string x))).run Tryf.prog w = .ok (Tryf.shape9, FmtStop.pack x.data.toList) w := by kernel_rfl
def Tryf.shape24 : List UInt8 := [9, 6, 0, 0, 0, 0, 0, 0, 0, 117, 105, 110, 116, 54, 52]
theorem Tryf.op24_100 (name : String) (x : Int) (w : World) : (FmtStop.operand name false 100 false (.iface 24 (.int .u64 x))).run Tryf.prog w = .ok (Tryf.shape24, Go.Extern.Stop.digits 8 (x % 2 ^ 64).toNat) w := by kernel_rfl

attribute [local go_sem] Tryf.call9 Tryf.guard Tryf.fmt0 Tryf.fmt0r Tryf.op9_115 Tryf.op24_100

/-- What fmt is asked. -/
def reading (sg : List UInt8) (q r : Nat) : List (List UInt8) :=
  [[37, 115, 37, 100, 46, 37, 48, 50, 100], Tryf.shape9, FmtStop.pack sg, Tryf.shape24, digits 8 (q % 18446744073709551616), Tryf.shape24, digits 8 (r % 18446744073709551616)]

theorem t_parse : (FmtText.parse [37, 115, 37, 100, 46, 37, 48, 50, 100]).map FmtText.glue = some [.verb {} 115, .verb {} 100, .lit [46], .verb { widPresent := true, wid := 2, zero := true } 100] := by rfl

/-- What fmt gives. -/
def text (sg : List UInt8) (q r : Nat) : List UInt8 := sg ++ (Lib.decDigits q ++ ([46] ++ (List.replicate (2 - (Lib.decDigits r).length) 48 ++ Lib.decDigits r)))

theorem t_text (sg : List UInt8) (q r : Nat) (hs : sg.length < 2 ^ 64) (hq : (Lit.int .u64 (q : Int)).wf = true) (hr : (Lit.int .u64 (r : Int)).wf = true) : FmtText.text "fmt.Sprintf" (reading sg q r) = some (text sg q r) := by
  have h1 := FmtText.operand_str_at (sh := Tryf.shape9) rfl rfl sg hs
  have h2 := FmtText.operand_int_at (sh := Tryf.shape24) (k := .u64) rfl rfl q hq
  have h3 := FmtText.operand_int_at (sh := Tryf.shape24) (k := .u64) rfl rfl r hr
  have e1 : ((q : Int) % 18446744073709551616).toNat = q % 18446744073709551616 := by omega
  have e2 : ((r : Int) % 18446744073709551616).toNat = r % 18446744073709551616 := by omega
  rw [reading, ← e1, ← e2, FmtText.text_sprintf_glued t_parse (FmtText.operands_cons h1 (FmtText.operands_cons h2 (FmtText.operands_cons h3 FmtText.operands_nil)))]
  have n1 : ¬ (r : Int) < 0 := by omega
  have n2 : ¬ (q : Int) < 0 := by omega
  simp [FmtText.render, FmtText.printArg_s_str, FmtText.printArg_d _ _ hq, FmtText.printArg_d_zero _ 2 _ hr, text, FmtText.zeros, Lib.itoa, n1, n2]

theorem ret_u64 {x y : Int} (h : x = y) : Ending.returned (.int .u64 x) = .returned (.int .u64 y) := by rw [h]

theorem wrap_neg (a : Int) (h1 : -9223372036854775808 ≤ a) (h : a < 0) : IntKind.u64.wrap (-IntKind.u64.wrap a) = (a.natAbs : Int) := by
  simp [IntKind.wrap, IntKind.signed, IntKind.bits]
  omega

theorem i64_bounds {a : Int} (hw : (Lit.int .i64 a).wf = true) : -9223372036854775808 ≤ a ∧ a ≤ 9223372036854775807 := by
  simp [Lit.wf, IntKind.min, IntKind.max, IntKind.signed, IntKind.bits] at hw
  omega

theorem mag8_any (a : Int) (w : World) (hw : (Lit.int .i64 a).wf = true) : Calls Tryf.prog 8 #[.int .i64 a] w fun e w' => e = .returned (.int .u64 (a.natAbs : Int)) ∧ w' = w := by
  have hb := i64_bounds hw
  by_cases h : a < 0
  · go_enter Tryf.func8, Tryf.ntmps8
    go_wp2
    go_ret
    exact ⟨ret_u64 (wrap_neg a hb.1 h), rfl⟩
  · go_enter Tryf.func8, Tryf.ntmps8
    go_wp2
    go_ret
    exact ⟨ret_u64 (by omega), rfl⟩

theorem wrap_neg0 (a : Int) (h1 : -9223372036854775808 ≤ a) (h : a < 0) : IntKind.u64.wrap (0 - IntKind.u64.wrap a) = (a.natAbs : Int) := by
  simp [IntKind.wrap, IntKind.signed, IntKind.bits]
  omega

theorem mag7_any (a : Int) (w : World) (hw : (Lit.int .i64 a).wf = true) : Calls Tryf.prog 7 #[.int .i64 a] w fun e w' => e = .returned (.int .u64 (a.natAbs : Int)) ∧ w' = w := by
  have hb := i64_bounds hw
  by_cases h : a < 0
  · go_enter Tryf.func7, Tryf.ntmps7
    go_wp2
    go_ret
    exact ⟨ret_u64 (by first | exact wrap_neg0 a hb.1 h | exact wrap_neg a hb.1 h), rfl⟩
  · go_enter Tryf.func7, Tryf.ntmps7
    go_wp2
    go_ret
    exact ⟨ret_u64 (by omega), rfl⟩

def sgn (a : Int) : ByteArray := if a < 0 then ⟨#[45]⟩ else ⟨#[]⟩

set_option maxHeartbeats 400000 in
theorem str_ask (F : Interp) (a : Int) (w : World) (hF : F.answers w.tape) (hw : (Lit.int .i64 a).wf = true) :
    Calls Tryf.prog 5 #[.int .i64 a] w fun e w' => e = .returned (.string (FmtStop.textOf (F "fmt.Sprintf" (reading (sgn a).data.toList (a.natAbs / 100) (a.natAbs % 100)) 0))) ∧ Below w.heap.size w w' := by
  have hF' := answers_open hF
  have hb := i64_bounds hw
  have M : Hid (Calls Tryf.prog 8 #[.int .i64 a] w fun e w' => e = .returned (.int .u64 (a.natAbs : Int)) ∧ w' = w) := mag8_any a w hw
  obtain ⟨m, hm⟩ : ∃ m, a.natAbs = m := ⟨_, rfl⟩
  rw [hm] at M ⊢
  have hm' : m ≤ 9223372036854775808 := by omega
  clear hm
  by_cases h : a < 0
  · have hs : sgn a = ⟨#[45]⟩ := if_pos h
    rw [hs]
    clear hs
    go_enter Tryf.func5, Tryf.ntmps5
    go_wp2_with fail
    refine M.out.mono ?_
    rintro e w1 ⟨rfl, rfl⟩
    go_wp2
    go_ret
    exact ⟨rfl, ((Below.refl _ _).alloc (Nat.le_refl _) _).drew⟩
  · have hs : sgn a = ⟨#[]⟩ := if_neg h
    rw [hs]
    clear hs
    go_enter Tryf.func5, Tryf.ntmps5
    go_wp2_with fail
    refine M.out.mono ?_
    rintro e w1 ⟨rfl, rfl⟩
    go_wp2
    go_ret
    exact ⟨rfl, ((Below.refl _ _).alloc (Nat.le_refl _) _).drew⟩

theorem u64_wf (n : Nat) (h : n ≤ 9223372036854775808) : (Lit.int .u64 (n : Int)).wf = true := by
  simp [Lit.wf, IntKind.min, IntKind.max, IntKind.signed, IntKind.bits]
  omega

theorem dec_len (n : Nat) (h : n ≤ 9223372036854775808) : (Lib.decDigits n).length ≤ 21 := by
  have := FmtText.itoa_length_le (u64_wf n h)
  rwa [Lib.itoa_nonneg] at this

/-- The text of an amount. -/
def amt (a : Int) : List UInt8 := text (sgn a).data.toList (a.natAbs / 100) (a.natAbs % 100)

theorem sgn_len (a : Int) : (sgn a).data.toList.length ≤ 1 := by
  unfold sgn
  split <;> simp

theorem amt_len (a : Int) (hw : (Lit.int .i64 a).wf = true) : (amt a).length ≤ 64 := by
  have hb := i64_bounds hw
  have h1 := dec_len (a.natAbs / 100) (by omega)
  have h2 := dec_len (a.natAbs % 100) (by omega)
  have h3 := sgn_len a
  unfold amt text
  simp only [List.length_append, List.length_replicate, List.length_cons, List.length_nil]
  omega

theorem bytes_ext {b : ByteArray} {l : List UInt8} (h : b.data.toList = l) : b = ⟨l.toArray⟩ := by
  subst h
  rfl

theorem str_any (F : Interp) (a : Int) (w : World) (hF : F.told.answers w.tape) (hw : (Lit.int .i64 a).wf = true) :
    Calls Tryf.prog 5 #[.int .i64 a] w fun e w' => e = .returned (.string ⟨(amt a).toArray⟩) ∧ Below w.heap.size w w' := by
  have hb := i64_bounds hw
  have hl := amt_len a hw
  refine (str_ask F.told a w hF hw).mono ?_
  rintro e w' ⟨rfl, hB⟩
  have hs := sgn_len a
  have ht := told_string F (t_text (sgn a).data.toList (a.natAbs / 100) (a.natAbs % 100) (by omega) (u64_wf _ (by omega)) (u64_wf _ (by omega))) (by unfold amt at hl; omega)
  rw [← Kit.textOf_list] at ht
  rw [bytes_ext ht]
  exact ⟨rfl, hB⟩

end Go.Proofs.Qxb6630554aFmt
