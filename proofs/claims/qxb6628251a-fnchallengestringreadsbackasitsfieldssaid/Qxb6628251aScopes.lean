/- The walk of 'zzb1Scopes': three parallel slices made into a slice of scopes. -/
import Derived.Test.Qxb6628251aScope
namespace Go.Proofs.Qxb6628251a
open Go.RowKit

theorem Try.info45 : (Try.prog.info? 45).map (fun i => (i.zero, i.size, i.bytes)) = some (some (.agg #[.string ⟨#[]⟩, .string ⟨#[]⟩, .slice none 0 0]), 3, 56) := by kernel_rfl

theorem scopes_nil (v1 v2 : Value) (w : World) : Calls Try.prog 8 #[.slice none 0 0, v1, v2] w fun e w' => e = .returned (.slice none 0 0) ∧ w' = w := by
  have q22 : ∀ (w : World) (a : Option Addr) (n c n' c' : Nat), (binOp .eql 22 (.slice a n c) (.slice none n' c')).run Try.prog w = .ok (.bool a.isNone) w := fun w a n c n' c' => Lib.run_eql_slice_nil w 22 9 a n c n' c' Try.underlying22
  go_enter Try.func8, Try.ntmps8
  go_wp2
  go_ret
  exact ⟨rfl, rfl⟩

theorem make_scopes (n : Nat) (hn : n ≤ 1048576) (w : World) :
    (Instr.makeSlice 28 (.int .i64 (n : Int)) (.int .i64 (n : Int))).run Try.prog w = .ok (.slice (some ⟨w.heap.size, 0, none⟩) n n) (w.alloc (.cells (madeCells #[.string ⟨#[]⟩, .string ⟨#[]⟩, .slice none 0 0] (n * 3)) 45)) := by
  obtain ⟨i, hi, hzz⟩ := Option.map_eq_some_iff.1 Try.info45
  simp only [Prod.mk.injEq] at hzz
  obtain ⟨hz, hs, hb⟩ := hzz
  have hr := run_make (P := Try.prog) w 28 45 i _ Try.underlying28 hi hz .i64 .i64 n n (by omega) (Int.le_refl _) (by rw [hb]; omega) (by omega)
  rw [hs] at hr
  exact hr

/-- Cell j of a row of scopes. -/
def sc3 (tt nn : Nat → ByteArray) (g : Nat → Sl) (j : Nat) : Value := if j % 3 = 0 then .string (tt (j / 3)) else if j % 3 = 1 then .string (nn (j / 3)) else .slice (g (j / 3)).at_ (g (j / 3)).len (g (j / 3)).cap
/-- .. of a row of zero scopes. -/
def z3 (j : Nat) : Value := if j % 3 = 0 then .string ⟨#[]⟩ else if j % 3 = 1 then .string ⟨#[]⟩ else .slice none 0 0

theorem made3 (w : World) (n : Nat) : (w.alloc (.cells (madeCells #[.string ⟨#[]⟩, .string ⟨#[]⟩, .slice none 0 0] (n * 3)) 45)).rowIs w.heap.size 45 (n * 3) z3 := by
  refine ⟨_, Deep.blk_alloc_new _ _, size_madeCells _ _, fun i hi => ?_⟩
  have h3 : i % 3 < 3 := Nat.mod_lt _ (by omega)
  simp only [madeCells, Array.getElem?_map]
  rw [Array.getElem?_range, if_pos hi]
  simp only [Option.map_some]
  unfold z3
  rcases (by omega : i % 3 = 0 ∨ i % 3 = 1 ∨ i % 3 = 2) with h | h | h <;> simp [h]

/-- The row behind k rounds. -/
def part3 (tt nn : Nat → ByteArray) (g : Nat → Sl) (k j : Nat) : Value := if j < k * 3 then sc3 tt nn g j else z3 j

theorem part3_step (tt nn : Nat → ByteArray) (g : Nat → Sl) (k j : Nat) :
    (if j = k * 3 + 2 then Value.slice (g k).at_ (g k).len (g k).cap else if j = k * 3 + 1 then Value.string (nn k) else if j = k * 3 then Value.string (tt k) else part3 tt nn g k j) = part3 tt nn g (k + 1) j := by
  unfold part3
  by_cases h2 : j = k * 3 + 2
  · subst h2
    have e1 : (k * 3 + 2) % 3 = 2 := by omega
    have e2 : (k * 3 + 2) / 3 = k := by omega
    simp [sc3, e1, e2, show k * 3 + 2 < (k + 1) * 3 by omega]
  by_cases h1 : j = k * 3 + 1
  · subst h1
    have e1 : (k * 3 + 1) % 3 = 1 := by omega
    have e2 : (k * 3 + 1) / 3 = k := by omega
    simp [sc3, e1, e2, show k * 3 + 1 < (k + 1) * 3 by omega]
  by_cases h0 : j = k * 3
  · subst h0
    have e1 : (k * 3) % 3 = 0 := by omega
    have e2 : (k * 3) / 3 = k := by omega
    simp [sc3, e1, e2, show k * 3 < (k + 1) * 3 by omega]
  · rw [if_neg h2, if_neg h1, if_neg h0]
    by_cases hlt : j < k * 3
    · rw [if_pos hlt, if_pos (by omega)]
    · rw [if_neg hlt, if_neg (by omega)]

/-- The row, read as scopes. -/
theorem scs_of_row {w : World} {N len : Nat} {tt nn : Nat → ByteArray} {g : Nat → Sl} {ff : Nat → Nat → ByteArray} (h : w.rowIs N 45 (len * 3) (part3 tt nn g len)) (hs : ∀ i, i < len → Strs w (g i).at_ (g i).len (ff i) ∧ (g i).len ≤ (g i).cap) :
    Scs w (some ⟨N, 0, none⟩) len tt nn g ff := by
  refine .inr ⟨N, 0, rfl, h.lt, fun i hi => ?_⟩
  have e1 : (i * 3 + 1) % 3 = 1 := by omega
  have e1' : (i * 3 + 1) / 3 = i := by omega
  have e2 : (i * 3 + 2) % 3 = 2 := by omega
  have e2' : (i * 3 + 2) / 3 = i := by omega
  have e0 : (i * 3) % 3 = 0 := by omega
  have e0' : (i * 3) / 3 = i := by omega
  refine ⟨?_, ?_, ?_, (hs i hi).1, (hs i hi).2⟩
  · rw [Nat.zero_add, h.cell (by omega)]
    unfold part3 sc3
    rw [if_pos (by omega), if_pos e0, e0']
  · rw [Nat.zero_add, h.cell (by omega)]
    unfold part3 sc3
    rw [if_pos (by omega), if_neg (by omega), if_pos e1, e1']
  · rw [Nat.zero_add, h.cell (by omega)]
    unfold part3 sc3
    rw [if_pos (by omega), if_neg (by omega), if_neg (by omega), e2']

set_option maxHeartbeats 4000000 in
theorem scopes_some (x : Addr) (len c0 c1 c2 : Nat) (a1 a2 : Option Addr) (tt nn : Nat → ByteArray) (g : Nat → Sl) (ff : Nat → Nat → ByteArray) (w : World) (hl : len ≤ 1048576) (s0 : Strs w (some x) len tt) (s1 : Strs w a1 len nn) (s2 : Nest w a2 len g ff) (hg : ∀ i, i < len → (g i).len ≤ (g i).cap) :
    Calls Try.prog 8 #[.slice (some x) len c0, .slice a1 len c1, .slice a2 len c2] w fun e w' => e = .returned (.slice (some ⟨w.heap.size, 0, none⟩) len len) ∧ Scs w' (some ⟨w.heap.size, 0, none⟩) len tt nn g ff ∧ Below w.heap.size w w' := by
  have q22 : ∀ (w : World) (a : Option Addr) (n c n' c' : Nat), (binOp .eql 22 (.slice a n c) (.slice none n' c')).run Try.prog w = .ok (.bool a.isNone) w := fun w a n c n' c' => Lib.run_eql_slice_nil w 22 9 a n c n' c' Try.underlying22
  have hmk := make_scopes len hl
  have S0 : Hid (Strs w (some x) len tt) := s0
  have S1 : Hid (Strs w a1 len nn) := s1
  have S2 : Hid (Nest w a2 len g ff) := s2
  have HG : Hid (∀ i, i < len → (g i).len ≤ (g i).cap) := hg
  clear s0 s1 s2 hg
  go_enter Try.func8, Try.ntmps8
  go_wp2
  clear hmk q22
  go_loopw [8] (fun i wr => ∃ k : Nat, k ≤ len ∧ i = .int .i64 k ∧ wr.rowIs w.heap.size 45 (len * 3) (part3 tt nn g k) ∧ Below w.heap.size w wr) (fun i _ => len - (intOf i).toNat)
  case atStart => exact ⟨0, Nat.zero_le _, rfl, (made3 w len).congr (fun i _ => by unfold part3; rw [if_neg (by omega)]), (Below.refl _ _).alloc (Nat.le_refl _) _⟩
  case round =>
    obtain ⟨k, hk, rfl, hrow, hbel⟩ := hrel
    by_cases hlt : k < len
    · rcases S0.out with h | ⟨b0, o0, e0, hb0, hc0⟩
      · omega
      obtain rfl : x = ⟨b0, o0, none⟩ := by simpa using e0
      rcases S1.out with h | ⟨b1, o1, rfl, hb1, hc1⟩
      · omega
      rcases S2.out with h | ⟨b2, o2, rfl, hb2, hc2⟩
      · omega
      have d0 : wr.cell? ⟨b0, o0 + k, none⟩ = some (.string (tt k)) := (hbel.cell (by exact hb0)).trans (hc0 k hlt)
      have d1 : wr.cell? ⟨b1, o1 + k, none⟩ = some (.string (nn k)) := (hbel.cell (by exact hb1)).trans (hc1 k hlt)
      have d2 : wr.cell? ⟨b2, o2 + k, none⟩ = some (.slice (g k).at_ (g k).len (g k).cap) := (hbel.cell (by exact hb2)).trans (hc2 k hlt).1
      have hi : (k : Int) < (len : Int) := by omega
      have hi0 : (0 : Int) ≤ (k : Int) := by omega
      have hz : ∀ j, j < 3 → wr.cell? ⟨w.heap.size, k * 3 + j, none⟩ = some (z3 (k * 3 + j)) := fun j hj => by
        rw [hrow.cell (by omega)]
        unfold part3
        rw [if_neg (by omega)]
      have e0 : wr.cell? ⟨w.heap.size, k * 3, none⟩ = some (.string ⟨#[]⟩) := by
        have := hz 0 (by omega)
        unfold z3 at this
        rwa [if_pos (by omega)] at this
      have e1 : wr.cell? ⟨w.heap.size, k * 3 + 1, none⟩ = some (.string ⟨#[]⟩) := by
        have := hz 1 (by omega)
        unfold z3 at this
        rwa [if_neg (by omega), if_pos (by omega)] at this
      have e2 : wr.cell? ⟨w.heap.size, k * 3 + 2, none⟩ = some (.slice none 0 0) := by
        have := hz 2 (by omega)
        unfold z3 at this
        rwa [if_neg (by omega), if_neg (by omega)] at this
      have f0 := hrow.frozen (k * 3)
      have f1 := hrow.frozen (k * 3 + 1)
      have f2 := hrow.frozen (k * 3 + 2)
      have m0 : w.heap.size ≠ b0 := by omega
      have m1 : w.heap.size ≠ b1 := by omega
      have m2 : w.heap.size ≠ b2 := by omega
      clear hz hc0 hc1 hc2 S0 S1 S2 HG
      have RW : Hid ((((wr.setCell ⟨w.heap.size, k * 3, none⟩ (.string (tt k))).setCell ⟨w.heap.size, k * 3 + 1, none⟩ (.string (nn k))).setCell ⟨w.heap.size, k * 3 + 2, none⟩ (.slice (g k).at_ (g k).len (g k).cap)).drew.rowIs w.heap.size 45 (len * 3) (part3 tt nn g (k + 1))) :=
        ((((hrow.set (k * 3) (.string (tt k))).set (k * 3 + 1) (.string (nn k))).set (k * 3 + 2) (.slice (g k).at_ (g k).len (g k).cap)).drew).congr (fun j _ => part3_step tt nn g k j)
      have BW : Hid (Below w.heap.size w (((wr.setCell ⟨w.heap.size, k * 3, none⟩ (.string (tt k))).setCell ⟨w.heap.size, k * 3 + 1, none⟩ (.string (nn k))).setCell ⟨w.heap.size, k * 3 + 2, none⟩ (.slice (g k).at_ (g k).len (g k).cap)).drew) :=
        (((hbel.setCell (by exact Nat.le_refl _) _).setCell (by exact Nat.le_refl _) _).setCell (by exact Nat.le_refl _) _).drew
      clear hrow hbel
      go_wp2
      go_region_held3 (fun w' => w'.cell? ⟨b0, o0 + k, none⟩ = some (.string (tt k)) ∧ w'.cell? ⟨b1, o1 + k, none⟩ = some (.string (nn k)) ∧ w'.cell? ⟨b2, o2 + k, none⟩ = some (.slice (g k).at_ (g k).len (g k).cap))
        (go_keep) (fail)
      rename_i hH
      clear hH e1 e2 f0 f1 f2 d0 d1 d2
      go_wp2
      go_roundw
      case rel => exact ⟨k + 1, by omega, by go_num, RW.out, BW.out⟩
      case measure => simp [intOf]; omega
    · obtain rfl : k = len := by omega
      have hs3 : Scs wr (some ⟨w.heap.size, 0, none⟩) k tt nn g ff := scs_of_row hrow (fun i hi => by
        rcases S2.out with h | ⟨b2, o2, _, hb2, hc2⟩
        · omega
        exact ⟨(hc2 i hi).2.below hbel, HG.out i hi⟩)
      have HS3 : Hid (Scs wr (some ⟨w.heap.size, 0, none⟩) k tt nn g ff) := hs3
      clear hs3 hrow
      go_wp2
      go_ret
      exact ⟨rfl, HS3.out, hbel⟩

end Go.Proofs.Qxb6628251a
