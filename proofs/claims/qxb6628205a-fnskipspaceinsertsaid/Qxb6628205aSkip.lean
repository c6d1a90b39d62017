/- The walks of the functions that both statements go through. -/
import Derived.Test.Qxb6628205aRows
import Derived.Test.Qxb6628205aPlain
import Derived.WalkKit
import Derived.ProofKit
import Derived.Below
import Derived.WalkSpells
import Derived.Deep.OwnRows
import Derived.Deep.QuietTactic
import Derived.BigQuiet
import Derived.RegionTactic
import Derived.Lib.SliceRun
import Derived.Deep.LoopGhost
import Derived.WalkSmall
namespace Go.Proofs.Qxb6628205a
open Go.RowKit Go.Proofs.Qxb6628205a.Plain

theorem ret_int {k : IntKind} {a b : Int} (h : a = b) : Ending.returned (.int k a) = .returned (.int k b) := by rw [h]
theorem ret_bool {a b : Bool} (h : a = b) : Ending.returned (.bool a) = .returned (.bool b) := by rw [h]

theorem Try.info5 : (Try.prog.info? 5).map (fun i => (i.zero, i.size, i.bytes)) = some (some (.int .u8 0), 1, 1) := by kernel_rfl

/-- The cells of a slice's first 'len' places hold the numbers 'z 0, z 1, ..'. -/
def Seg (w : World) (a : Option Addr) (len : Nat) (z : Nat → Int) : Prop :=
  len = 0 ∨ ∃ b o, a = some ⟨b, o, none⟩ ∧ b < w.heap.size ∧ ∀ i, i < len → w.cell? ⟨b, o + i, none⟩ = some (.int .u8 (z i))

theorem Seg.below {w w' : World} {a : Option Addr} {len : Nat} {z : Nat → Int} (h : Seg w a len z) (hb : Below w.heap.size w w') : Seg w' a len z := by
  rcases h with h | ⟨b, o, ha, hlt, hc⟩
  · exact .inl h
  · exact .inr ⟨b, o, ha, by have := hb.size; omega, fun i hi => (hb.cell (by exact hlt)).trans (hc i hi)⟩

theorem isSpace_any (c : Int) (w : World) : Calls Try.prog 10 #[.int .u8 c] w fun e w' => e = .returned (.bool (sp c)) ∧ w' = w := by
  by_cases h1 : c = 32
  · subst h1
    go_enter Try.func10, Try.ntmps10
    go_wp2
    go_ret
    exact ⟨rfl, rfl⟩
  by_cases h2 : c = 9
  · subst h2
    go_enter Try.func10, Try.ntmps10
    go_wp2
    go_ret
    exact ⟨rfl, rfl⟩
  by_cases h3 : c = 10
  · subst h3
    go_enter Try.func10, Try.ntmps10
    go_wp2
    go_ret
    exact ⟨rfl, rfl⟩
  by_cases h4 : c = 13
  · subst h4
    go_enter Try.func10, Try.ntmps10
    go_wp2
    go_ret
    exact ⟨rfl, rfl⟩
  have b1 : (c == 32) = false := by simp [h1]
  have b2 : (c == 9) = false := by simp [h2]
  have b3 : (c == 10) = false := by simp [h3]
  have b4 : (c == 13) = false := by simp [h4]
  have hs : Hid (sp c = false) := by unfold Hid sp; simp [b1, b2, b3, b4]
  go_enter Try.func10, Try.ntmps10
  go_wp2
  go_ret
  exact ⟨ret_bool hs.out.symm, rfl⟩


theorem fill_step (z : Nat → Int) (k i : Nat) : (if i = k then Value.int .u8 (z k) else if i < k then Value.int .u8 (z i) else Value.int .u8 0) = if i < k + 1 then Value.int .u8 (z i) else Value.int .u8 0 := by
  by_cases h : i = k
  · subst h; simp
  · by_cases h2 : i < k
    · simp [h, h2, show i < k + 1 by omega]
    · simp [h, h2, show ¬ i < k + 1 by omega]

theorem clone_nil (w : World) : Calls Try.prog 6 #[.slice none 0 0] w fun e w' => e = .returned (.slice none 0 0) ∧ w' = w := by
  have q22 : ∀ (w : World) (a : Option Addr) (n c n' c' : Nat), (binOp .eql 22 (.slice a n c) (.slice none n' c')).run Try.prog w = .ok (.bool a.isNone) w := fun w a n c n' c' => Lib.run_eql_slice_nil w 22 5 a n c n' c' Try.underlying22
  go_enter Try.func6, Try.ntmps6
  go_wp2
  go_ret
  exact ⟨rfl, rfl⟩

set_option maxHeartbeats 400000 in
theorem clone_any (b o len cap : Nat) (z : Nat → Int) (w : World) (hl : len ≤ 1048576) (hc : ∀ i, i < len → b < w.heap.size ∧ w.cell? ⟨b, o + i, none⟩ = some (.int .u8 (z i))) :
    Calls Try.prog 6 #[.slice (some ⟨b, o, none⟩) len cap] w fun e w' => e = .returned (.slice (some ⟨w.heap.size, 0, none⟩) len len) ∧ w'.rowIs w.heap.size 5 len (fun i => .int .u8 (z i)) ∧ Below w.heap.size w w' := by
  have q22 : ∀ (w : World) (a : Option Addr) (n c n' c' : Nat), (binOp .eql 22 (.slice a n c) (.slice none n' c')).run Try.prog w = .ok (.bool a.isNone) w := fun w a n c n' c' => Lib.run_eql_slice_nil w 22 5 a n c n' c' Try.underlying22
  have hmk := run_make_row' (P := Try.prog) 22 5 (.int .u8 0) 1 Try.underlying22 Try.info5 rfl .i64 .i64 len (by omega) (by omega)
  go_enter Try.func6, Try.ntmps6
  go_wp2
  go_loopw [4] (fun i wr => ∃ k : Nat, k ≤ len ∧ i = .int .i64 k ∧ wr.rowIs w.heap.size 5 len (fun j => if j < k then .int .u8 (z j) else .int .u8 0) ∧ Below w.heap.size w wr) (fun i _ => len - (intOf i).toNat)
  case atStart => exact ⟨0, Nat.zero_le _, rfl, by simpa using World.rowIs_made w (.int .u8 0) len 5, (Below.refl _ _).alloc (Nat.le_refl _) _⟩
  case round =>
    obtain ⟨k, hk, rfl, hrow, hbel⟩ := hrel
    by_cases hlt : k < len
    · have hcx : wr.cell? ⟨b, o + k, none⟩ = some (.int .u8 (z k)) := (hbel.cell (by exact (hc k hlt).1)).trans (hc k hlt).2
      have hold : wr.cell? ⟨w.heap.size, k, none⟩ = some (.int .u8 0) := by have := hrow.cell hlt; simpa using this
      have hfz := hrow.frozen k
      have hi : (k : Int) < (len : Int) := by omega
      clear hmk q22 hc
      go_wp2
      go_roundw
      case rel => exact ⟨k + 1, by omega, by go_num, (hrow.set k _).congr (fun i _ => fill_step z k i), hbel.setCell (by exact Nat.le_refl _) _⟩
      case measure => simp [intOf]; omega
    · have hke : k = len := by omega
      subst hke
      clear hmk q22 hc
      go_wp2
      go_ret
      exact ⟨rfl, hrow.congr (by intro i hi; rw [if_pos hi]), hbel⟩


theorem sp_cases (c : Int) : c = 32 ∨ c = 9 ∨ c = 10 ∨ c = 13 ∨ ((c == 32) = false ∧ (c == 9) = false ∧ (c == 10) = false ∧ (c == 13) = false ∧ sp c = false) := by
  by_cases h1 : c = 32
  · exact .inl h1
  by_cases h2 : c = 9
  · exact .inr (.inl h2)
  by_cases h3 : c = 10
  · exact .inr (.inr (.inl h3))
  by_cases h4 : c = 13
  · exact .inr (.inr (.inr (.inl h4)))
  exact .inr (.inr (.inr (.inr (by simp [sp, h1, h2, h3, h4]))))

theorem skip_step {N b o len cap off k n : Nat} {z : Nat → Int} {w wr : World} (hk1 : off ≤ k) (hlt : k < len) (hrun : Hid (∀ i, off ≤ i → i < k → sp (z i) = true)) (hsp : Hid (sp (z k) = true))
    (g0 : wr.cell? ⟨N, 0, none⟩ = some (.slice (some ⟨b, o, none⟩) len cap)) (g1 : wr.cell? ⟨N, 1, none⟩ = some (.int .i64 k)) (gf : wr.frozen? ⟨N, 1, none⟩ = false) (hbel : Below N w wr) :
    ∃ k' : Nat, off ≤ k' ∧ k' ≤ len ∧ len - (k + 1) = len - k' ∧ Hid (∀ i, off ≤ i → i < k' → sp (z i) = true) ∧ ((wr.drewN n).setCell ⟨N, 1, none⟩ (.int .i64 ((k : Int) + 1))).cell? ⟨N, 0, none⟩ = some (.slice (some ⟨b, o, none⟩) len cap) ∧
      ((wr.drewN n).setCell ⟨N, 1, none⟩ (.int .i64 ((k : Int) + 1))).cell? ⟨N, 1, none⟩ = some (.int .i64 k') ∧ ((wr.drewN n).setCell ⟨N, 1, none⟩ (.int .i64 ((k : Int) + 1))).frozen? ⟨N, 1, none⟩ = false ∧
      Below N w ((wr.drewN n).setCell ⟨N, 1, none⟩ (.int .i64 ((k : Int) + 1))) := by
  have d0 : (wr.drewN n).cell? ⟨N, 0, none⟩ = some (.slice (some ⟨b, o, none⟩) len cap) := g0
  have d1 : (wr.drewN n).cell? ⟨N, 1, none⟩ = some (.int .i64 k) := g1
  have d2 : (wr.drewN n).frozen? ⟨N, 1, none⟩ = false := gf
  refine ⟨k + 1, by omega, by omega, rfl, fun i a c => ?_, ?_, ?_, ?_, (below_drewN hbel n).setCell (Nat.le_refl _) _⟩
  · by_cases h : i = k
    · subst h; exact hsp.out
    · exact hrun.out i a (by omega)
  · go_simp
  · go_simp
  · go_simp

set_option maxHeartbeats 1000000 in
/-- 'skipSpace' on a Reader that lies in block N: its offset moves on to the stop. -/
theorem skipSpace_any (N b o len cap off : Nat) (z : Nat → Int) (w : World) (hl : len ≤ 1048577) (ho : off ≤ len)
    (h0 : w.cell? ⟨N, 0, none⟩ = some (.slice (some ⟨b, o, none⟩) len cap)) (h1 : w.cell? ⟨N, 1, none⟩ = some (.int .i64 off)) (hf : w.frozen? ⟨N, 1, none⟩ = false)
    (hc : ∀ i, i < len → b < N ∧ w.cell? ⟨b, o + i, none⟩ = some (.int .u8 (z i))) :
    Calls Try.prog 14 #[.pointer (some ⟨N, 0, none⟩)] w fun e w' => e = .returned (.tuple #[]) ∧ ∃ r : Nat, IsStop z len off r ∧ w'.cell? ⟨N, 1, none⟩ = some (.int .i64 r) ∧ Below N w w' := by
  go_enter Try.func14, Try.ntmps14
  go_wp2
  go_loopg [] (len - off) (fun n wr => ∃ k : Nat, off ≤ k ∧ k ≤ len ∧ n = len - k ∧ Hid (∀ i, off ≤ i → i < k → sp (z i) = true) ∧ wr.cell? ⟨N, 0, none⟩ = some (.slice (some ⟨b, o, none⟩) len cap) ∧ wr.cell? ⟨N, 1, none⟩ = some (.int .i64 k) ∧ wr.frozen? ⟨N, 1, none⟩ = false ∧ Below N w wr)
  case atStart => exact ⟨off, Nat.le_refl _, ho, rfl, fun i a b => absurd b (by omega), h0, h1, hf, Below.refl _ _⟩
  case round =>
    obtain ⟨k, hk1, hk2, rfl, hrun, g0, g1, gf, hbel⟩ := hrel
    clear h0 h1 hf
    by_cases hlt : k < len
    · have hcx : wr.cell? ⟨b, o + k, none⟩ = some (.int .u8 (z k)) := (hbel.cell (by exact (hc k hlt).1)).trans (hc k hlt).2
      have hi : (k : Int) < (len : Int) := by omega
      have hi0 : (0 : Int) ≤ (k : Int) := by omega
      clear hc
      rcases sp_cases (z k) with hz | hz | hz | hz | ⟨n1, n2, n3, n4, hz⟩
      · have hsp : Hid (sp (z k) = true) := by unfold Hid; rw [hz]; rfl
        rw [hz] at hcx
        clear hz
        go_wp2
        go_quiet (fail)
        go_wp2
        go_quiet (fail)
        go_wp2
        go_roundg (len - (k + 1))
        case rel => exact skip_step hk1 hlt hrun hsp g0 g1 gf hbel
        case measure => omega
      · have hsp : Hid (sp (z k) = true) := by unfold Hid; rw [hz]; rfl
        rw [hz] at hcx
        clear hz
        go_wp2
        go_quiet (fail)
        go_wp2
        go_quiet (fail)
        go_wp2
        go_roundg (len - (k + 1))
        case rel => exact skip_step hk1 hlt hrun hsp g0 g1 gf hbel
        case measure => omega
      · have hsp : Hid (sp (z k) = true) := by unfold Hid; rw [hz]; rfl
        rw [hz] at hcx
        clear hz
        go_wp2
        go_quiet (fail)
        go_wp2
        go_quiet (fail)
        go_wp2
        go_roundg (len - (k + 1))
        case rel => exact skip_step hk1 hlt hrun hsp g0 g1 gf hbel
        case measure => omega
      · have hsp : Hid (sp (z k) = true) := by unfold Hid; rw [hz]; rfl
        rw [hz] at hcx
        clear hz
        go_wp2
        go_quiet (fail)
        go_wp2
        go_quiet (fail)
        go_wp2
        go_roundg (len - (k + 1))
        case rel => exact skip_step hk1 hlt hrun hsp g0 g1 gf hbel
        case measure => omega
      · have hsp : Hid (sp (z k) = false) := hz
        clear hz
        go_wp2
        go_quiet (fail)
        go_wp2
        go_quiet (fail)
        go_wp2
        refine bodyPost_ret (results_none rfl _ _ _) rfl ?_
        exact ⟨rfl, k, ⟨hk1, hk2, hrun.out, fun _ => hsp.out⟩, g1, below_drewN hbel _⟩
    · have hke : k = len := by omega
      subst hke
      clear hc
      go_wp2
      go_quiet (fail)
      go_wp2
      go_end0
      exact ⟨rfl, k, ⟨hk1, hk2, hrun.out, fun h => absurd h (by omega)⟩, g1, below_drewN hbel _⟩


set_option maxHeartbeats 400000 in
theorem clone_zero (x : Addr) (len cap : Nat) (h0 : len ≤ 0) (w : World) :
    Calls Try.prog 6 #[.slice (some x) len cap] w fun e w' => e = .returned (.slice (some ⟨w.heap.size, 0, none⟩) len len) ∧ Below w.heap.size w w' := by
  have q22 : ∀ (w : World) (a : Option Addr) (n c n' c' : Nat), (binOp .eql 22 (.slice a n c) (.slice none n' c')).run Try.prog w = .ok (.bool a.isNone) w := fun w a n c n' c' => Lib.run_eql_slice_nil w 22 5 a n c n' c' Try.underlying22
  have hmk := run_make_row' (P := Try.prog) 22 5 (.int .u8 0) 1 Try.underlying22 Try.info5 rfl .i64 .i64 len (by omega) (by omega)
  go_enter Try.func6, Try.ntmps6
  go_wp2
  go_loopw [4] (fun i wr => i = .int .i64 0 ∧ Below w.heap.size w wr) (fun _ _ => 0)
  case atStart => exact ⟨rfl, (Below.refl _ _).alloc (Nat.le_refl _) _⟩
  case round =>
    obtain ⟨rfl, hbel⟩ := hrel
    clear hmk q22
    go_wp2
    go_ret
    exact ⟨rfl, hbel⟩

/-- 'zzCloneBytes' at a slice that is not nil: a new row with the same numbers. -/
theorem clone_some (x : Addr) (len cap : Nat) (z : Nat → Int) (w : World) (hl : len ≤ 1048576) (hs : Seg w (some x) len z) :
    Calls Try.prog 6 #[.slice (some x) len cap] w fun e w' => e = .returned (.slice (some ⟨w.heap.size, 0, none⟩) len len) ∧ Seg w' (some ⟨w.heap.size, 0, none⟩) len z ∧ Below w.heap.size w w' := by
  rcases hs with rfl | ⟨b, o, hx, hb, hc⟩
  · refine (clone_zero x 0 cap (Nat.le_refl _) w).mono ?_
    rintro e w1 ⟨rfl, h⟩
    exact ⟨rfl, .inl rfl, h⟩
  · obtain rfl : x = ⟨b, o, none⟩ := by simpa using hx
    refine (clone_any b o len cap z w hl (fun i hi => ⟨hb, hc i hi⟩)).mono ?_
    rintro e w1 ⟨rfl, hrow, h⟩
    exact ⟨rfl, .inr ⟨_, 0, rfl, hrow.lt, fun i hi => by simpa using hrow.cell hi⟩, h⟩

set_option maxHeartbeats 1000000 in
/-- .. over a slice of no bytes, nil or not. -/
theorem skipSpace_empty (N cap : Nat) (a : Option Addr) (w : World) (h0 : w.cell? ⟨N, 0, none⟩ = some (.slice a 0 cap)) (h1 : w.cell? ⟨N, 1, none⟩ = some (.int .i64 0)) :
    Calls Try.prog 14 #[.pointer (some ⟨N, 0, none⟩)] w fun e w' => e = .returned (.tuple #[]) ∧ w'.cell? ⟨N, 1, none⟩ = some (.int .i64 0) ∧ Below N w w' := by
  go_enter Try.func14, Try.ntmps14
  go_wp2
  go_loopg [] 0 (fun n wr => wr = w)
  case atStart => rfl
  case round =>
    subst hrel
    go_wp2
    go_quiet (fail)
    go_wp2
    go_end0
    exact ⟨rfl, h1, below_drewN (Below.refl _ _) _⟩

theorem newReader_any (a : Option Addr) (len cap : Nat) (off : Int) (w : World) :
    Calls Try.prog 11 #[.slice a len cap, .int .i64 off] w fun e w' => e = .returned (.pointer (some ⟨w.heap.size, 0, none⟩)) ∧ w' = w.alloc (.cells #[.slice a len cap, .int .i64 off] 33) := by
  go_enter Try.func11, Try.ntmps11
  go_wp2
  go_ret
  exact ⟨rfl, rfl⟩

theorem off_any (N : Nat) (v : Int) (w : World) (h : w.cell? ⟨N, 1, none⟩ = some (.int .i64 v)) : Calls Try.prog 13 #[.pointer (some ⟨N, 0, none⟩)] w fun e w' => e = .returned (.int .i64 v) ∧ w' = w := by
  go_enter Try.func13, Try.ntmps13
  go_wp2
  go_ret
  exact ⟨rfl, rfl⟩

/-- What the new Reader's block holds. -/
theorem box_cells (w : World) (x y : Value) : (w.alloc (.cells #[x, y] 33)).cell? ⟨w.heap.size, 0, none⟩ = some x ∧ (w.alloc (.cells #[x, y] 33)).cell? ⟨w.heap.size, 1, none⟩ = some y ∧ (w.alloc (.cells #[x, y] 33)).frozen? ⟨w.heap.size, 1, none⟩ = false := by
  refine ⟨?_, ?_, ?_⟩ <;> go_simp

/-- 'ZZskipSpace' on a Reader just made. -/
theorem zzskip_any (a : Option Addr) (len cap off : Nat) (z : Nat → Int) (w : World) (hl : len ≤ 1048577) (ho : off ≤ len) (hs : Seg w a len z) :
    Calls Try.prog 12 #[.pointer (some ⟨w.heap.size, 0, none⟩)] (w.alloc (.cells #[.slice a len cap, .int .i64 off] 33)) fun e w' => e = .returned (.tuple #[]) ∧ ∃ r : Nat, IsStop z len off r ∧ w'.cell? ⟨w.heap.size, 1, none⟩ = some (.int .i64 r) ∧ Below w.heap.size w w' := by
  obtain ⟨c0, c1, c2⟩ := box_cells w (.slice a len cap) (.int .i64 off)
  have hb0 : Below w.heap.size w (w.alloc (.cells #[.slice a len cap, .int .i64 off] 33)) := (Below.refl _ _).alloc (Nat.le_refl _) _
  generalize hW : w.alloc (.cells #[.slice a len cap, .int .i64 off] 33) = W at *
  clear hW
  have key : Calls Try.prog 14 #[.pointer (some ⟨w.heap.size, 0, none⟩)] W fun e w' => e = .returned (.tuple #[]) ∧ ∃ r : Nat, IsStop z len off r ∧ w'.cell? ⟨w.heap.size, 1, none⟩ = some (.int .i64 r) ∧ Below w.heap.size w w' := by
    rcases hs with rfl | ⟨b, o, rfl, hb, hc⟩
    · obtain rfl : off = 0 := by omega
      refine (skipSpace_empty w.heap.size cap a W c0 c1).mono ?_
      rintro e w1 ⟨rfl, g1, g2⟩
      exact ⟨rfl, 0, ⟨Nat.le_refl _, Nat.le_refl _, fun i a b => absurd b (by omega), fun h => absurd h (by omega)⟩, g1, hb0.trans g2⟩
    · refine (skipSpace_any w.heap.size b o len cap off z W hl ho c0 c1 c2 (fun i hi => ⟨hb, (hb0.cell (by exact hb)).trans (hc i hi)⟩)).mono ?_
      rintro e w1 ⟨rfl, r, g0, g1, g2⟩
      exact ⟨rfl, r, g0, g1, hb0.trans g2⟩
  have K : Hid (Calls Try.prog 14 #[.pointer (some ⟨w.heap.size, 0, none⟩)] W fun e w' => e = .returned (.tuple #[]) ∧ ∃ r : Nat, IsStop z len off r ∧ w'.cell? ⟨w.heap.size, 1, none⟩ = some (.int .i64 r) ∧ Below w.heap.size w w') := key
  clear key hb0 c0 c1 c2 hs
  go_enter Try.func12, Try.ntmps12
  go_wp2_with fail
  refine K.out.mono ?_
  rintro e w1 ⟨rfl, r, g0, g1, g2⟩
  go_wp2
  go_end0
  exact ⟨rfl, r, g0, g1, g2⟩

/-- 'zzSkip': a new Reader, skipSpace, its offset. -/
theorem skip_any (a : Option Addr) (len cap off : Nat) (z : Nat → Int) (w : World) (hl : len ≤ 1048577) (ho : off ≤ len) (hs : Seg w a len z) :
    Calls Try.prog 7 #[.slice a len cap, .int .i64 off] w fun e w' => ∃ r : Nat, e = .returned (.int .i64 r) ∧ IsStop z len off r ∧ Below w.heap.size w w' := by
  go_enter Try.func7, Try.ntmps7
  go_wp2_with fail
  refine (newReader_any a len cap off w).mono ?_
  rintro e w1 ⟨rfl, rfl⟩
  go_wp2_with fail
  refine (zzskip_any a len cap off z w hl ho hs).mono ?_
  rintro e w1 ⟨rfl, r, g0, g1, g2⟩
  go_wp2_with fail
  refine (off_any w.heap.size r w1 g1).mono ?_
  rintro e w2 ⟨rfl, rfl⟩
  go_wp2
  go_ret
  exact ⟨r, rfl, g0, g2⟩

set_option maxHeartbeats 1000000 in
/-- 'zzIsFirstStop' says yes at the stop. -/
theorem first_any (a : Option Addr) (len cap off r : Nat) (z : Nat → Int) (w : World) (hl : len ≤ 1048577) (hs : Seg w a len z) (hr : IsStop z len off r) :
    Calls Try.prog 8 #[.slice a len cap, .int .i64 off, .int .i64 r] w fun e w' => e = .returned (.bool true) ∧ w' = w := by
  obtain ⟨lo, hi, hrun, hat⟩ := hr
  have g1 : ¬ (r : Int) < (off : Int) := by omega
  have g2 : ¬ (len : Int) < (r : Int) := by omega
  have HR : Hid (∀ i, off ≤ i → i < r → sp (z i) = true) := hrun
  have HA : Hid (r < len → sp (z r) = false) := hat
  have HS : Hid (Seg w a len z) := hs
  clear hrun hat hs
  go_enter Try.func8, Try.ntmps8
  go_wp2
  go_loop [7] (fun i => ∃ k : Nat, off ≤ k ∧ k ≤ r ∧ i = .int .i64 k) (fun i => r - (intOf i).toNat)
  case atStart => exact ⟨off, Nat.le_refl _, lo, rfl⟩
  case round =>
    obtain ⟨k, hk1, hk2, rfl⟩ := hrel
    by_cases hlt : k < r
    · rcases HS.out with h | ⟨b, o, rfl, hb, hc⟩
      · omega
      have hcx := hc k (by omega)
      have hsp := HR.out k hk1 hlt
      have h1 : (k : Int) < (len : Int) := by omega
      clear hc HS
      go_wp2_with (go_at_call 10; refine (isSpace_any _ _).mono ?_; rintro e w' ⟨rfl, rfl⟩)
      go_round
      case rel => exact ⟨k + 1, by omega, by omega, by go_num⟩
      case measure => simp [intOf]; omega
    · by_cases hrl : r < len
      · rcases HS.out with h | ⟨b, o, rfl, hb, hc⟩
        · omega
        have hcx := hc r (by omega)
        have hsp := HA.out hrl
        have h1 : (r : Int) < (len : Int) := by omega
        have hkr : k = r := by omega
        subst hkr
        clear hc HS
        go_wp2_with (go_at_call 10; refine (isSpace_any _ _).mono ?_; rintro e w' ⟨rfl, rfl⟩)
        go_ret
        exact ⟨rfl, rfl⟩
      · have h1 : ¬ (r : Int) < (len : Int) := by omega
        have h1' : decide ((r : Int) < (len : Int)) = false := by simpa using h1
        go_wp2_with (go_at_call 10; refine (isSpace_any _ _).mono ?_; rintro e w' ⟨rfl, rfl⟩)
        go_ret
        exact ⟨rfl, rfl⟩

end Go.Proofs.Qxb6628205a
