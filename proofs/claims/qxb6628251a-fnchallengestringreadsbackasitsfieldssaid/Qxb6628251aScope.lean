/- The walks of (Scope).String and FormatScopeList. -/
import Derived.Test.Qxb6628251aShelf
import Derived.Test.Qxb6628251aFit
import Derived.WalkKit
import Derived.BigCall
import Derived.Deep.RegionHeld3
namespace Go.Proofs.Qxb6628251a
open Go.RowKit

/-- The first n strings, as lists of bytes. -/
def lst (f : Nat → ByteArray) (n : Nat) : List (List UInt8) := (List.range n).map fun i => (f i).data.toList

theorem join_seg (a : Option Addr) (len cap : Nat) (f : Nat → ByteArray) (sep : ByteArray) (w : World) (hs : Strs w a len f) (hc : len ≤ cap) (hN : len ≤ 140737488355328) (hlen : (Lib.join (lst f len) sep.data.toList).length ≤ 140737488355328) :
    Calls Try.prog 28 #[.slice a len cap, .string sep] w fun e w' => e = .returned (.string ⟨(Lib.join (lst f len) sep.data.toList).toArray⟩) ∧ Below w.heap.size w w' := by
  rcases hs with rfl | ⟨b, o, rfl, hb, hcell⟩
  · refine (join_none a cap sep w).mono ?_
    rintro e w' ⟨rfl, rfl⟩
    exact ⟨rfl, Below.refl _ _⟩
  · have e0 : ((List.range len).map f).map (·.data.toList) = lst f len := by simp [lst]
    have el : ((List.range len).map f).length = len := by simp
    have h := join_any b o cap ((List.range len).map f) sep w (fun j x hx => by
      have hj : j < len := by
        have := (List.getElem?_eq_some_iff.1 hx).1
        simpa using this
      have e : f j = x := by simpa [hj] using hx
      rw [← e]
      exact hcell j hj) hb (by simpa using hN) (by simpa using hc) (by rw [e0]; exact hlen)
    rw [e0, el] at h
    exact h

/-- What is held through the statement of (Scope).String: the struct's box, the actions, all that was there. -/
theorem held0 {w : World} {x y z : Value} {T : TypeId} {a : Option Addr} {len : Nat} {f : Nat → ByteArray} (hs : Strs w a len f) :
    (w.alloc (.cells #[x, y, z] T)).drew.cell? ⟨w.heap.size, 0, none⟩ = some x ∧ (w.alloc (.cells #[x, y, z] T)).drew.cell? ⟨w.heap.size, 1, none⟩ = some y ∧ (w.alloc (.cells #[x, y, z] T)).drew.cell? ⟨w.heap.size, 2, none⟩ = some z ∧
      Strs (w.alloc (.cells #[x, y, z] T)).drew a len f ∧ Below w.heap.size w (w.alloc (.cells #[x, y, z] T)).drew := by
  have hb : Below w.heap.size w (w.alloc (.cells #[x, y, z] T)).drew := ((Below.refl _ _).alloc (Nat.le_refl _) _).drew
  refine ⟨?_, ?_, ?_, hs.below hb, hb⟩ <;> go_simp

theorem held1 {w W w1 : World} {x y z : Value} {a : Option Addr} {len : Nat} {f : Nat → ByteArray}
    (h : W.cell? ⟨w.heap.size, 0, none⟩ = some x ∧ W.cell? ⟨w.heap.size, 1, none⟩ = some y ∧ W.cell? ⟨w.heap.size, 2, none⟩ = some z ∧ Strs W a len f ∧ Below w.heap.size w W) (hb : Below W.heap.size W w1) :
    w1.cell? ⟨w.heap.size, 0, none⟩ = some x ∧ w1.cell? ⟨w.heap.size, 1, none⟩ = some y ∧ w1.cell? ⟨w.heap.size, 2, none⟩ = some z ∧ Strs w1 a len f ∧ Below w.heap.size w w1 := by
  obtain ⟨c0, c1, c2, hs, hbl⟩ := h
  have hlt := World.block_lt_of_cell? _ _ c0
  exact ⟨(hb.cell (by exact hlt)).trans c0, (hb.cell (by exact hlt)).trans c1, (hb.cell (by exact hlt)).trans c2, hs.below hb, hbl.trans (hb.mono hbl.size)⟩

set_option maxHeartbeats 2000000 in
theorem scopeString_core (t n J x1 x2 x3 x4 : ByteArray) (a : Option Addr) (len cap : Nat) (f : Nat → ByteArray) (w : World) (HS : Hid (Strs w a len f))
    (hcall : Hid (∀ W : World, Strs W a len f → Calls Try.prog 28 #[.slice a len cap, .string ⟨#[44]⟩] W fun e w' => e = .returned (.string J) ∧ Below W.heap.size W w'))
    (a1 : ∀ w, (Op.stringOp .add t ⟨#[58]⟩).run Try.prog w = .ok (.string x1) w) (a2 : ∀ w, (Op.stringOp .add x1 n).run Try.prog w = .ok (.string x2) w)
    (a3 : ∀ w, (Op.stringOp .add x2 ⟨#[58]⟩).run Try.prog w = .ok (.string x3) w) (a4 : ∀ w, (Op.stringOp .add x3 J).run Try.prog w = .ok (.string x4) w) :
    Calls Try.prog 27 #[.agg #[.string t, .string n, .slice a len cap]] w fun e w' => e = .returned (.string x4) ∧ Below w.heap.size w w' := by
  go_enter Try.func27, Try.ntmps27
  go_wp2
  go_region_held3 (fun w' => w'.cell? ⟨w.heap.size, 0, none⟩ = some (.string t) ∧ w'.cell? ⟨w.heap.size, 1, none⟩ = some (.string n) ∧ w'.cell? ⟨w.heap.size, 2, none⟩ = some (.slice a len cap) ∧ Strs w' a len f ∧ Below w.heap.size w w')
    ((first | exact held0 HS.out | exact held1 (by assumption) (by assumption)))
    ((go_at_call 28; refine (hcall.out _ ?_).mono ?_; exact And.left (And.right (And.right (And.right (by assumption)))); rintro e w1 ⟨rfl, hb1⟩))
  rename_i hH
  go_wp2
  go_ret
  exact ⟨rfl, hH.2.2.2.2⟩

/-- The wire form of one scope. -/
def scopeText (t n : ByteArray) (acts : List (List UInt8)) : List UInt8 := t.data.toList ++ [58] ++ n.data.toList ++ [58] ++ Lib.join acts [44]

theorem ba_append (a b : ByteArray) : a ++ b = ⟨(a.data.toList ++ b.data.toList).toArray⟩ := by
  apply ByteArray.ext
  simp

theorem ba_size (l : List UInt8) : (⟨l.toArray⟩ : ByteArray).size = l.length := by simp [ByteArray.size]

theorem scopeString_any (t n : ByteArray) (a : Option Addr) (len cap : Nat) (f : Nat → ByteArray) (w : World) (hs : Strs w a len f) (hc : len ≤ cap) (hN : len ≤ 140737488355328) (hlen : (scopeText t n (lst f len)).length ≤ 140737488355328) :
    Calls Try.prog 27 #[.agg #[.string t, .string n, .slice a len cap]] w fun e w' => e = .returned (.string ⟨(scopeText t n (lst f len)).toArray⟩) ∧ Below w.heap.size w w' := by
  have hl : t.size + 1 + n.size + 1 + (Lib.join (lst f len) [44]).length ≤ 140737488355328 := by
    have := hlen
    unfold scopeText at this
    simp at this
    omega
  refine scopeString_core t n ⟨(Lib.join (lst f len) [44]).toArray⟩ ⟨(t.data.toList ++ [58]).toArray⟩ ⟨(t.data.toList ++ [58] ++ n.data.toList).toArray⟩ ⟨(t.data.toList ++ [58] ++ n.data.toList ++ [58]).toArray⟩ _ a len cap f w hs ?_ ?_ ?_ ?_ ?_
  · intro W hW
    exact join_seg a len cap f ⟨#[44]⟩ W hW hc hN (by show (Lib.join (lst f len) [44]).length ≤ _; omega)
  · intro w
    rw [run_string_add_sum w _ _ (by show t.size + 1 ≤ _; omega), ba_append]
  · intro w
    rw [run_string_add_sum w _ _ (by rw [ba_size]; simp; omega), ba_append]
  · intro w
    rw [run_string_add_sum w _ _ (by rw [ba_size]; show _ + 1 ≤ _; simp; omega), ba_append]
  · intro w
    rw [run_string_add_sum w _ _ (by rw [ba_size, ba_size]; simp; omega), ba_append]
    rfl

/-- The cells of a slice of scopes: type, name, actions. -/
def Scs (w : World) (a : Option Addr) (len : Nat) (tt nn : Nat → ByteArray) (g : Nat → Sl) (ff : Nat → Nat → ByteArray) : Prop :=
  len = 0 ∨ ∃ b o, a = some ⟨b, o, none⟩ ∧ b < w.heap.size ∧ ∀ i, i < len → w.cell? ⟨b, o + i * 3, none⟩ = some (.string (tt i)) ∧ w.cell? ⟨b, o + i * 3 + 1, none⟩ = some (.string (nn i)) ∧
    w.cell? ⟨b, o + i * 3 + 2, none⟩ = some (.slice (g i).at_ (g i).len (g i).cap) ∧ Strs w (g i).at_ (g i).len (ff i) ∧ (g i).len ≤ (g i).cap

theorem Scs.below {w w' : World} {a : Option Addr} {len : Nat} {tt nn : Nat → ByteArray} {g : Nat → Sl} {ff : Nat → Nat → ByteArray} (h : Scs w a len tt nn g ff) (hb : Below w.heap.size w w') : Scs w' a len tt nn g ff := by
  rcases h with h | ⟨b, o, ha, hlt, hc⟩
  · exact .inl h
  · refine .inr ⟨b, o, ha, by have := hb.size; omega, fun i hi => ?_⟩
    obtain ⟨h1, h2, h3, h4, h5⟩ := hc i hi
    exact ⟨(hb.cell (by exact hlt)).trans h1, (hb.cell (by exact hlt)).trans h2, (hb.cell (by exact hlt)).trans h3, h4.below hb, h5⟩

/-- The text of scope i. -/
def txt (tt nn : Nat → ByteArray) (g : Nat → Sl) (ff : Nat → Nat → ByteArray) (i : Nat) : ByteArray := ⟨(scopeText (tt i) (nn i) (lst (ff i) (g i).len)).toArray⟩

theorem Try.info9 : (Try.prog.info? 9).map (fun i => (i.zero, i.size, i.bytes)) = some (some (.string ⟨#[]⟩), 1, 16) := by kernel_rfl

theorem fill_str (z : Nat → ByteArray) (k i : Nat) : (if i = k then Value.string (z k) else if i < k then Value.string (z i) else Value.string ⟨#[]⟩) = if i < k + 1 then Value.string (z i) else Value.string ⟨#[]⟩ := by
  by_cases h : i = k
  · subst h; simp
  · by_cases h2 : i < k
    · simp [h, h2, show i < k + 1 by omega]
    · simp [h, h2, show ¬ i < k + 1 by omega]

set_option maxHeartbeats 2000000 in
theorem format_any (a : Option Addr) (len cap : Nat) (tt nn : Nat → ByteArray) (g : Nat → Sl) (ff : Nat → Nat → ByteArray) (w : World) (hl : len ≤ 1048576) (hs : Scs w a len tt nn g ff) (hN : ∀ i, i < len → (g i).len ≤ 1048576)
    (hlen : (Lib.join (lst (txt tt nn g ff) len) [32]).length ≤ 140737488355328) (hone : ∀ i, i < len → (txt tt nn g ff i).size ≤ 140737488355328) :
    Calls Try.prog 22 #[.slice a len cap] w fun e w' => e = .returned (.string ⟨(Lib.join (lst (txt tt nn g ff) len) [32]).toArray⟩) ∧ Below w.heap.size w w' := by
  have hmk := run_make_row' (P := Try.prog) 22 9 (.string ⟨#[]⟩) 16 Try.underlying22 Try.info9 rfl .i64 .i64 len (by omega) (by omega)
  have HS : Hid (Scs w a len tt nn g ff) := hs
  have HN : Hid (∀ i, i < len → (g i).len ≤ 1048576) := hN
  have HL : Hid ((Lib.join (lst (txt tt nn g ff) len) [32]).length ≤ 140737488355328) := hlen
  have HO : Hid (∀ i, i < len → (txt tt nn g ff i).size ≤ 140737488355328) := hone
  clear hs hN hlen hone
  go_enter Try.func22, Try.ntmps22
  go_wp2
  clear hmk
  go_loopw [11, 4, 5] (fun i _u _v wr => ∃ k : Nat, k ≤ len ∧ i = .int .i64 k ∧ wr.rowIs w.heap.size 9 len (fun j => if j < k then .string (txt tt nn g ff j) else .string ⟨#[]⟩) ∧ Below w.heap.size w wr) (fun i _ _ _ => len - (intOf i).toNat)
  case atStart => exact ⟨0, Nat.zero_le _, rfl, by simpa using World.rowIs_made w (.string ⟨#[]⟩) len 9, (Below.refl _ _).alloc (Nat.le_refl _) _⟩
  case round =>
    obtain ⟨k, hk, rfl, hrow, hbel⟩ := hrel
    by_cases hlt : k < len
    · rcases HS.out.below hbel with h | ⟨b, o, rfl, hb, hc⟩
      · omega
      obtain ⟨c0, c1, c2, c3, c4⟩ := hc k hlt
      have hi : (k : Int) < (len : Int) := by omega
      have C3 : Hid (Strs wr (g k).at_ (g k).len (ff k)) := c3
      clear c3 hc
      have gk : (g k).len ≤ 1048576 := HN.out k hlt
      have hsz : Hid ((scopeText (tt k) (nn k) (lst (ff k) (g k).len)).length ≤ 140737488355328) := by
        have := HO.out k hlt
        unfold txt at this
        rw [ba_size] at this
        exact this
      have RW : Hid (wr.rowIs w.heap.size 9 len (fun j => if j < k then .string (txt tt nn g ff j) else .string ⟨#[]⟩)) := hrow
      have BW : Hid (Below w.heap.size w wr) := hbel
      clear hrow hbel
      go_wp2_with fail
      refine (scopeString_any (tt k) (nn k) _ _ _ (ff k) _ ?_ c4 (by omega) hsz.out).mono ?_
      · exact C3.out.below ((Below.refl _ _).alloc (Nat.le_refl _) _)
      rintro e w1 ⟨rfl, hb1⟩
      have hlr := RW.out.lt
      have hrow1 : w1.rowIs w.heap.size 9 len (fun j => if j < k then .string (txt tt nn g ff j) else .string ⟨#[]⟩) := (RW.out.alloc _).of_block (hb1.block _ (by simp; omega))
      have hold : w1.cell? ⟨w.heap.size, k, none⟩ = some (.string ⟨#[]⟩) := by have := hrow1.cell hlt; simpa using this
      have hfz := hrow1.frozen k
      have R1 : Hid ((w1.setCell ⟨w.heap.size, k, none⟩ (.string (txt tt nn g ff k))).rowIs w.heap.size 9 len (fun j => if j < k + 1 then .string (txt tt nn g ff j) else .string ⟨#[]⟩)) := (hrow1.set k _).congr (fun i _ => fill_str _ k i)
      have B1 : Hid (Below w.heap.size w (w1.setCell ⟨w.heap.size, k, none⟩ (.string (txt tt nn g ff k)))) :=
        (((BW.out.alloc (by have := BW.out.size; omega) _).trans (hb1.mono (by have := BW.out.size; simp; omega)))).setCell (Nat.le_refl _) _
      clear hrow1 hb1 RW BW C3 c0 c1 c2 c4
      go_wp2
      go_roundw
      case rel => exact ⟨k + 1, by omega, by go_num, R1.out, B1.out⟩
      case measure => simp [intOf]; omega
    · obtain rfl : k = len := by omega
      have hst : Hid (Strs wr (some ⟨w.heap.size, 0, none⟩) k (txt tt nn g ff)) := .inr ⟨_, 0, rfl, hrow.lt, fun i hi => by rw [Nat.zero_add, hrow.cell hi, if_pos hi]⟩
      have BW : Hid (Below w.heap.size w wr) := hbel
      clear hrow hbel
      go_wp2_with fail
      refine (join_seg _ k k (txt tt nn g ff) ⟨#[32]⟩ wr hst.out (Nat.le_refl _) (by omega) HL.out).mono ?_
      rintro e w1 ⟨rfl, hb1⟩
      go_wp2
      go_ret
      exact ⟨rfl, BW.out.trans (hb1.mono BW.out.size)⟩

end Go.Proofs.Qxb6628251a
