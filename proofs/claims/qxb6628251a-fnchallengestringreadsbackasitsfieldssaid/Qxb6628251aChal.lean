/- The walk of (Challenge).String, and the plain header that it writes. -/
import Derived.Test.Qxb6628251aQuote
import Derived.Test.Qxb6628251aScope
namespace Go.Proofs.Qxb6628251a
open Go.RowKit

/-- A builder stands behind a call that keeps all that was there. -/
theorem builder_below {B b : Nat} {bs : List Value} {W W' : World} (h : Lib.IsBuilderF 49 5 B b bs W) (hb : Below W.heap.size W W') : Lib.IsBuilderF 49 5 B b bs W' := by
  have key : ∀ p, Lib.BuilderAtF 49 5 B b p bs W → Lib.BuilderAtF 49 5 B b p bs W' := by
    intro p h
    have hlt := h.lt
    obtain ⟨hB, v, hv, hown, hne⟩ := h
    exact ⟨hB, v, (hb.block b hlt).trans hv, hown.kept (row := none) ⟨hb.os, hb.tape, hb.output, hb.size, fun k hk _ => hb.block k hk⟩ (Classical.em _), hne⟩
  exact h.elim (fun x => .inl (key _ x)) (fun x => .inr (key _ x))

/-- 'Bearer realm=..,service=..' -/
def hd (realm service : ByteArray) : List UInt8 := [66, 101, 97, 114, 101, 114, 32] ++ param [114, 101, 97, 108, 109] realm ++ [44] ++ param [115, 101, 114, 118, 105, 99, 101] service
/-- ',scope=..' -/
def scopeP (L : List UInt8) : List UInt8 := [44] ++ param [115, 99, 111, 112, 101] ⟨L.toArray⟩
/-- ',error=..', where there is one -/
def errP (err : ByteArray) : List UInt8 := if err.size = 0 then [] else [44] ++ param [101, 114, 114, 111, 114] err

theorem param_len (n : List UInt8) (v : ByteArray) : (param n v).length ≤ n.length + 5 * v.size + 3 := by
  have := quote_len v
  unfold param
  simp
  omega

/-- The box of the challenge and the empty builder behind it. -/
theorem chal_start (w : World) (x y z u : Value) :
    ((w.alloc (.cells #[x, y, z, u] 31)).alloc (.cells #[.pointer none, .slice none 0 0] 49)).cell? ⟨w.heap.size, 0, none⟩ = some x ∧
    ((w.alloc (.cells #[x, y, z, u] 31)).alloc (.cells #[.pointer none, .slice none 0 0] 49)).cell? ⟨w.heap.size, 1, none⟩ = some y ∧
    ((w.alloc (.cells #[x, y, z, u] 31)).alloc (.cells #[.pointer none, .slice none 0 0] 49)).cell? ⟨w.heap.size, 2, none⟩ = some z ∧
    ((w.alloc (.cells #[x, y, z, u] 31)).alloc (.cells #[.pointer none, .slice none 0 0] 49)).cell? ⟨w.heap.size, 3, none⟩ = some u ∧
    Lib.IsBuilderF 49 5 (w.heap.size + 1) (w.heap.size + 1) (Lib.byteCells []) ((w.alloc (.cells #[x, y, z, u] 31)).alloc (.cells #[.pointer none, .slice none 0 0] 49)) ∧
    Below w.heap.size w ((w.alloc (.cells #[x, y, z, u] 31)).alloc (.cells #[.pointer none, .slice none 0 0] 49)) ∧
    ((w.alloc (.cells #[x, y, z, u] 31)).alloc (.cells #[.pointer none, .slice none 0 0] 49)).heap.size = w.heap.size + 2 := by
  refine ⟨?_, ?_, ?_, ?_, ?_, ?_, ?_⟩
  · go_simp
  · go_simp
  · go_simp
  · go_simp
  · have h := Lib.IsBuilderF.of (Lib.fresh_isBuilder 49 5 (w.alloc (.cells #[x, y, z, u] 31)))
    have h' : Lib.IsBuilderF 49 5 (w.heap.size + 1) (w.heap.size + 1) [] ((w.alloc (.cells #[x, y, z, u] 31)).alloc (.cells #[.pointer none, .slice none 0 0] 49)) := by simpa using h
    exact h'
  · exact ((Below.refl _ w).alloc (Nat.le_refl _) _).alloc (by simp) _
  · simp

/-- What is carried from call to call in (Challenge).String. -/
structure Chal (w : World) (x y z u : Value) (acc : List UInt8) (W : World) : Prop where
  c0 : W.cell? ⟨w.heap.size, 0, none⟩ = some x
  c1 : W.cell? ⟨w.heap.size, 1, none⟩ = some y
  c2 : W.cell? ⟨w.heap.size, 2, none⟩ = some z
  c3 : W.cell? ⟨w.heap.size, 3, none⟩ = some u
  bld : Lib.IsBuilderF 49 5 (w.heap.size + 1) (w.heap.size + 1) (Lib.byteCells acc) W
  bel : Below w.heap.size w W
  big : w.heap.size + 2 ≤ W.heap.size

theorem Chal.step {w W W1 : World} {x y z u : Value} {acc acc' : List UInt8} (h : Chal w x y z u acc W) (hb : Lib.IsBuilderF 49 5 (w.heap.size + 1) (w.heap.size + 1) (Lib.byteCells acc') W1) (hk : Below (w.heap.size + 1) W W1) : Chal w x y z u acc' W1 :=
  ⟨(hk.cell (by show w.heap.size < _; omega)).trans h.c0, (hk.cell (by show w.heap.size < _; omega)).trans h.c1, (hk.cell (by show w.heap.size < _; omega)).trans h.c2, (hk.cell (by show w.heap.size < _; omega)).trans h.c3, hb, h.bel.trans (hk.mono (by omega)), by have := hk.size; have := h.big; omega⟩

theorem ret_str {l l' : List UInt8} (h : l = l') : Ending.returned (.string ⟨l.toArray⟩) = .returned (.string ⟨l'.toArray⟩) := by rw [h]

set_option maxHeartbeats 2000000 in
theorem chal_plain (realm service err : ByteArray) (a : Option Addr) (len cap : Nat) (w : World)
    (hr : realm.size ≤ 1048576) (hsv : service.size ≤ 1048576) (her : err.size ≤ 1048576) (hn : len ≤ 0) (he : err.size ≤ 0) :
    Calls Try.prog 9 #[.agg #[.string realm, .string service, .slice a len cap, .string err]] w fun e w' => e = .returned (.string ⟨(hd realm service).toArray⟩) ∧ Below w.heap.size w w' := by
  obtain ⟨z0, z1, z2, z3, z4, z5, z6⟩ := chal_start w (.string realm) (.string service) (.slice a len cap) (.string err)
  have C0 : Hid (Chal w (.string realm) (.string service) (.slice a len cap) (.string err) [] _) := ⟨z0, z1, z2, z3, z4, z5, by omega⟩
  clear z0 z1 z2 z3 z4 z5 z6
  have hemp : err.toList.isEmpty = true := by
    have e1 : err.toList.length = err.size := by rw [ByteArray.toList_eq]; rfl
    cases h : err.toList with
    | nil => rw [h] at e1; simp at e1; rfl
    | cons c r => rw [h] at e1; simp at e1; omega
  have hlen0 : ¬ (0 : Int) < (len : Int) := by omega
  go_enter Try.func9, Try.ntmps9
  go_wp2_with fail
  refine (writeString_k (w.heap.size + 1) (w.heap.size + 1) (Lib.byteCells []) ⟨#[66, 101, 97, 114, 101, 114, 32]⟩ _ C0.out.bld (by rw [Lib.byteCells_length]; show 0 + 7 ≤ _; omega) (by have := C0.out.big; omega)).mono ?_
  rintro e w1 ⟨rfl, h1, b1, _⟩
  rw [Lib.strCells_eq, ← Lib.byteCells_append] at h1
  obtain ⟨acc1, hacc1⟩ : ∃ acc1 : List UInt8, [] ++ [66, 101, 97, 114, 101, 114, 32] = acc1 := ⟨_, rfl⟩
  have C1 : Hid (Chal w (.string realm) (.string service) (.slice a len cap) (.string err) acc1 w1) := C0.out.step (by rw [← hacc1]; exact .inr h1) b1
  have len1 : acc1.length ≤ 0 + 7 := by rw [← hacc1]; simp
  have E1 : Hid ([] ++ [66, 101, 97, 114, 101, 114, 32] = acc1) := hacc1
  clear hacc1 h1 b1 C0
  have k1 := C1.out.c0
  go_wp2_with fail
  refine (writeParam_any (w.heap.size + 1) (w.heap.size + 1) acc1 ⟨#[114, 101, 97, 108, 109]⟩ realm _ C1.out.bld (by show acc1.length + 5 + _ + _ ≤ _; omega) (by have := C1.out.big; omega)).mono ?_
  rintro e w2 ⟨rfl, h2, b2⟩
  obtain ⟨acc2, hacc2⟩ : ∃ acc2 : List UInt8, acc1 ++ param [114, 101, 97, 108, 109] realm = acc2 := ⟨_, rfl⟩
  have C2 : Hid (Chal w (.string realm) (.string service) (.slice a len cap) (.string err) acc2 w2) := C1.out.step (by rw [← hacc2]; exact h2) b2
  have len2 : acc2.length ≤ acc1.length + (5 + 5 * realm.size + 3) := by rw [← hacc2, List.length_append]; have := param_len [114, 101, 97, 108, 109] realm; simp at this ⊢; omega
  have E2 : Hid (acc1 ++ param [114, 101, 97, 108, 109] realm = acc2) := hacc2
  clear hacc2 h2 b2 C1 k1
  go_wp2_with fail
  refine (writeByte_k (w.heap.size + 1) (w.heap.size + 1) (Lib.byteCells acc2) 44 _ C2.out.bld (by rw [Lib.byteCells_length]; omega) (by have := C2.out.big; omega)).mono ?_
  rintro e w3 ⟨rfl, h3, b3, _⟩
  have h3' : Lib.IsBuilderF 49 5 (w.heap.size + 1) (w.heap.size + 1) (Lib.byteCells (acc2 ++ [44])) w3 := by rw [Lib.byteCells_append]; exact .inr h3
  obtain ⟨acc3, hacc3⟩ : ∃ acc3 : List UInt8, acc2 ++ [44] = acc3 := ⟨_, rfl⟩
  have C3 : Hid (Chal w (.string realm) (.string service) (.slice a len cap) (.string err) acc3 w3) := C2.out.step (by rw [← hacc3]; exact h3') b3
  have len3 : acc3.length ≤ acc2.length + 1 := by rw [← hacc3]; simp
  have E3 : Hid (acc2 ++ [44] = acc3) := hacc3
  clear hacc3 h3 h3' b3 C2
  have k3 := C3.out.c1
  go_wp2_with fail
  refine (writeParam_any (w.heap.size + 1) (w.heap.size + 1) acc3 ⟨#[115, 101, 114, 118, 105, 99, 101]⟩ service _ C3.out.bld (by show acc3.length + 7 + _ + _ ≤ _; omega) (by have := C3.out.big; omega)).mono ?_
  rintro e w4 ⟨rfl, h4, b4⟩
  obtain ⟨acc4, hacc4⟩ : ∃ acc4 : List UInt8, acc3 ++ param [115, 101, 114, 118, 105, 99, 101] service = acc4 := ⟨_, rfl⟩
  have C4 : Hid (Chal w (.string realm) (.string service) (.slice a len cap) (.string err) acc4 w4) := C3.out.step (by rw [← hacc4]; exact h4) b4
  have len4 : acc4.length ≤ acc3.length + (7 + 5 * service.size + 3) := by rw [← hacc4, List.length_append]; have := param_len [115, 101, 114, 118, 105, 99, 101] service; simp at this ⊢; omega
  have E4 : Hid (acc3 ++ param [115, 101, 114, 118, 105, 99, 101] service = acc4) := hacc4
  clear hacc4 h4 b4 C3 k3
  have k4 := C4.out.c2
  have q4 := C4.out.c3
  go_wp2_with fail
  refine (string_k (w.heap.size + 1) (w.heap.size + 1) acc4 _ C4.out.bld (by have := C4.out.big; omega)).mono ?_
  rintro e wz ⟨rfl, _, bz, _⟩
  have BZ : Hid (Below w.heap.size w wz) := C4.out.bel.trans (bz.mono (by omega))
  have EQ : Hid (acc4 = hd realm service) := by
    unfold Hid
    rw [← E4.out, ← E3.out, ← E2.out, ← E1.out]
    simp [hd]
  clear bz C4
  go_wp2
  go_ret
  exact ⟨ret_str EQ.out, BZ.out⟩

set_option maxHeartbeats 2000000 in
theorem chal_err (realm service err : ByteArray) (a : Option Addr) (len cap : Nat) (w : World)
    (hr : realm.size ≤ 1048576) (hsv : service.size ≤ 1048576) (her : err.size ≤ 1048576) (hn : len ≤ 0) (he : 0 < err.size) :
    Calls Try.prog 9 #[.agg #[.string realm, .string service, .slice a len cap, .string err]] w fun e w' => e = .returned (.string ⟨(hd realm service ++ ([44] ++ param [101, 114, 114, 111, 114] err)).toArray⟩) ∧ Below w.heap.size w w' := by
  obtain ⟨z0, z1, z2, z3, z4, z5, z6⟩ := chal_start w (.string realm) (.string service) (.slice a len cap) (.string err)
  have C0 : Hid (Chal w (.string realm) (.string service) (.slice a len cap) (.string err) [] _) := ⟨z0, z1, z2, z3, z4, z5, by omega⟩
  clear z0 z1 z2 z3 z4 z5 z6
  have hemp : err.toList.isEmpty = false := by
    have e1 : err.toList.length = err.size := by rw [ByteArray.toList_eq]; rfl
    cases h : err.toList with
    | nil => rw [h] at e1; simp at e1; omega
    | cons c r => rw [h] at e1; simp at e1; rfl
  have hlen0 : ¬ (0 : Int) < (len : Int) := by omega
  go_enter Try.func9, Try.ntmps9
  go_wp2_with fail
  refine (writeString_k (w.heap.size + 1) (w.heap.size + 1) (Lib.byteCells []) ⟨#[66, 101, 97, 114, 101, 114, 32]⟩ _ C0.out.bld (by rw [Lib.byteCells_length]; show 0 + 7 ≤ _; omega) (by have := C0.out.big; omega)).mono ?_
  rintro e w1 ⟨rfl, h1, b1, _⟩
  rw [Lib.strCells_eq, ← Lib.byteCells_append] at h1
  obtain ⟨acc1, hacc1⟩ : ∃ acc1 : List UInt8, [] ++ [66, 101, 97, 114, 101, 114, 32] = acc1 := ⟨_, rfl⟩
  have C1 : Hid (Chal w (.string realm) (.string service) (.slice a len cap) (.string err) acc1 w1) := C0.out.step (by rw [← hacc1]; exact .inr h1) b1
  have len1 : acc1.length ≤ 0 + 7 := by rw [← hacc1]; simp
  have E1 : Hid ([] ++ [66, 101, 97, 114, 101, 114, 32] = acc1) := hacc1
  clear hacc1 h1 b1 C0
  have k1 := C1.out.c0
  go_wp2_with fail
  refine (writeParam_any (w.heap.size + 1) (w.heap.size + 1) acc1 ⟨#[114, 101, 97, 108, 109]⟩ realm _ C1.out.bld (by show acc1.length + 5 + _ + _ ≤ _; omega) (by have := C1.out.big; omega)).mono ?_
  rintro e w2 ⟨rfl, h2, b2⟩
  obtain ⟨acc2, hacc2⟩ : ∃ acc2 : List UInt8, acc1 ++ param [114, 101, 97, 108, 109] realm = acc2 := ⟨_, rfl⟩
  have C2 : Hid (Chal w (.string realm) (.string service) (.slice a len cap) (.string err) acc2 w2) := C1.out.step (by rw [← hacc2]; exact h2) b2
  have len2 : acc2.length ≤ acc1.length + (5 + 5 * realm.size + 3) := by rw [← hacc2, List.length_append]; have := param_len [114, 101, 97, 108, 109] realm; simp at this ⊢; omega
  have E2 : Hid (acc1 ++ param [114, 101, 97, 108, 109] realm = acc2) := hacc2
  clear hacc2 h2 b2 C1 k1
  go_wp2_with fail
  refine (writeByte_k (w.heap.size + 1) (w.heap.size + 1) (Lib.byteCells acc2) 44 _ C2.out.bld (by rw [Lib.byteCells_length]; omega) (by have := C2.out.big; omega)).mono ?_
  rintro e w3 ⟨rfl, h3, b3, _⟩
  have h3' : Lib.IsBuilderF 49 5 (w.heap.size + 1) (w.heap.size + 1) (Lib.byteCells (acc2 ++ [44])) w3 := by rw [Lib.byteCells_append]; exact .inr h3
  obtain ⟨acc3, hacc3⟩ : ∃ acc3 : List UInt8, acc2 ++ [44] = acc3 := ⟨_, rfl⟩
  have C3 : Hid (Chal w (.string realm) (.string service) (.slice a len cap) (.string err) acc3 w3) := C2.out.step (by rw [← hacc3]; exact h3') b3
  have len3 : acc3.length ≤ acc2.length + 1 := by rw [← hacc3]; simp
  have E3 : Hid (acc2 ++ [44] = acc3) := hacc3
  clear hacc3 h3 h3' b3 C2
  have k3 := C3.out.c1
  go_wp2_with fail
  refine (writeParam_any (w.heap.size + 1) (w.heap.size + 1) acc3 ⟨#[115, 101, 114, 118, 105, 99, 101]⟩ service _ C3.out.bld (by show acc3.length + 7 + _ + _ ≤ _; omega) (by have := C3.out.big; omega)).mono ?_
  rintro e w4 ⟨rfl, h4, b4⟩
  obtain ⟨acc4, hacc4⟩ : ∃ acc4 : List UInt8, acc3 ++ param [115, 101, 114, 118, 105, 99, 101] service = acc4 := ⟨_, rfl⟩
  have C4 : Hid (Chal w (.string realm) (.string service) (.slice a len cap) (.string err) acc4 w4) := C3.out.step (by rw [← hacc4]; exact h4) b4
  have len4 : acc4.length ≤ acc3.length + (7 + 5 * service.size + 3) := by rw [← hacc4, List.length_append]; have := param_len [115, 101, 114, 118, 105, 99, 101] service; simp at this ⊢; omega
  have E4 : Hid (acc3 ++ param [115, 101, 114, 118, 105, 99, 101] service = acc4) := hacc4
  clear hacc4 h4 b4 C3 k3
  have k4 := C4.out.c2
  have q4 := C4.out.c3
  go_wp2_with fail
  refine (writeByte_k (w.heap.size + 1) (w.heap.size + 1) (Lib.byteCells acc4) 44 _ C4.out.bld (by rw [Lib.byteCells_length]; omega) (by have := C4.out.big; omega)).mono ?_
  rintro e w5 ⟨rfl, h5, b5, _⟩
  have h5' : Lib.IsBuilderF 49 5 (w.heap.size + 1) (w.heap.size + 1) (Lib.byteCells (acc4 ++ [44])) w5 := by rw [Lib.byteCells_append]; exact .inr h5
  obtain ⟨acc5, hacc5⟩ : ∃ acc5 : List UInt8, acc4 ++ [44] = acc5 := ⟨_, rfl⟩
  have C5 : Hid (Chal w (.string realm) (.string service) (.slice a len cap) (.string err) acc5 w5) := C4.out.step (by rw [← hacc5]; exact h5') b5
  have len5 : acc5.length ≤ acc4.length + 1 := by rw [← hacc5]; simp
  have E5 : Hid (acc4 ++ [44] = acc5) := hacc5
  clear hacc5 h5 h5' b5 C4
  clear q4
  have k5 := C5.out.c3
  go_wp2_with fail
  refine (writeParam_any (w.heap.size + 1) (w.heap.size + 1) acc5 ⟨#[101, 114, 114, 111, 114]⟩ err _ C5.out.bld (by show acc5.length + 5 + _ + _ ≤ _; omega) (by have := C5.out.big; omega)).mono ?_
  rintro e w6 ⟨rfl, h6, b6⟩
  obtain ⟨acc6, hacc6⟩ : ∃ acc6 : List UInt8, acc5 ++ param [101, 114, 114, 111, 114] err = acc6 := ⟨_, rfl⟩
  have C6 : Hid (Chal w (.string realm) (.string service) (.slice a len cap) (.string err) acc6 w6) := C5.out.step (by rw [← hacc6]; exact h6) b6
  have len6 : acc6.length ≤ acc5.length + (5 + 5 * err.size + 3) := by rw [← hacc6, List.length_append]; have := param_len [101, 114, 114, 111, 114] err; simp at this ⊢; omega
  have E6 : Hid (acc5 ++ param [101, 114, 114, 111, 114] err = acc6) := hacc6
  clear hacc6 h6 b6 C5 k5
  go_wp2_with fail
  refine (string_k (w.heap.size + 1) (w.heap.size + 1) acc6 _ C6.out.bld (by have := C6.out.big; omega)).mono ?_
  rintro e wz ⟨rfl, _, bz, _⟩
  have BZ : Hid (Below w.heap.size w wz) := C6.out.bel.trans (bz.mono (by omega))
  have EQ : Hid (acc6 = hd realm service ++ ([44] ++ param [101, 114, 114, 111, 114] err)) := by
    unfold Hid
    rw [← E6.out, ← E5.out, ← E4.out, ← E3.out, ← E2.out, ← E1.out]
    simp [hd]
  clear bz C6
  go_wp2
  go_ret
  exact ⟨ret_str EQ.out, BZ.out⟩

set_option maxHeartbeats 2000000 in
theorem chal_scopes (realm service err : ByteArray) (a : Option Addr) (len cap : Nat) (tt nn : Nat → ByteArray) (g : Nat → Sl) (ff : Nat → Nat → ByteArray) (w : World)
    (hr : realm.size ≤ 1048576) (hsv : service.size ≤ 1048576) (her : err.size ≤ 1048576) (hn : 0 < len) (hl : len ≤ 1048576) (hs : Scs w a len tt nn g ff) (hN : ∀ i, i < len → (g i).len ≤ 1048576) (hL : (Lib.join (lst (txt tt nn g ff) len) [32]).length ≤ 67108864) (hone : ∀ i, i < len → (txt tt nn g ff i).size ≤ 67108864) (he : err.size ≤ 0) :
    Calls Try.prog 9 #[.agg #[.string realm, .string service, .slice a len cap, .string err]] w fun e w' => e = .returned (.string ⟨(hd realm service ++ scopeP (Lib.join (lst (txt tt nn g ff) len) [32])).toArray⟩) ∧ Below w.heap.size w w' := by
  obtain ⟨z0, z1, z2, z3, z4, z5, z6⟩ := chal_start w (.string realm) (.string service) (.slice a len cap) (.string err)
  have C0 : Hid (Chal w (.string realm) (.string service) (.slice a len cap) (.string err) [] _) := ⟨z0, z1, z2, z3, z4, z5, by omega⟩
  clear z0 z1 z2 z3 z4 z5 z6
  have hemp : err.toList.isEmpty = true := by
    have e1 : err.toList.length = err.size := by rw [ByteArray.toList_eq]; rfl
    cases h : err.toList with
    | nil => rw [h] at e1; simp at e1; rfl
    | cons c r => rw [h] at e1; simp at e1; omega
  have HS : Hid (Scs w a len tt nn g ff) := hs
  have HN : Hid (∀ i, i < len → (g i).len ≤ 1048576) := hN
  have HO : Hid (∀ i, i < len → (txt tt nn g ff i).size ≤ 67108864) := hone
  obtain ⟨LL, hLL⟩ : ∃ LL : List UInt8, Lib.join (lst (txt tt nn g ff) len) [32] = LL := ⟨_, rfl⟩
  rw [hLL] at hL ⊢
  have HLL : Hid (Lib.join (lst (txt tt nn g ff) len) [32] = LL) := hLL
  clear hs hN hone hLL
  have hlen0 : (0 : Int) < (len : Int) := by omega
  go_enter Try.func9, Try.ntmps9
  go_wp2_with fail
  refine (writeString_k (w.heap.size + 1) (w.heap.size + 1) (Lib.byteCells []) ⟨#[66, 101, 97, 114, 101, 114, 32]⟩ _ C0.out.bld (by rw [Lib.byteCells_length]; show 0 + 7 ≤ _; omega) (by have := C0.out.big; omega)).mono ?_
  rintro e w1 ⟨rfl, h1, b1, _⟩
  rw [Lib.strCells_eq, ← Lib.byteCells_append] at h1
  obtain ⟨acc1, hacc1⟩ : ∃ acc1 : List UInt8, [] ++ [66, 101, 97, 114, 101, 114, 32] = acc1 := ⟨_, rfl⟩
  have C1 : Hid (Chal w (.string realm) (.string service) (.slice a len cap) (.string err) acc1 w1) := C0.out.step (by rw [← hacc1]; exact .inr h1) b1
  have len1 : acc1.length ≤ 0 + 7 := by rw [← hacc1]; simp
  have E1 : Hid ([] ++ [66, 101, 97, 114, 101, 114, 32] = acc1) := hacc1
  clear hacc1 h1 b1 C0
  have k1 := C1.out.c0
  go_wp2_with fail
  refine (writeParam_any (w.heap.size + 1) (w.heap.size + 1) acc1 ⟨#[114, 101, 97, 108, 109]⟩ realm _ C1.out.bld (by show acc1.length + 5 + _ + _ ≤ _; omega) (by have := C1.out.big; omega)).mono ?_
  rintro e w2 ⟨rfl, h2, b2⟩
  obtain ⟨acc2, hacc2⟩ : ∃ acc2 : List UInt8, acc1 ++ param [114, 101, 97, 108, 109] realm = acc2 := ⟨_, rfl⟩
  have C2 : Hid (Chal w (.string realm) (.string service) (.slice a len cap) (.string err) acc2 w2) := C1.out.step (by rw [← hacc2]; exact h2) b2
  have len2 : acc2.length ≤ acc1.length + (5 + 5 * realm.size + 3) := by rw [← hacc2, List.length_append]; have := param_len [114, 101, 97, 108, 109] realm; simp at this ⊢; omega
  have E2 : Hid (acc1 ++ param [114, 101, 97, 108, 109] realm = acc2) := hacc2
  clear hacc2 h2 b2 C1 k1
  go_wp2_with fail
  refine (writeByte_k (w.heap.size + 1) (w.heap.size + 1) (Lib.byteCells acc2) 44 _ C2.out.bld (by rw [Lib.byteCells_length]; omega) (by have := C2.out.big; omega)).mono ?_
  rintro e w3 ⟨rfl, h3, b3, _⟩
  have h3' : Lib.IsBuilderF 49 5 (w.heap.size + 1) (w.heap.size + 1) (Lib.byteCells (acc2 ++ [44])) w3 := by rw [Lib.byteCells_append]; exact .inr h3
  obtain ⟨acc3, hacc3⟩ : ∃ acc3 : List UInt8, acc2 ++ [44] = acc3 := ⟨_, rfl⟩
  have C3 : Hid (Chal w (.string realm) (.string service) (.slice a len cap) (.string err) acc3 w3) := C2.out.step (by rw [← hacc3]; exact h3') b3
  have len3 : acc3.length ≤ acc2.length + 1 := by rw [← hacc3]; simp
  have E3 : Hid (acc2 ++ [44] = acc3) := hacc3
  clear hacc3 h3 h3' b3 C2
  have k3 := C3.out.c1
  go_wp2_with fail
  refine (writeParam_any (w.heap.size + 1) (w.heap.size + 1) acc3 ⟨#[115, 101, 114, 118, 105, 99, 101]⟩ service _ C3.out.bld (by show acc3.length + 7 + _ + _ ≤ _; omega) (by have := C3.out.big; omega)).mono ?_
  rintro e w4 ⟨rfl, h4, b4⟩
  obtain ⟨acc4, hacc4⟩ : ∃ acc4 : List UInt8, acc3 ++ param [115, 101, 114, 118, 105, 99, 101] service = acc4 := ⟨_, rfl⟩
  have C4 : Hid (Chal w (.string realm) (.string service) (.slice a len cap) (.string err) acc4 w4) := C3.out.step (by rw [← hacc4]; exact h4) b4
  have len4 : acc4.length ≤ acc3.length + (7 + 5 * service.size + 3) := by rw [← hacc4, List.length_append]; have := param_len [115, 101, 114, 118, 105, 99, 101] service; simp at this ⊢; omega
  have E4 : Hid (acc3 ++ param [115, 101, 114, 118, 105, 99, 101] service = acc4) := hacc4
  clear hacc4 h4 b4 C3 k3
  have k4 := C4.out.c2
  go_wp2_with fail
  refine (writeByte_k (w.heap.size + 1) (w.heap.size + 1) (Lib.byteCells acc4) 44 _ C4.out.bld (by rw [Lib.byteCells_length]; omega) (by have := C4.out.big; omega)).mono ?_
  rintro e w5 ⟨rfl, h5, b5, _⟩
  have h5' : Lib.IsBuilderF 49 5 (w.heap.size + 1) (w.heap.size + 1) (Lib.byteCells (acc4 ++ [44])) w5 := by rw [Lib.byteCells_append]; exact .inr h5
  obtain ⟨acc5, hacc5⟩ : ∃ acc5 : List UInt8, acc4 ++ [44] = acc5 := ⟨_, rfl⟩
  have C5 : Hid (Chal w (.string realm) (.string service) (.slice a len cap) (.string err) acc5 w5) := C4.out.step (by rw [← hacc5]; exact h5') b5
  have len5 : acc5.length ≤ acc4.length + 1 := by rw [← hacc5]; simp
  have E5 : Hid (acc4 ++ [44] = acc5) := hacc5
  clear hacc5 h5 h5' b5 C4
  clear k4
  have k5 := C5.out.c2
  go_wp2_with fail
  refine (format_any a len cap tt nn g ff _ hl (HS.out.below C5.out.bel) HN.out (by rw [HLL.out]; omega) (fun i hi => by have := HO.out i hi; omega)).mono ?_
  rintro e wf ⟨rfl, hbf⟩
  have C6 : Hid (Chal w (.string realm) (.string service) (.slice a len cap) (.string err) acc5 wf) := C5.out.step (builder_below C5.out.bld hbf) (hbf.mono (by have := C5.out.big; omega))
  rw [HLL.out]
  clear hbf C5 k5
  have C5 := C6
  clear C6
  go_wp2_with fail
  refine (writeParam_any (w.heap.size + 1) (w.heap.size + 1) acc5 ⟨#[115, 99, 111, 112, 101]⟩ ⟨LL.toArray⟩ _ C5.out.bld (by have e9 := ba_size LL; show acc5.length + 5 + _ + _ ≤ _; omega) (by have := C5.out.big; omega)).mono ?_
  rintro e w6 ⟨rfl, h6, b6⟩
  obtain ⟨acc6, hacc6⟩ : ∃ acc6 : List UInt8, acc5 ++ param [115, 99, 111, 112, 101] ⟨LL.toArray⟩ = acc6 := ⟨_, rfl⟩
  have C6 : Hid (Chal w (.string realm) (.string service) (.slice a len cap) (.string err) acc6 w6) := C5.out.step (by rw [← hacc6]; exact h6) b6
  have len6 : acc6.length ≤ acc5.length + (5 + 5 * LL.length + 3) := by rw [← hacc6, List.length_append]; have := param_len [115, 99, 111, 112, 101] ⟨LL.toArray⟩; have e9 := ba_size LL; simp at this ⊢; omega
  have E6 : Hid (acc5 ++ param [115, 99, 111, 112, 101] ⟨LL.toArray⟩ = acc6) := hacc6
  clear hacc6 h6 b6 C5
  have q6 := C6.out.c3
  go_wp2_with fail
  refine (string_k (w.heap.size + 1) (w.heap.size + 1) acc6 _ C6.out.bld (by have := C6.out.big; omega)).mono ?_
  rintro e wz ⟨rfl, _, bz, _⟩
  have BZ : Hid (Below w.heap.size w wz) := C6.out.bel.trans (bz.mono (by omega))
  have EQ : Hid (acc6 = hd realm service ++ scopeP (LL)) := by
    unfold Hid
    rw [← E6.out, ← E5.out, ← E4.out, ← E3.out, ← E2.out, ← E1.out]
    simp [hd, scopeP]
  clear bz C6
  go_wp2
  go_ret
  exact ⟨ret_str EQ.out, BZ.out⟩

set_option maxHeartbeats 2000000 in
theorem chal_both (realm service err : ByteArray) (a : Option Addr) (len cap : Nat) (tt nn : Nat → ByteArray) (g : Nat → Sl) (ff : Nat → Nat → ByteArray) (w : World)
    (hr : realm.size ≤ 1048576) (hsv : service.size ≤ 1048576) (her : err.size ≤ 1048576) (hn : 0 < len) (hl : len ≤ 1048576) (hs : Scs w a len tt nn g ff) (hN : ∀ i, i < len → (g i).len ≤ 1048576) (hL : (Lib.join (lst (txt tt nn g ff) len) [32]).length ≤ 67108864) (hone : ∀ i, i < len → (txt tt nn g ff i).size ≤ 67108864) (he : 0 < err.size) :
    Calls Try.prog 9 #[.agg #[.string realm, .string service, .slice a len cap, .string err]] w fun e w' => e = .returned (.string ⟨(hd realm service ++ scopeP (Lib.join (lst (txt tt nn g ff) len) [32]) ++ ([44] ++ param [101, 114, 114, 111, 114] err)).toArray⟩) ∧ Below w.heap.size w w' := by
  obtain ⟨z0, z1, z2, z3, z4, z5, z6⟩ := chal_start w (.string realm) (.string service) (.slice a len cap) (.string err)
  have C0 : Hid (Chal w (.string realm) (.string service) (.slice a len cap) (.string err) [] _) := ⟨z0, z1, z2, z3, z4, z5, by omega⟩
  clear z0 z1 z2 z3 z4 z5 z6
  have hemp : err.toList.isEmpty = false := by
    have e1 : err.toList.length = err.size := by rw [ByteArray.toList_eq]; rfl
    cases h : err.toList with
    | nil => rw [h] at e1; simp at e1; omega
    | cons c r => rw [h] at e1; simp at e1; rfl
  have HS : Hid (Scs w a len tt nn g ff) := hs
  have HN : Hid (∀ i, i < len → (g i).len ≤ 1048576) := hN
  have HO : Hid (∀ i, i < len → (txt tt nn g ff i).size ≤ 67108864) := hone
  obtain ⟨LL, hLL⟩ : ∃ LL : List UInt8, Lib.join (lst (txt tt nn g ff) len) [32] = LL := ⟨_, rfl⟩
  rw [hLL] at hL ⊢
  have HLL : Hid (Lib.join (lst (txt tt nn g ff) len) [32] = LL) := hLL
  clear hs hN hone hLL
  have hlen0 : (0 : Int) < (len : Int) := by omega
  go_enter Try.func9, Try.ntmps9
  go_wp2_with fail
  refine (writeString_k (w.heap.size + 1) (w.heap.size + 1) (Lib.byteCells []) ⟨#[66, 101, 97, 114, 101, 114, 32]⟩ _ C0.out.bld (by rw [Lib.byteCells_length]; show 0 + 7 ≤ _; omega) (by have := C0.out.big; omega)).mono ?_
  rintro e w1 ⟨rfl, h1, b1, _⟩
  rw [Lib.strCells_eq, ← Lib.byteCells_append] at h1
  obtain ⟨acc1, hacc1⟩ : ∃ acc1 : List UInt8, [] ++ [66, 101, 97, 114, 101, 114, 32] = acc1 := ⟨_, rfl⟩
  have C1 : Hid (Chal w (.string realm) (.string service) (.slice a len cap) (.string err) acc1 w1) := C0.out.step (by rw [← hacc1]; exact .inr h1) b1
  have len1 : acc1.length ≤ 0 + 7 := by rw [← hacc1]; simp
  have E1 : Hid ([] ++ [66, 101, 97, 114, 101, 114, 32] = acc1) := hacc1
  clear hacc1 h1 b1 C0
  have k1 := C1.out.c0
  go_wp2_with fail
  refine (writeParam_any (w.heap.size + 1) (w.heap.size + 1) acc1 ⟨#[114, 101, 97, 108, 109]⟩ realm _ C1.out.bld (by show acc1.length + 5 + _ + _ ≤ _; omega) (by have := C1.out.big; omega)).mono ?_
  rintro e w2 ⟨rfl, h2, b2⟩
  obtain ⟨acc2, hacc2⟩ : ∃ acc2 : List UInt8, acc1 ++ param [114, 101, 97, 108, 109] realm = acc2 := ⟨_, rfl⟩
  have C2 : Hid (Chal w (.string realm) (.string service) (.slice a len cap) (.string err) acc2 w2) := C1.out.step (by rw [← hacc2]; exact h2) b2
  have len2 : acc2.length ≤ acc1.length + (5 + 5 * realm.size + 3) := by rw [← hacc2, List.length_append]; have := param_len [114, 101, 97, 108, 109] realm; simp at this ⊢; omega
  have E2 : Hid (acc1 ++ param [114, 101, 97, 108, 109] realm = acc2) := hacc2
  clear hacc2 h2 b2 C1 k1
  go_wp2_with fail
  refine (writeByte_k (w.heap.size + 1) (w.heap.size + 1) (Lib.byteCells acc2) 44 _ C2.out.bld (by rw [Lib.byteCells_length]; omega) (by have := C2.out.big; omega)).mono ?_
  rintro e w3 ⟨rfl, h3, b3, _⟩
  have h3' : Lib.IsBuilderF 49 5 (w.heap.size + 1) (w.heap.size + 1) (Lib.byteCells (acc2 ++ [44])) w3 := by rw [Lib.byteCells_append]; exact .inr h3
  obtain ⟨acc3, hacc3⟩ : ∃ acc3 : List UInt8, acc2 ++ [44] = acc3 := ⟨_, rfl⟩
  have C3 : Hid (Chal w (.string realm) (.string service) (.slice a len cap) (.string err) acc3 w3) := C2.out.step (by rw [← hacc3]; exact h3') b3
  have len3 : acc3.length ≤ acc2.length + 1 := by rw [← hacc3]; simp
  have E3 : Hid (acc2 ++ [44] = acc3) := hacc3
  clear hacc3 h3 h3' b3 C2
  have k3 := C3.out.c1
  go_wp2_with fail
  refine (writeParam_any (w.heap.size + 1) (w.heap.size + 1) acc3 ⟨#[115, 101, 114, 118, 105, 99, 101]⟩ service _ C3.out.bld (by show acc3.length + 7 + _ + _ ≤ _; omega) (by have := C3.out.big; omega)).mono ?_
  rintro e w4 ⟨rfl, h4, b4⟩
  obtain ⟨acc4, hacc4⟩ : ∃ acc4 : List UInt8, acc3 ++ param [115, 101, 114, 118, 105, 99, 101] service = acc4 := ⟨_, rfl⟩
  have C4 : Hid (Chal w (.string realm) (.string service) (.slice a len cap) (.string err) acc4 w4) := C3.out.step (by rw [← hacc4]; exact h4) b4
  have len4 : acc4.length ≤ acc3.length + (7 + 5 * service.size + 3) := by rw [← hacc4, List.length_append]; have := param_len [115, 101, 114, 118, 105, 99, 101] service; simp at this ⊢; omega
  have E4 : Hid (acc3 ++ param [115, 101, 114, 118, 105, 99, 101] service = acc4) := hacc4
  clear hacc4 h4 b4 C3 k3
  have k4 := C4.out.c2
  go_wp2_with fail
  refine (writeByte_k (w.heap.size + 1) (w.heap.size + 1) (Lib.byteCells acc4) 44 _ C4.out.bld (by rw [Lib.byteCells_length]; omega) (by have := C4.out.big; omega)).mono ?_
  rintro e w5 ⟨rfl, h5, b5, _⟩
  have h5' : Lib.IsBuilderF 49 5 (w.heap.size + 1) (w.heap.size + 1) (Lib.byteCells (acc4 ++ [44])) w5 := by rw [Lib.byteCells_append]; exact .inr h5
  obtain ⟨acc5, hacc5⟩ : ∃ acc5 : List UInt8, acc4 ++ [44] = acc5 := ⟨_, rfl⟩
  have C5 : Hid (Chal w (.string realm) (.string service) (.slice a len cap) (.string err) acc5 w5) := C4.out.step (by rw [← hacc5]; exact h5') b5
  have len5 : acc5.length ≤ acc4.length + 1 := by rw [← hacc5]; simp
  have E5 : Hid (acc4 ++ [44] = acc5) := hacc5
  clear hacc5 h5 h5' b5 C4
  clear k4
  have k5 := C5.out.c2
  go_wp2_with fail
  refine (format_any a len cap tt nn g ff _ hl (HS.out.below C5.out.bel) HN.out (by rw [HLL.out]; omega) (fun i hi => by have := HO.out i hi; omega)).mono ?_
  rintro e wf ⟨rfl, hbf⟩
  have C6 : Hid (Chal w (.string realm) (.string service) (.slice a len cap) (.string err) acc5 wf) := C5.out.step (builder_below C5.out.bld hbf) (hbf.mono (by have := C5.out.big; omega))
  rw [HLL.out]
  clear hbf C5 k5
  have C5 := C6
  clear C6
  go_wp2_with fail
  refine (writeParam_any (w.heap.size + 1) (w.heap.size + 1) acc5 ⟨#[115, 99, 111, 112, 101]⟩ ⟨LL.toArray⟩ _ C5.out.bld (by have e9 := ba_size LL; show acc5.length + 5 + _ + _ ≤ _; omega) (by have := C5.out.big; omega)).mono ?_
  rintro e w6 ⟨rfl, h6, b6⟩
  obtain ⟨acc6, hacc6⟩ : ∃ acc6 : List UInt8, acc5 ++ param [115, 99, 111, 112, 101] ⟨LL.toArray⟩ = acc6 := ⟨_, rfl⟩
  have C6 : Hid (Chal w (.string realm) (.string service) (.slice a len cap) (.string err) acc6 w6) := C5.out.step (by rw [← hacc6]; exact h6) b6
  have len6 : acc6.length ≤ acc5.length + (5 + 5 * LL.length + 3) := by rw [← hacc6, List.length_append]; have := param_len [115, 99, 111, 112, 101] ⟨LL.toArray⟩; have e9 := ba_size LL; simp at this ⊢; omega
  have E6 : Hid (acc5 ++ param [115, 99, 111, 112, 101] ⟨LL.toArray⟩ = acc6) := hacc6
  clear hacc6 h6 b6 C5
  have q6 := C6.out.c3
  go_wp2_with fail
  refine (writeByte_k (w.heap.size + 1) (w.heap.size + 1) (Lib.byteCells acc6) 44 _ C6.out.bld (by rw [Lib.byteCells_length]; omega) (by have := C6.out.big; omega)).mono ?_
  rintro e w7 ⟨rfl, h7, b7, _⟩
  have h7' : Lib.IsBuilderF 49 5 (w.heap.size + 1) (w.heap.size + 1) (Lib.byteCells (acc6 ++ [44])) w7 := by rw [Lib.byteCells_append]; exact .inr h7
  obtain ⟨acc7, hacc7⟩ : ∃ acc7 : List UInt8, acc6 ++ [44] = acc7 := ⟨_, rfl⟩
  have C7 : Hid (Chal w (.string realm) (.string service) (.slice a len cap) (.string err) acc7 w7) := C6.out.step (by rw [← hacc7]; exact h7') b7
  have len7 : acc7.length ≤ acc6.length + 1 := by rw [← hacc7]; simp
  have E7 : Hid (acc6 ++ [44] = acc7) := hacc7
  clear hacc7 h7 h7' b7 C6
  clear q6
  have k7 := C7.out.c3
  go_wp2_with fail
  refine (writeParam_any (w.heap.size + 1) (w.heap.size + 1) acc7 ⟨#[101, 114, 114, 111, 114]⟩ err _ C7.out.bld (by show acc7.length + 5 + _ + _ ≤ _; omega) (by have := C7.out.big; omega)).mono ?_
  rintro e w8 ⟨rfl, h8, b8⟩
  obtain ⟨acc8, hacc8⟩ : ∃ acc8 : List UInt8, acc7 ++ param [101, 114, 114, 111, 114] err = acc8 := ⟨_, rfl⟩
  have C8 : Hid (Chal w (.string realm) (.string service) (.slice a len cap) (.string err) acc8 w8) := C7.out.step (by rw [← hacc8]; exact h8) b8
  have len8 : acc8.length ≤ acc7.length + (5 + 5 * err.size + 3) := by rw [← hacc8, List.length_append]; have := param_len [101, 114, 114, 111, 114] err; simp at this ⊢; omega
  have E8 : Hid (acc7 ++ param [101, 114, 114, 111, 114] err = acc8) := hacc8
  clear hacc8 h8 b8 C7 k7
  go_wp2_with fail
  refine (string_k (w.heap.size + 1) (w.heap.size + 1) acc8 _ C8.out.bld (by have := C8.out.big; omega)).mono ?_
  rintro e wz ⟨rfl, _, bz, _⟩
  have BZ : Hid (Below w.heap.size w wz) := C8.out.bel.trans (bz.mono (by omega))
  have EQ : Hid (acc8 = hd realm service ++ scopeP (LL) ++ ([44] ++ param [101, 114, 114, 111, 114] err)) := by
    unfold Hid
    rw [← E8.out, ← E7.out, ← E6.out, ← E5.out, ← E4.out, ← E3.out, ← E2.out, ← E1.out]
    simp [hd, scopeP]
  clear bz C8
  go_wp2
  go_ret
  exact ⟨ret_str EQ.out, BZ.out⟩

end Go.Proofs.Qxb6628251a
