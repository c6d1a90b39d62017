/- The walk of 'FnLiteralReadsBackItsOwnText'. -/
import Derived.Test.Qxb6628287aSkipMatch
import Derived.Lib.ConvBytes
import Derived.Laws.IdiomStrings
namespace Go.Proofs.Qxb6628287a
open Go.RowKit Go.Proofs.Qxb6628287a.Plain

theorem bytes11_no (text : ByteArray) (a1 a2 : Int) (w : World) (h : 1048576 < text.size) : Calls Try.prog 11 #[.string text, .int .i64 a1, .int .i64 a2] w fun e w' => e = .returned (.bool false) ∧ w' = w := by
  have h1' : (1048576 : Int) < (text.size : Int) := by omega
  go_enter Try.func11, Try.ntmps11
  go_wp2
  go_ret
  exact ⟨rfl, rfl⟩

theorem bytes11_yes (text : ByteArray) (a1 a2 : Int) (w : World) (h : text.size ≤ 1048576) : Calls Try.prog 11 #[.string text, .int .i64 a1, .int .i64 a2] w fun e w' => e = .returned (.bool true) ∧ w' = w := by
  have h1' : ¬ (1048576 : Int) < (text.size : Int) := by omega
  go_enter Try.func11, Try.ntmps11
  go_wp2
  go_ret
  exact ⟨rfl, rfl⟩

theorem own_out (text : ByteArray) (a1 a2 : Int) (w : World) (hl : text.size ≤ 1048576) (h : a1 < 0 ∨ (text.size : Int) < a1 ∨ a2 < 0) :
    Calls Try.prog 4 #[.string text, .int .i64 a1, .int .i64 a2] w fun e w' => e = .returned (.bool true) ∧ Below w.heap.size w w' := by
  have h1' : ¬ (1048576 : Int) < (text.size : Int) := by omega
  by_cases h1 : a1 < 0
  · go_enter Try.func4, Try.ntmps4
    go_wp2_with (go_at_call 11; refine (bytes11_yes _ _ _ _ hl).mono ?_; rintro e w' ⟨rfl, rfl⟩)
    go_ret
    exact ⟨rfl, Below.refl _ _⟩
  by_cases h2 : (text.size : Int) < a1
  · go_enter Try.func4, Try.ntmps4
    go_wp2_with (go_at_call 11; refine (bytes11_yes _ _ _ _ hl).mono ?_; rintro e w' ⟨rfl, rfl⟩)
    go_ret
    exact ⟨rfl, Below.refl _ _⟩
  have h3 : a2 < 0 := by omega
  clear h
  go_enter Try.func4, Try.ntmps4
  go_wp2_with (go_at_call 11; refine (bytes11_yes _ _ _ _ hl).mono ?_; rintro e w' ⟨rfl, rfl⟩)
  go_ret
  exact ⟨rfl, Below.refl _ _⟩

theorem ext_mid (s : ByteArray) (p n : Nat) : (s.extract p (p + n)).data.toList = (s.data.toList.drop p).take n := by
  rw [ByteArray.data_extract]
  simp

theorem ext_size (s : ByteArray) (p n : Nat) (h : p + n ≤ s.size) : (s.extract p (p + n)).size = n := by
  rw [ByteArray.size_extract]
  omega

/-- '[]byte(s)'. -/
theorem conv_bytes (w : World) (s : ByteArray) : ∃ cap W, (convert 9 29 (.string s)).run Try.prog w = .ok (.slice (some ⟨w.heap.size, 0, none⟩) s.size cap) W ∧ W.heap.size = w.heap.size + 1 ∧ Below w.heap.size w W ∧
    (∀ j, j < s.size → W.cell? ⟨w.heap.size, j, none⟩ = some (.int .u8 (s.data.toList.getD j 0).toNat)) ∧ (∀ j, j < s.size → W.frozen? ⟨w.heap.size, j, none⟩ = false) := by
  refine ⟨_, _, Lib.run_convert_string_bytes w 9 29 5 s Try.underlying9 Try.underlying29 Try.underlying5, Lib.bytesWorld_size _ _ _, ?_, fun j hj => Lib.bytesWorld_cell w 5 s j hj, fun j hj => ?_⟩
  · exact ⟨rfl, rfl, rfl, by rw [Lib.bytesWorld_size]; omega, fun k hk => Lib.bytesWorld_at_old w 5 s k hk⟩
  · have hs : s.size ≤ (Lib.bytesCells w 5 s).size := by simp [Lib.bytesCells]
    simp [World.frozen?, Lib.bytesWorld_at_new]
    omega

/-- There is a stop. -/
theorem stop_exists (z : Nat → Nat) (len : Nat) : ∀ (d off : Nat), off + d = len → ∃ r, IsStop z len off r
  | 0, off, h => ⟨off, Nat.le_refl _, by omega, fun i a b => absurd b (by omega), fun h' => absurd h' (by omega)⟩
  | d + 1, off, h => by
    cases hs : sp (z off) with
    | false => exact ⟨off, Nat.le_refl _, by omega, fun i a b => absurd b (by omega), fun _ => hs⟩
    | true =>
      obtain ⟨r, hr⟩ := stop_exists z len d (off + 1) (by omega)
      refine ⟨r, by have := hr.lo; omega, hr.hi, fun i a b => ?_, hr.at_⟩
      by_cases e : i = off
      · rw [e]; exact hs
      · exact hr.run i (by omega) b

theorem flip_bits (n : Nat) (h : n < 256) : bits .xor .u8 (n : Int) 255 = ((255 - n : Nat) : Int) := by
  have : ∀ n : Fin 256, bits .xor .u8 ((n.val : Nat) : Int) 255 = ((255 - n.val : Nat) : Int) := by decide +kernel
  exact this ⟨n, h⟩

/-- The byte with every bit turned. -/
def flip (c : UInt8) : UInt8 := UInt8.ofNat (255 - c.toNat)

theorem flip_toNat (c : UInt8) : (flip c).toNat = 255 - c.toNat := by
  unfold flip
  rw [UInt8.toNat_ofNat']
  omega

theorem flip_xor (c : UInt8) : bits .xor .u8 ((c.toNat : Nat) : Int) 255 = (((flip c).toNat : Nat) : Int) := by
  rw [flip_toNat]
  exact flip_bits _ (UInt8.toNat_lt c)

theorem flip_ne (c : UInt8) : c ≠ flip c := by
  intro h
  have h1 := flip_toNat c
  rw [← h] at h1
  have := UInt8.toNat_lt c
  omega

theorem last_split (l : List UInt8) (k : Nat) (h : l.length = k + 1) : l = l.take k ++ [l.getD k 0] := by
  apply List.ext_getElem?
  intro i
  by_cases h1 : i < k
  · rw [List.getElem?_append_left (by simp; omega)]
    simp [h1]
  · by_cases h2 : i = k
    · subst h2
      rw [List.getElem?_append_right (by simp; omega)]
      simp [h]
    · rw [List.getElem?_eq_none (by omega), List.getElem?_eq_none (by simp; omega)]

theorem taken_cell (l : List UInt8) (k j : Nat) (d : UInt8) (h : l.length = k + 1) (hj : j < (l.take k ++ [d]).length) : ((l.take k ++ [d])[j]'hj) = if j = k then d else l.getD j 0 := by
  have hj' : j < k + 1 := by simp at hj; omega
  by_cases h1 : j = k
  · subst h1
    rw [if_pos rfl, List.getElem_append_right (by simp; omega)]
    simp
  · rw [if_neg h1, List.getElem_append_left (by simp; omega)]
    have : j < l.length := by omega
    simp [this]

theorem back_flip (W : World) (N k cap : Nat) (xs : List UInt8) (d : UInt8) (o : Obj) (hlen : xs.length = k + 1) (hN : W.heap.size = N + 1) (hc : ∀ j, j < k + 1 → W.cell? ⟨N, j, none⟩ = some (.int .u8 (xs.getD j 0).toNat)) :
    (convert 29 9 (.slice (some ⟨N, 0, none⟩) (k + 1) cap)).run Try.prog ((W.setCell ⟨N, k, none⟩ (.int .u8 ((d.toNat : Nat) : Int))).alloc o) = .ok (.string ⟨(xs.take k ++ [d]).toArray⟩) ((W.setCell ⟨N, k, none⟩ (.int .u8 ((d.toNat : Nat) : Int))).alloc o) := by
  have hlen2 : (xs.take k ++ [d]).length = k + 1 := by simp; omega
  have hsz : (W.setCell ⟨N, k, none⟩ (.int .u8 ((d.toNat : Nat) : Int))).heap.size = N + 1 := by rw [← hN]; simp [World.setCell]
  have h := run_convert_bytes_back (P := Try.prog) ((W.setCell ⟨N, k, none⟩ (.int .u8 ((d.toNat : Nat) : Int))).alloc o) 29 9 5 ⟨N, 0, none⟩ cap (xs.take k ++ [d]) Try.underlying29 Try.underlying5 Try.underlying9 (fun j hj => by
    have hjk : j < k + 1 := by omega
    have hold : ((W.setCell ⟨N, k, none⟩ (.int .u8 ((d.toNat : Nat) : Int))).alloc o).cell? ⟨N, j, none⟩ = (W.setCell ⟨N, k, none⟩ (.int .u8 ((d.toNat : Nat) : Int))).cell? ⟨N, j, none⟩ :=
      ((Below.refl (N + 1) (W.setCell ⟨N, k, none⟩ (.int .u8 ((d.toNat : Nat) : Int)))).alloc (by rw [hsz]; exact Nat.le_refl _) o).cell (by exact Nat.lt_succ_self _)
    rw [Go.WideShapes.add_plain, Nat.zero_add, hold, taken_cell _ _ _ _ hlen hj]
    have hk := hc k (by omega)
    have hj' := hc j hjk
    by_cases e : j = k
    · subst e
      rw [if_pos rfl]
      go_simp
    · rw [if_neg e, ← hj']
      have e' : k ≠ j := fun h => e h.symm
      go_simp)
  rw [hlen2] at h
  exact h

set_option maxHeartbeats 1000000 in
theorem own_short (text : ByteArray) (off  : Nat) (w : World) (hl : text.size ≤ 1048576) (ho : off ≤ text.size) (r : Nat) (hr0 : IsStop (ch text) text.size off r) (q : Nat) (hq : (text.size : Int) - (r : Int) = (q : Int)) (k : Nat) (hmq : ¬ (q : Int) < ((k + 1 : Nat) : Int)) :
    Calls Try.prog 4 #[.string text, .int .i64 off, .int .i64 ((k + 1 : Nat) : Int)] w fun e w' => e = .returned (.bool true) ∧ Below w.heap.size w w' := by
  have h1 : ¬ (1048576 : Int) < (text.size : Int) := by omega
  have h3 : ¬ (off : Int) < 0 := by omega
  have h4 : ¬ (text.size : Int) < (off : Int) := by omega
  have h5 : ¬ (((k + 1 : Nat) : Int) : Int) < 0 := by omega
  have hrl : r ≤ text.size := hr0.hi
  have hro : off ≤ r := hr0.lo
  have R : Hid (IsStop (ch text) text.size off r) := hr0
  have l1 : ¬ (r : Int) < (off : Int) := by omega
  have l2 : ¬ (text.size : Int) < (r : Int) := by omega
  clear hr0
  have hn : r + (k + 1) ≤ text.size := by omega
  have hn' : (r : Int) + ((k + 1) : Int) ≤ (text.size : Int) := by omega
  have hr1 : (0 : Int) ≤ (r : Int) := by omega
  have hr2 : (r : Int) ≤ (r : Int) + ((k + 1) : Int) := by omega
  have hr3 : (r : Int) ≤ (text.size : Int) := by omega
  obtain ⟨x, hx⟩ : ∃ x, text.extract r (r + (k + 1)) = x := ⟨_, rfl⟩
  have X : Hid (x.data.toList = (text.data.toList.drop r).take (k + 1) ∧ x.size = (k + 1)) := ⟨by rw [← hx]; exact ext_mid text r (k + 1), by rw [← hx]; exact ext_size text r (k + 1) hn⟩
  obtain ⟨y, hy⟩ : ∃ y, text.extract r text.size = y := ⟨_, rfl⟩
  have Y : Hid (y.data.toList = text.data.toList.drop r ∧ y.size = text.size - r) := ⟨by rw [← hy]; exact ext_drop text r, by rw [← hy, ByteArray.size_extract]; omega⟩
  obtain ⟨v, hv⟩ : ∃ v, y ++ ⟨#[33]⟩ = v := ⟨_, rfl⟩
  have hadd : ∀ W, (Op.stringOp .add y ⟨#[33]⟩).run Try.prog W = .ok (.string v) W := fun W => by rw [← hv]; exact run_string_add_sum W y ⟨#[33]⟩ (by have := Y.out.2; have h : (⟨#[33]⟩ : ByteArray).size = 1 := rfl; omega)
  have V : Hid (v.data.toList = text.data.toList.drop r ++ [33] ∧ v.size ≤ 1048577) := ⟨by rw [← hv, ByteArray.data_append, Array.toList_append, Y.out.1], by rw [← hv, ByteArray.size_append, Y.out.2]; have h : (⟨#[33]⟩ : ByteArray).size = 1 := rfl; omega⟩
  have FX : Hid (fits text.data.toList r x.data.toList = true) := by unfold Hid; rw [X.out.1]; exact fits_self _ _ _
  have FV : Hid (fits text.data.toList r v.data.toList = false) := by unfold Hid; rw [V.out.1]; exact fits_more _ _ _
  have HV : Hid (y ++ ⟨#[33]⟩ = v) := hv
  clear hv
  go_enter Try.func4, Try.ntmps4
  go_wp2_with fail
  refine (bytes11_yes _ _ _ _ hl).mono ?_
  rintro e w' ⟨rfl, rfl⟩
  go_wp2_with fail
  refine (newScanner_any _ _ _).mono ?_
  rintro e w1 ⟨rfl, rfl⟩
  go_wp2_with fail
  refine (lit_yes text ⟨#[]⟩ off r w' hl (by decide) ho R.out rfl).mono ?_
  rintro e w1 ⟨rfl, hc, hb⟩
  have B1 : Hid (Below w'.heap.size w' w1) := hb
  have C1 : Hid (w1.cell? ⟨w'.heap.size, 1, none⟩ = some (.int .i64 r)) := hc
  clear hb hc
  go_wp2_with fail
  refine (at_any w'.heap.size r w1 C1.out).mono ?_
  rintro e w2 ⟨rfl, rfl⟩
  clear C1
  go_wp2_with fail
  refine (newScanner_any _ _ _).mono ?_
  rintro e w3 ⟨rfl, rfl⟩
  go_wp2_with fail
  refine (lit_yes text x off r w2 hl (by have := X.out.2; omega) ho R.out FX.out).mono ?_
  rintro e w3 ⟨rfl, hc, hb⟩
  have B3 : Hid (Below w'.heap.size w' w3) := B1.out.trans (hb.mono B1.out.size)
  have C3 : Hid (w3.cell? ⟨w2.heap.size, 1, none⟩ = some (.int .i64 ((r : Int) + ((k + 1) : Int)))) := by unfold Hid; rw [hc, X.out.2] <;> rfl
  clear hc hb B1
  go_wp2_with fail
  refine (at_any w2.heap.size _ w3 C3.out).mono ?_
  rintro e w4 ⟨rfl, rfl⟩
  clear C3
  go_wp2_with fail
  refine (newScanner_any _ _ _).mono ?_
  rintro e w5 ⟨rfl, rfl⟩
  go_wp2_with fail
  refine (lit_no text v off r w4 hl V.out.2 ho R.out FV.out).mono ?_
  rintro e w5 ⟨rfl, hc, hb⟩
  have B5 : Hid (Below w'.heap.size w' w5) := B3.out.trans (hb.mono B3.out.size)
  have C5 : Hid (w5.cell? ⟨w4.heap.size, 1, none⟩ = some (.int .i64 (r : Int))) := hc
  clear hc hb B3
  go_wp2_with fail
  refine (at_any w4.heap.size _ w5 C5.out).mono ?_
  rintro e w6 ⟨rfl, rfl⟩
  clear C5
  obtain ⟨cap, W, hconv, hWs, hWb, hWc, hWf⟩ := conv_bytes w6 x
  have hxs : x.size = k + 1 := X.out.2
  rw [hxs] at hconv hWc hWf
  have ck : W.cell? ⟨w6.heap.size, k, none⟩ = some (.int .u8 (x.data.toList.getD k 0).toNat) := hWc k (by omega)
  have fk : W.frozen? ⟨w6.heap.size, k, none⟩ = false := hWf k (by omega)
  have ik : (k : Int) < ((k : Int) + 1) := by omega
  have ik0 : (0 : Int) ≤ (k : Int) := by omega
  have WC : Hid (∀ j, j < k + 1 → W.cell? ⟨w6.heap.size, j, none⟩ = some (.int .u8 (x.data.toList.getD j 0).toNat)) := hWc
  have WS : Hid (W.heap.size = w6.heap.size + 1) := hWs
  have B6 : Hid (Below w'.heap.size w' W) := B5.out.trans (hWb.mono B5.out.size)
  have HXS : Hid (x.size = k + 1) := hxs
  obtain ⟨c, hc⟩ : ∃ c, x.data.toList.getD k 0 = c := ⟨_, rfl⟩
  have HC : Hid (x.data.toList.getD k 0 = c) := hc
  rw [hc] at ck
  clear hWc hWs hWb hWf hxs hc
  obtain ⟨W2, hW2⟩ : ∃ W2, W.setCell ⟨w6.heap.size, k, none⟩ (.int .u8 (((flip c).toNat : Nat) : Int)) = W2 := ⟨_, rfl⟩
  have hbits : bits .xor .u8 ((c.toNat : Nat) : Int) 255 = (((flip c).toNat : Nat) : Int) := flip_xor c
  have W2B : Hid (Below w'.heap.size w' W2) := by unfold Hid; rw [← hW2]; exact B6.out.setCell (by have := B5.out.size; exact this) _
  obtain ⟨v2, hv2⟩ : ∃ v2 : ByteArray, v2 = ⟨(x.data.toList.take k ++ [flip c]).toArray⟩ := ⟨_, rfl⟩
  have V2 : Hid (v2.data.toList = x.data.toList.take k ++ [flip c] ∧ v2.size ≤ 1048577) := by
    have e : v2.data.toList = x.data.toList.take k ++ [flip c] := by rw [hv2]
    refine ⟨e, ?_⟩
    have e2 : v2.size = v2.data.toList.length := rfl
    have e3 : (x.data.toList.take k ++ [flip c]).length ≤ k + 1 := by rw [List.length_append, List.length_take]; simp; omega
    rw [e2, e]
    omega
  have hlen : x.data.toList.length = k + 1 := HXS.out
  have BK : Hid (∀ o, (convert 29 9 (.slice (some ⟨w6.heap.size, 0, none⟩) (k + 1) cap)).run Try.prog (W2.alloc o) = .ok (.string v2) (W2.alloc o)) := by
    intro o
    have h := back_flip W w6.heap.size k cap x.data.toList (flip c) o hlen WS.out WC.out
    rw [hW2] at h
    rw [h, hv2]
  have F2 : Hid (fits text.data.toList r v2.data.toList = false) := by
    unfold Hid
    rw [V2.out.1]
    refine fits_changed _ _ (k + 1) _ c (flip c) ?_ (flip_ne c)
    rw [← X.out.1, ← HC.out]
    exact last_split _ _ hlen
  clear hv2 hlen
  go_wp2_with fail
  refine (newScanner_any text off W2).mono ?_
  rintro e w7 ⟨rfl, rfl⟩
  have bk := BK.out (.cells #[.string text, .int .i64 off] 31)
  go_wp2_with fail
  refine (lit_no text v2 off r W2 hl V2.out.2 ho R.out F2.out).mono ?_
  rintro e w8 ⟨rfl, hc8, hb8⟩
  have B8 : Hid (Below w'.heap.size w' w8) := W2B.out.trans (hb8.mono W2B.out.size)
  have C8 : Hid (w8.cell? ⟨W2.heap.size, 1, none⟩ = some (.int .i64 (r : Int))) := hc8
  clear hc8 hb8
  go_wp2_with fail
  refine (at_any W2.heap.size _ w8 C8.out).mono ?_
  rintro e w9 ⟨rfl, rfl⟩
  clear C8 hW2
  go_wp2
  go_ret
  exact ⟨rfl, B8.out⟩

set_option maxHeartbeats 1000000 in
theorem own_long (text : ByteArray) (off m : Nat) (w : World) (hl : text.size ≤ 1048576) (ho : off ≤ text.size) (r : Nat) (hr0 : IsStop (ch text) text.size off r) (q : Nat) (hq : (text.size : Int) - (r : Int) = (q : Int)) (k : Nat) (hqk : q = k + 1) (hmq : ((k + 1 : Nat) : Int) < (m : Int)) :
    Calls Try.prog 4 #[.string text, .int .i64 off, .int .i64 m] w fun e w' => e = .returned (.bool true) ∧ Below w.heap.size w w' := by
  subst hqk
  have h1 : ¬ (1048576 : Int) < (text.size : Int) := by omega
  have h3 : ¬ (off : Int) < 0 := by omega
  have h4 : ¬ (text.size : Int) < (off : Int) := by omega
  have h5 : ¬ (m : Int) < 0 := by omega
  have hrl : r ≤ text.size := hr0.hi
  have hro : off ≤ r := hr0.lo
  have R : Hid (IsStop (ch text) text.size off r) := hr0
  have l1 : ¬ (r : Int) < (off : Int) := by omega
  have l2 : ¬ (text.size : Int) < (r : Int) := by omega
  clear hr0
  have hn : r + (k + 1) ≤ text.size := by omega
  have hn' : (r : Int) + ((k + 1) : Int) ≤ (text.size : Int) := by omega
  have hr1 : (0 : Int) ≤ (r : Int) := by omega
  have hr2 : (r : Int) ≤ (r : Int) + ((k + 1) : Int) := by omega
  have hr3 : (r : Int) ≤ (text.size : Int) := by omega
  obtain ⟨x, hx⟩ : ∃ x, text.extract r (r + (k + 1)) = x := ⟨_, rfl⟩
  have X : Hid (x.data.toList = (text.data.toList.drop r).take (k + 1) ∧ x.size = (k + 1)) := ⟨by rw [← hx]; exact ext_mid text r (k + 1), by rw [← hx]; exact ext_size text r (k + 1) hn⟩
  obtain ⟨y, hy⟩ : ∃ y, text.extract r text.size = y := ⟨_, rfl⟩
  have Y : Hid (y.data.toList = text.data.toList.drop r ∧ y.size = text.size - r) := ⟨by rw [← hy]; exact ext_drop text r, by rw [← hy, ByteArray.size_extract]; omega⟩
  obtain ⟨v, hv⟩ : ∃ v, y ++ ⟨#[33]⟩ = v := ⟨_, rfl⟩
  have hadd : ∀ W, (Op.stringOp .add y ⟨#[33]⟩).run Try.prog W = .ok (.string v) W := fun W => by rw [← hv]; exact run_string_add_sum W y ⟨#[33]⟩ (by have := Y.out.2; have h : (⟨#[33]⟩ : ByteArray).size = 1 := rfl; omega)
  have V : Hid (v.data.toList = text.data.toList.drop r ++ [33] ∧ v.size ≤ 1048577) := ⟨by rw [← hv, ByteArray.data_append, Array.toList_append, Y.out.1], by rw [← hv, ByteArray.size_append, Y.out.2]; have h : (⟨#[33]⟩ : ByteArray).size = 1 := rfl; omega⟩
  have FX : Hid (fits text.data.toList r x.data.toList = true) := by unfold Hid; rw [X.out.1]; exact fits_self _ _ _
  have FV : Hid (fits text.data.toList r v.data.toList = false) := by unfold Hid; rw [V.out.1]; exact fits_more _ _ _
  have HV : Hid (y ++ ⟨#[33]⟩ = v) := hv
  clear hv
  go_enter Try.func4, Try.ntmps4
  go_wp2_with fail
  refine (bytes11_yes _ _ _ _ hl).mono ?_
  rintro e w' ⟨rfl, rfl⟩
  go_wp2_with fail
  refine (newScanner_any _ _ _).mono ?_
  rintro e w1 ⟨rfl, rfl⟩
  go_wp2_with fail
  refine (lit_yes text ⟨#[]⟩ off r w' hl (by decide) ho R.out rfl).mono ?_
  rintro e w1 ⟨rfl, hc, hb⟩
  have B1 : Hid (Below w'.heap.size w' w1) := hb
  have C1 : Hid (w1.cell? ⟨w'.heap.size, 1, none⟩ = some (.int .i64 r)) := hc
  clear hb hc
  go_wp2_with fail
  refine (at_any w'.heap.size r w1 C1.out).mono ?_
  rintro e w2 ⟨rfl, rfl⟩
  clear C1
  go_wp2_with fail
  refine (newScanner_any _ _ _).mono ?_
  rintro e w3 ⟨rfl, rfl⟩
  go_wp2_with fail
  refine (lit_yes text x off r w2 hl (by have := X.out.2; omega) ho R.out FX.out).mono ?_
  rintro e w3 ⟨rfl, hc, hb⟩
  have B3 : Hid (Below w'.heap.size w' w3) := B1.out.trans (hb.mono B1.out.size)
  have C3 : Hid (w3.cell? ⟨w2.heap.size, 1, none⟩ = some (.int .i64 ((r : Int) + ((k + 1) : Int)))) := by unfold Hid; rw [hc, X.out.2] <;> rfl
  clear hc hb B1
  go_wp2_with fail
  refine (at_any w2.heap.size _ w3 C3.out).mono ?_
  rintro e w4 ⟨rfl, rfl⟩
  clear C3
  go_wp2_with fail
  refine (newScanner_any _ _ _).mono ?_
  rintro e w5 ⟨rfl, rfl⟩
  go_wp2_with fail
  refine (lit_no text v off r w4 hl V.out.2 ho R.out FV.out).mono ?_
  rintro e w5 ⟨rfl, hc, hb⟩
  have B5 : Hid (Below w'.heap.size w' w5) := B3.out.trans (hb.mono B3.out.size)
  have C5 : Hid (w5.cell? ⟨w4.heap.size, 1, none⟩ = some (.int .i64 (r : Int))) := hc
  clear hc hb B3
  go_wp2_with fail
  refine (at_any w4.heap.size _ w5 C5.out).mono ?_
  rintro e w6 ⟨rfl, rfl⟩
  clear C5
  obtain ⟨cap, W, hconv, hWs, hWb, hWc, hWf⟩ := conv_bytes w6 x
  have hxs : x.size = k + 1 := X.out.2
  rw [hxs] at hconv hWc hWf
  have ck : W.cell? ⟨w6.heap.size, k, none⟩ = some (.int .u8 (x.data.toList.getD k 0).toNat) := hWc k (by omega)
  have fk : W.frozen? ⟨w6.heap.size, k, none⟩ = false := hWf k (by omega)
  have ik : (k : Int) < ((k : Int) + 1) := by omega
  have ik0 : (0 : Int) ≤ (k : Int) := by omega
  have WC : Hid (∀ j, j < k + 1 → W.cell? ⟨w6.heap.size, j, none⟩ = some (.int .u8 (x.data.toList.getD j 0).toNat)) := hWc
  have WS : Hid (W.heap.size = w6.heap.size + 1) := hWs
  have B6 : Hid (Below w'.heap.size w' W) := B5.out.trans (hWb.mono B5.out.size)
  have HXS : Hid (x.size = k + 1) := hxs
  obtain ⟨c, hc⟩ : ∃ c, x.data.toList.getD k 0 = c := ⟨_, rfl⟩
  have HC : Hid (x.data.toList.getD k 0 = c) := hc
  rw [hc] at ck
  clear hWc hWs hWb hWf hxs hc
  obtain ⟨W2, hW2⟩ : ∃ W2, W.setCell ⟨w6.heap.size, k, none⟩ (.int .u8 (((flip c).toNat : Nat) : Int)) = W2 := ⟨_, rfl⟩
  have hbits : bits .xor .u8 ((c.toNat : Nat) : Int) 255 = (((flip c).toNat : Nat) : Int) := flip_xor c
  have W2B : Hid (Below w'.heap.size w' W2) := by unfold Hid; rw [← hW2]; exact B6.out.setCell (by have := B5.out.size; exact this) _
  obtain ⟨v2, hv2⟩ : ∃ v2 : ByteArray, v2 = ⟨(x.data.toList.take k ++ [flip c]).toArray⟩ := ⟨_, rfl⟩
  have V2 : Hid (v2.data.toList = x.data.toList.take k ++ [flip c] ∧ v2.size ≤ 1048577) := by
    have e : v2.data.toList = x.data.toList.take k ++ [flip c] := by rw [hv2]
    refine ⟨e, ?_⟩
    have e2 : v2.size = v2.data.toList.length := rfl
    have e3 : (x.data.toList.take k ++ [flip c]).length ≤ k + 1 := by rw [List.length_append, List.length_take]; simp; omega
    rw [e2, e]
    omega
  have hlen : x.data.toList.length = k + 1 := HXS.out
  have BK : Hid (∀ o, (convert 29 9 (.slice (some ⟨w6.heap.size, 0, none⟩) (k + 1) cap)).run Try.prog (W2.alloc o) = .ok (.string v2) (W2.alloc o)) := by
    intro o
    have h := back_flip W w6.heap.size k cap x.data.toList (flip c) o hlen WS.out WC.out
    rw [hW2] at h
    rw [h, hv2]
  have F2 : Hid (fits text.data.toList r v2.data.toList = false) := by
    unfold Hid
    rw [V2.out.1]
    refine fits_changed _ _ (k + 1) _ c (flip c) ?_ (flip_ne c)
    rw [← X.out.1, ← HC.out]
    exact last_split _ _ hlen
  clear hv2 hlen
  go_wp2_with fail
  refine (newScanner_any text off W2).mono ?_
  rintro e w7 ⟨rfl, rfl⟩
  have bk := BK.out (.cells #[.string text, .int .i64 off] 31)
  go_wp2_with fail
  refine (lit_no text v2 off r W2 hl V2.out.2 ho R.out F2.out).mono ?_
  rintro e w8 ⟨rfl, hc8, hb8⟩
  have B8 : Hid (Below w'.heap.size w' w8) := W2B.out.trans (hb8.mono W2B.out.size)
  have C8 : Hid (w8.cell? ⟨W2.heap.size, 1, none⟩ = some (.int .i64 (r : Int))) := hc8
  clear hc8 hb8
  go_wp2_with fail
  refine (at_any W2.heap.size _ w8 C8.out).mono ?_
  rintro e w9 ⟨rfl, rfl⟩
  clear C8 hW2
  go_wp2
  go_ret
  exact ⟨rfl, B8.out⟩

set_option maxHeartbeats 1000000 in
theorem own_none (text : ByteArray) (off  : Nat) (w : World) (hl : text.size ≤ 1048576) (ho : off ≤ text.size) (r : Nat) (hr0 : IsStop (ch text) text.size off r) (q : Nat) (hq : (text.size : Int) - (r : Int) = (q : Int)) (n : Nat) (hz : ¬ (0 : Int) < (n : Int)) (hmq : ¬ (q : Int) < (n : Int)) :
    Calls Try.prog 4 #[.string text, .int .i64 off, .int .i64 (n : Int)] w fun e w' => e = .returned (.bool true) ∧ Below w.heap.size w w' := by
  have h1 : ¬ (1048576 : Int) < (text.size : Int) := by omega
  have h3 : ¬ (off : Int) < 0 := by omega
  have h4 : ¬ (text.size : Int) < (off : Int) := by omega
  have h5 : ¬ ((n : Int) : Int) < 0 := by omega
  have hrl : r ≤ text.size := hr0.hi
  have hro : off ≤ r := hr0.lo
  have R : Hid (IsStop (ch text) text.size off r) := hr0
  have l1 : ¬ (r : Int) < (off : Int) := by omega
  have l2 : ¬ (text.size : Int) < (r : Int) := by omega
  clear hr0
  have hn : r + (n) ≤ text.size := by omega
  have hn' : (r : Int) + ((n) : Int) ≤ (text.size : Int) := by omega
  have hr1 : (0 : Int) ≤ (r : Int) := by omega
  have hr2 : (r : Int) ≤ (r : Int) + ((n) : Int) := by omega
  have hr3 : (r : Int) ≤ (text.size : Int) := by omega
  obtain ⟨x, hx⟩ : ∃ x, text.extract r (r + (n)) = x := ⟨_, rfl⟩
  have X : Hid (x.data.toList = (text.data.toList.drop r).take (n) ∧ x.size = (n)) := ⟨by rw [← hx]; exact ext_mid text r (n), by rw [← hx]; exact ext_size text r (n) hn⟩
  obtain ⟨y, hy⟩ : ∃ y, text.extract r text.size = y := ⟨_, rfl⟩
  have Y : Hid (y.data.toList = text.data.toList.drop r ∧ y.size = text.size - r) := ⟨by rw [← hy]; exact ext_drop text r, by rw [← hy, ByteArray.size_extract]; omega⟩
  obtain ⟨v, hv⟩ : ∃ v, y ++ ⟨#[33]⟩ = v := ⟨_, rfl⟩
  have hadd : ∀ W, (Op.stringOp .add y ⟨#[33]⟩).run Try.prog W = .ok (.string v) W := fun W => by rw [← hv]; exact run_string_add_sum W y ⟨#[33]⟩ (by have := Y.out.2; have h : (⟨#[33]⟩ : ByteArray).size = 1 := rfl; omega)
  have V : Hid (v.data.toList = text.data.toList.drop r ++ [33] ∧ v.size ≤ 1048577) := ⟨by rw [← hv, ByteArray.data_append, Array.toList_append, Y.out.1], by rw [← hv, ByteArray.size_append, Y.out.2]; have h : (⟨#[33]⟩ : ByteArray).size = 1 := rfl; omega⟩
  have FX : Hid (fits text.data.toList r x.data.toList = true) := by unfold Hid; rw [X.out.1]; exact fits_self _ _ _
  have FV : Hid (fits text.data.toList r v.data.toList = false) := by unfold Hid; rw [V.out.1]; exact fits_more _ _ _
  have HV : Hid (y ++ ⟨#[33]⟩ = v) := hv
  clear hv
  go_enter Try.func4, Try.ntmps4
  go_wp2_with fail
  refine (bytes11_yes _ _ _ _ hl).mono ?_
  rintro e w' ⟨rfl, rfl⟩
  go_wp2_with fail
  refine (newScanner_any _ _ _).mono ?_
  rintro e w1 ⟨rfl, rfl⟩
  go_wp2_with fail
  refine (lit_yes text ⟨#[]⟩ off r w' hl (by decide) ho R.out rfl).mono ?_
  rintro e w1 ⟨rfl, hc, hb⟩
  have B1 : Hid (Below w'.heap.size w' w1) := hb
  have C1 : Hid (w1.cell? ⟨w'.heap.size, 1, none⟩ = some (.int .i64 r)) := hc
  clear hb hc
  go_wp2_with fail
  refine (at_any w'.heap.size r w1 C1.out).mono ?_
  rintro e w2 ⟨rfl, rfl⟩
  clear C1
  go_wp2_with fail
  refine (newScanner_any _ _ _).mono ?_
  rintro e w3 ⟨rfl, rfl⟩
  go_wp2_with fail
  refine (lit_yes text x off r w2 hl (by have := X.out.2; omega) ho R.out FX.out).mono ?_
  rintro e w3 ⟨rfl, hc, hb⟩
  have B3 : Hid (Below w'.heap.size w' w3) := B1.out.trans (hb.mono B1.out.size)
  have C3 : Hid (w3.cell? ⟨w2.heap.size, 1, none⟩ = some (.int .i64 ((r : Int) + ((n) : Int)))) := by unfold Hid; rw [hc, X.out.2] <;> rfl
  clear hc hb B1
  go_wp2_with fail
  refine (at_any w2.heap.size _ w3 C3.out).mono ?_
  rintro e w4 ⟨rfl, rfl⟩
  clear C3
  go_wp2_with fail
  refine (newScanner_any _ _ _).mono ?_
  rintro e w5 ⟨rfl, rfl⟩
  go_wp2_with fail
  refine (lit_no text v off r w4 hl V.out.2 ho R.out FV.out).mono ?_
  rintro e w5 ⟨rfl, hc, hb⟩
  have B5 : Hid (Below w'.heap.size w' w5) := B3.out.trans (hb.mono B3.out.size)
  have C5 : Hid (w5.cell? ⟨w4.heap.size, 1, none⟩ = some (.int .i64 (r : Int))) := hc
  clear hc hb B3
  go_wp2_with fail
  refine (at_any w4.heap.size _ w5 C5.out).mono ?_
  rintro e w6 ⟨rfl, rfl⟩
  clear C5
  go_wp2
  go_ret
  exact ⟨rfl, B5.out⟩

set_option maxHeartbeats 1000000 in
theorem own_end (text : ByteArray) (off m : Nat) (w : World) (hl : text.size ≤ 1048576) (ho : off ≤ text.size) (r : Nat) (hr0 : IsStop (ch text) text.size off r) (q : Nat) (hq : (text.size : Int) - (r : Int) = (q : Int)) (hz : ¬ (0 : Int) < (q : Int)) (hmq : (q : Int) < (m : Int)) :
    Calls Try.prog 4 #[.string text, .int .i64 off, .int .i64 m] w fun e w' => e = .returned (.bool true) ∧ Below w.heap.size w w' := by
  have h1 : ¬ (1048576 : Int) < (text.size : Int) := by omega
  have h3 : ¬ (off : Int) < 0 := by omega
  have h4 : ¬ (text.size : Int) < (off : Int) := by omega
  have h5 : ¬ (m : Int) < 0 := by omega
  have hrl : r ≤ text.size := hr0.hi
  have hro : off ≤ r := hr0.lo
  have R : Hid (IsStop (ch text) text.size off r) := hr0
  have l1 : ¬ (r : Int) < (off : Int) := by omega
  have l2 : ¬ (text.size : Int) < (r : Int) := by omega
  clear hr0
  have hn : r + (q) ≤ text.size := by omega
  have hn' : (r : Int) + ((q) : Int) ≤ (text.size : Int) := by omega
  have hr1 : (0 : Int) ≤ (r : Int) := by omega
  have hr2 : (r : Int) ≤ (r : Int) + ((q) : Int) := by omega
  have hr3 : (r : Int) ≤ (text.size : Int) := by omega
  obtain ⟨x, hx⟩ : ∃ x, text.extract r (r + (q)) = x := ⟨_, rfl⟩
  have X : Hid (x.data.toList = (text.data.toList.drop r).take (q) ∧ x.size = (q)) := ⟨by rw [← hx]; exact ext_mid text r (q), by rw [← hx]; exact ext_size text r (q) hn⟩
  obtain ⟨y, hy⟩ : ∃ y, text.extract r text.size = y := ⟨_, rfl⟩
  have Y : Hid (y.data.toList = text.data.toList.drop r ∧ y.size = text.size - r) := ⟨by rw [← hy]; exact ext_drop text r, by rw [← hy, ByteArray.size_extract]; omega⟩
  obtain ⟨v, hv⟩ : ∃ v, y ++ ⟨#[33]⟩ = v := ⟨_, rfl⟩
  have hadd : ∀ W, (Op.stringOp .add y ⟨#[33]⟩).run Try.prog W = .ok (.string v) W := fun W => by rw [← hv]; exact run_string_add_sum W y ⟨#[33]⟩ (by have := Y.out.2; have h : (⟨#[33]⟩ : ByteArray).size = 1 := rfl; omega)
  have V : Hid (v.data.toList = text.data.toList.drop r ++ [33] ∧ v.size ≤ 1048577) := ⟨by rw [← hv, ByteArray.data_append, Array.toList_append, Y.out.1], by rw [← hv, ByteArray.size_append, Y.out.2]; have h : (⟨#[33]⟩ : ByteArray).size = 1 := rfl; omega⟩
  have FX : Hid (fits text.data.toList r x.data.toList = true) := by unfold Hid; rw [X.out.1]; exact fits_self _ _ _
  have FV : Hid (fits text.data.toList r v.data.toList = false) := by unfold Hid; rw [V.out.1]; exact fits_more _ _ _
  have HV : Hid (y ++ ⟨#[33]⟩ = v) := hv
  clear hv
  go_enter Try.func4, Try.ntmps4
  go_wp2_with fail
  refine (bytes11_yes _ _ _ _ hl).mono ?_
  rintro e w' ⟨rfl, rfl⟩
  go_wp2_with fail
  refine (newScanner_any _ _ _).mono ?_
  rintro e w1 ⟨rfl, rfl⟩
  go_wp2_with fail
  refine (lit_yes text ⟨#[]⟩ off r w' hl (by decide) ho R.out rfl).mono ?_
  rintro e w1 ⟨rfl, hc, hb⟩
  have B1 : Hid (Below w'.heap.size w' w1) := hb
  have C1 : Hid (w1.cell? ⟨w'.heap.size, 1, none⟩ = some (.int .i64 r)) := hc
  clear hb hc
  go_wp2_with fail
  refine (at_any w'.heap.size r w1 C1.out).mono ?_
  rintro e w2 ⟨rfl, rfl⟩
  clear C1
  go_wp2_with fail
  refine (newScanner_any _ _ _).mono ?_
  rintro e w3 ⟨rfl, rfl⟩
  go_wp2_with fail
  refine (lit_yes text x off r w2 hl (by have := X.out.2; omega) ho R.out FX.out).mono ?_
  rintro e w3 ⟨rfl, hc, hb⟩
  have B3 : Hid (Below w'.heap.size w' w3) := B1.out.trans (hb.mono B1.out.size)
  have C3 : Hid (w3.cell? ⟨w2.heap.size, 1, none⟩ = some (.int .i64 ((r : Int) + ((q) : Int)))) := by unfold Hid; rw [hc, X.out.2] <;> rfl
  clear hc hb B1
  go_wp2_with fail
  refine (at_any w2.heap.size _ w3 C3.out).mono ?_
  rintro e w4 ⟨rfl, rfl⟩
  clear C3
  go_wp2_with fail
  refine (newScanner_any _ _ _).mono ?_
  rintro e w5 ⟨rfl, rfl⟩
  go_wp2_with fail
  refine (lit_no text v off r w4 hl V.out.2 ho R.out FV.out).mono ?_
  rintro e w5 ⟨rfl, hc, hb⟩
  have B5 : Hid (Below w'.heap.size w' w5) := B3.out.trans (hb.mono B3.out.size)
  have C5 : Hid (w5.cell? ⟨w4.heap.size, 1, none⟩ = some (.int .i64 (r : Int))) := hc
  clear hc hb B3
  go_wp2_with fail
  refine (at_any w4.heap.size _ w5 C5.out).mono ?_
  rintro e w6 ⟨rfl, rfl⟩
  clear C5
  go_wp2
  go_ret
  exact ⟨rfl, B5.out⟩

end Go.Proofs.Qxb6628287a
