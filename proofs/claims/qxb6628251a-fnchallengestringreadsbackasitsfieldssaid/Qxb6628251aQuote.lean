/- The plain text that 'writeParam' lays, and its walk. -/
import Derived.Test.Qxb6628251aShelf
import Derived.Test.Qxb6628251aFit
import Derived.WalkKit
import Derived.BigCall
namespace Go.Proofs.Qxb6628251a
open Go.RowKit

/-- One rune in a quoted string. -/
def qr (r : Nat) : List UInt8 := if r = 34 ∨ r = 92 then 92 :: Lib.encodeRune r else Lib.encodeRune r

/-- The quoted text of s from place pos on, by at most 'fuel' runes. -/
def quoteFrom (s : ByteArray) : Nat → Nat → List UInt8
  | 0, _ => []
  | fuel + 1, pos => if pos < s.size then qr (Utf8.decode s pos).1 ++ quoteFrom s fuel (pos + (Utf8.decode s pos).2) else []
def quote (s : ByteArray) : List UInt8 := quoteFrom s s.size 0

/-- A parameter: its name, an equals sign, its quoted value. -/
def param (name : List UInt8) (value : ByteArray) : List UInt8 := name ++ [61, 34] ++ quote value ++ [34]

theorem width_pos (s : ByteArray) (pos : Nat) (h : pos < s.size) : 1 ≤ (Utf8.decode s pos).2 := by
  by_cases ha : (s[pos]'h).toNat < 128
  · rw [decode_ascii s pos h ha]
    exact Nat.le_refl _
  · exact (decode_high s pos h (by omega)).2

theorem quoteFrom_end (s : ByteArray) (fuel pos : Nat) (h : ¬ pos < s.size) : quoteFrom s fuel pos = [] := by
  cases fuel with
  | zero => rfl
  | succ f => simp [quoteFrom, h]

theorem encode_le (r : Int) : (Lib.encodeRune r).length ≤ 4 := by
  have h := Lib.runeCells_le r
  rw [Lib.runeCells_length] at h
  exact h.2

theorem qr_le (r : Nat) : (qr r).length ≤ 5 := by
  unfold qr
  have := encode_le r
  split <;> simp <;> omega

theorem quoteFrom_len (s : ByteArray) (fuel pos : Nat) : (quoteFrom s fuel pos).length ≤ 5 * fuel := by
  induction fuel generalizing pos with
  | zero => simp [quoteFrom]
  | succ f ih =>
    simp only [quoteFrom]
    split
    · have := qr_le (Utf8.decode s pos).1
      have := ih (pos + (Utf8.decode s pos).2)
      simp; omega
    · simp

theorem quote_len (s : ByteArray) : (quote s).length ≤ 5 * s.size := quoteFrom_len s s.size 0

theorem size_list (s : ByteArray) : s.data.toList.length = s.size := rfl

/-- A round of writeParam's loop, over lists alone. -/
theorem quote_step {value : ByteArray} {f pos : Nat} {t : List UInt8} (hp : pos < value.size) (h : t ++ quoteFrom value (f + 1) pos = quote value) :
    (t ++ qr (Utf8.decode value pos).1) ++ quoteFrom value f (pos + (Utf8.decode value pos).2) = quote value := by
  rw [← h]
  simp [quoteFrom, hp]

set_option maxHeartbeats 4000000 in
set_option maxRecDepth 1000000 in
theorem writeParam_core (B b : Nat) (acc pre : List UInt8) (name value : ByteArray) (w : World) (h : Lib.IsBuilderF 49 5 B b (Lib.byteCells acc) w) (hpre : Hid (acc ++ name.data.toList ++ [61, 34] = pre)) (hla : acc.length + name.size + 2 = pre.length) (hlen : pre.length + 5 * value.size + 8 ≤ 140737488355328) (hBw : B ≤ w.heap.size) :
    Calls Try.prog 20 #[.pointer (some ⟨b, 0, none⟩), .string name, .string value] w fun e w' => e = .returned (.tuple #[]) ∧ Lib.IsBuilderF 49 5 B b (Lib.byteCells (pre ++ quote value ++ [34])) w' ∧ Below B w w' := by
  go_enter Try.func20, Try.ntmps20
  go_wp2_with fail
  refine (writeString_k B b (Lib.byteCells acc) name w h (by rw [Lib.byteCells_length]; omega) hBw).mono ?_
  rintro e w1 ⟨rfl, h1, b1, _⟩
  have hBw1 := b1.size
  rw [Lib.strCells_eq, ← Lib.byteCells_append] at h1
  go_wp2_with fail
  refine (writeString_k B b _ _ w1 (.inr h1) (by rw [Lib.byteCells_length, List.length_append, size_list]; show _ + 2 ≤ _; omega) (by omega)).mono ?_
  rintro e w2 ⟨rfl, h2, b2, _⟩
  have hBw2 := b2.size
  rw [Lib.strCells_eq, ← Lib.byteCells_append] at h2
  have h2' : Lib.IsBuilderF 49 5 B b (Lib.byteCells (pre ++ [])) w2 := by rw [List.append_nil, ← hpre.out]; exact .inr h2
  have b02 := b1.trans b2
  have hlt2 : b < w2.heap.size := by
    obtain ⟨_, v, hv, _⟩ := h2
    exact (Array.getElem?_eq_some_iff.1 hv).1
  clear h1 b1 b2 h h2 hpre
  go_wp2
  go_loopw [] (fun wr => ∃ (pos fuel : Nat) (t : List UInt8), Lib.IsBuilderF 49 5 B b (Lib.byteCells (pre ++ t)) wr ∧ wr.heap[w2.heap.size]? = some (.stringIter value pos) ∧ Below B w wr ∧ Hid (t ++ quoteFrom value fuel pos = quote value) ∧ value.size ≤ pos + fuel ∧ t.length ≤ 5 * pos) (fun wr => value.size - wr.iterPos w2.heap.size)
  case atStart => exact ⟨0, value.size, [], h2'.alloc _, World.iter_heap w2 value 0, b02.alloc (by omega) _, rfl, by omega, by simp⟩
  case round =>
    obtain ⟨pos, fuel, t, hI, hit, hbw, hacc, hfu, hal⟩ := hrel
    clear h2' b02
    have hsz : w2.heap.size < wr.heap.size := (Array.getElem?_eq_some_iff.1 hit).1
    by_cases hp : pos < value.size
    · have hnx : ∀ ty, (Instr.next (.pointer (some ⟨w2.heap.size, 0, none⟩)) true ty).run Try.prog wr = _ := fun ty => Lib.run_next_any_at wr w2.heap.size value pos ty hit hp
      have hwd := width_pos value pos hp
      have hd1 := decode_le value pos
      have hI2 := hI.iterAt hit (pos + (Utf8.decode value pos).2)
      have hit2 := Lib.iterAt_heap wr w2.heap.size value pos (pos + (Utf8.decode value pos).2) hit
      have hbw2 := Lib.below_iterAt hbw (k := w2.heap.size) (by omega) value (pos + (Utf8.decode value pos).2)
      have hsz2 : B ≤ (wr.iterAt w2.heap.size value (pos + (Utf8.decode value pos).2)).heap.size := by rw [Lib.iterAt_size]; omega
      obtain ⟨f, rfl⟩ : ∃ f, fuel = f + 1 := ⟨fuel - 1, by omega⟩
      have hstep : Hid ((t ++ qr (Utf8.decode value pos).1) ++ quoteFrom value f (pos + (Utf8.decode value pos).2) = quote value) := quote_step hp hacc.out
      have hq5 := qr_le (Utf8.decode value pos).1
      clear hI hbw hacc
      generalize Utf8.decode value pos = D at *
      obtain ⟨r, wd⟩ := D
      simp only at hnx hwd hd1 hI2 hit2 hbw2 hsz2 hstep hq5
      have hlpt : (Lib.byteCells (pre ++ t)).length = pre.length + t.length := by rw [Lib.byteCells_length, List.length_append]
      by_cases hesc : r = 34 ∨ r = 92
      · have hqr : Hid (qr r = 92 :: Lib.encodeRune r) := by unfold Hid qr; rw [if_pos hesc]
        have hall : Hid (∀ X : World, Lib.BuilderAtF 49 5 B b (.pointer (some ⟨b, 0, none⟩)) ((Lib.byteCells (pre ++ t) ++ [.int .u8 92]) ++ Lib.runeCells r) X → Lib.IsBuilderF 49 5 B b (Lib.byteCells (pre ++ (t ++ qr r))) X) := by
          intro X hX
          rw [hqr.out, Lib.byteCells_append, Lib.byteCells_append, show (92 :: Lib.encodeRune r : List UInt8) = [92] ++ Lib.encodeRune r from rfl, Lib.byteCells_append, Lib.byteCells_encodeRune]
          rw [Lib.byteCells_append] at hX
          refine .inr ?_
          simpa [Lib.byteCells] using hX
        rcases hesc with h34 | h92
        · have e1 : ((r : Int) == 34) = true := by simp [h34]
          clear h34
          go_wp2_with fail
          refine (writeByte_k B b _ 92 _ hI2 (by omega) hsz2).mono ?_
          rintro e W1 ⟨rfl, g1, c1, k1⟩
          have hit3 := k1.iter hit2 (by omega)
          have hs3 := c1.size
          go_wp2_with fail
          refine (writeRune_k B b _ r (by omega) (by omega) _ (.inr g1) (by simp; omega) (by omega)).mono ?_
          rintro e W2 ⟨rfl, g2, c2, k2⟩
          have hit4 := k2.iter hit3 (by omega)
          go_wp2
          go_roundw
          case rel => exact ⟨pos + wd, f, t ++ qr r, hall.out _ g2, hit4, (hbw2.trans c1).trans c2, hstep, by omega, by rw [List.length_append]; omega⟩
          case measure =>
            simp only [World.iterPos, hit4, hit]
            omega
        · have e1 : ((r : Int) == 34) = false := by simp [h92]
          have e2 : ((r : Int) == 92) = true := by simp [h92]
          clear h92
          go_wp2_with fail
          refine (writeByte_k B b _ 92 _ hI2 (by omega) hsz2).mono ?_
          rintro e W1 ⟨rfl, g1, c1, k1⟩
          have hit3 := k1.iter hit2 (by omega)
          have hs3 := c1.size
          go_wp2_with fail
          refine (writeRune_k B b _ r (by omega) (by omega) _ (.inr g1) (by simp; omega) (by omega)).mono ?_
          rintro e W2 ⟨rfl, g2, c2, k2⟩
          have hit4 := k2.iter hit3 (by omega)
          go_wp2
          go_roundw
          case rel => exact ⟨pos + wd, f, t ++ qr r, hall.out _ g2, hit4, (hbw2.trans c1).trans c2, hstep, by omega, by rw [List.length_append]; omega⟩
          case measure =>
            simp only [World.iterPos, hit4, hit]
            omega
      · have hqr : Hid (qr r = Lib.encodeRune r) := by unfold Hid qr; rw [if_neg hesc]
        have hall : Hid (∀ X : World, Lib.BuilderAtF 49 5 B b (.pointer (some ⟨b, 0, none⟩)) (Lib.byteCells (pre ++ t) ++ Lib.runeCells r) X → Lib.IsBuilderF 49 5 B b (Lib.byteCells (pre ++ (t ++ qr r))) X) := by
          intro X hX
          rw [hqr.out, ← List.append_assoc, Lib.byteCells_append, Lib.byteCells_encodeRune]
          exact .inr hX
        have e1 : ((r : Int) == 34) = false := by simp; omega
        have e2 : ((r : Int) == 92) = false := by simp; omega
        clear hesc
        go_wp2_with fail
        refine (writeRune_k B b _ r (by omega) (by omega) _ hI2 (by omega) hsz2).mono ?_
        rintro e W2 ⟨rfl, g2, c2, k2⟩
        have hit4 := k2.iter hit2 (by omega)
        go_wp2
        go_roundw
        case rel => exact ⟨pos + wd, f, t ++ qr r, hall.out _ g2, hit4, hbw2.trans c2, hstep, by omega, by rw [List.length_append]; omega⟩
        case measure =>
          simp only [World.iterPos, hit4, hit]
          omega
    · have hnx : ∀ ty, (Instr.next (.pointer (some ⟨w2.heap.size, 0, none⟩)) true ty).run Try.prog wr = _ := fun ty => Lib.run_next_end_at wr w2.heap.size value pos ty hit hp
      have hq : Hid (t = quote value) := by
        have := hacc.out
        rw [quoteFrom_end value fuel pos hp, List.append_nil] at this
        exact this
      have hql := quote_len value
      have hI' : Lib.IsBuilderF 49 5 B b (Lib.byteCells (pre ++ quote value)) wr := by rw [← hq.out]; exact hI
      clear hI hacc hq
      go_wp2_with fail
      refine (writeByte_k B b _ 34 wr hI' (by rw [Lib.byteCells_length, List.length_append]; omega) (by omega)).mono ?_
      rintro e W1 ⟨rfl, g1, c1, k1⟩
      have g1' : Lib.IsBuilderF 49 5 B b (Lib.byteCells (pre ++ quote value ++ [34])) W1 := by rw [Lib.byteCells_append]; exact .inr g1
      clear g1
      go_wp2
      go_end0
      exact ⟨rfl, g1', hbw.trans c1⟩

theorem writeParam_any (B b : Nat) (acc : List UInt8) (name value : ByteArray) (w : World) (h : Lib.IsBuilderF 49 5 B b (Lib.byteCells acc) w) (hlen : acc.length + name.size + 5 * value.size + 16 ≤ 140737488355328) (hBw : B ≤ w.heap.size) :
    Calls Try.prog 20 #[.pointer (some ⟨b, 0, none⟩), .string name, .string value] w fun e w' => e = .returned (.tuple #[]) ∧ Lib.IsBuilderF 49 5 B b (Lib.byteCells (acc ++ param name.data.toList value)) w' ∧ Below B w w' := by
  have hl : acc.length + name.size + 2 = (acc ++ name.data.toList ++ [61, 34]).length := by simp; omega
  refine (writeParam_core B b acc _ name value w h rfl hl (by omega) hBw).mono ?_
  rintro e w' ⟨rfl, g, k⟩
  exact ⟨rfl, by unfold param; simpa using g, k⟩

end Go.Proofs.Qxb6628251a
