/- The walks of zzb1AppendRune and zzb1Canon. -/
import Derived.Test.Qxb6628251aOwn
import Derived.Test.Qxb6628251aUtf
import Derived.Lib.OthersKept
import Derived.Laws.BitsLemmas
namespace Go.Proofs.Qxb6628251a
open Go.RowKit

/-- What an append hands back: the row with what was appended; its block is the old one or a new one. -/
def Grew (w : World) (xs : List Value) (G : Option Nat) (e : Ending) (w' : World) : Prop := ∃ v' G', e = .returned v' ∧ Own 5 w' v' xs G' ∧ w.grownBy w' G ∧ (G' = G ∨ ∃ k, G' = some k ∧ w.heap.size ≤ k)

theorem Grew.mk {w w' : World} {xs ys : List Value} {G G' : Option Nat} {v' : Value} (ho : Own 5 w' v' ys G') (e : ys = xs) (hg : w.grownBy w' G) (hG : G' = G ∨ ∃ k, G' = some k ∧ w.heap.size ≤ k) : Grew w xs G (.returned v') w' := ⟨v', G', rfl, e ▸ ho, hg, hG⟩

theorem and63 (x : Int) (h0 : 0 ≤ x) (h1 : x < 2147483648) : bits .and .i32 x 63 = x % 64 := bits_mask .i32 31 (by decide) wraps_i32 6 (by decide) x h0 (by omega)
theorem or128 (y : Int) (h0 : 0 ≤ y) (h1 : y < 64) : bits .or .i32 128 y = 128 + y := i32_or6 128 y (by decide) (by decide) (by decide) h0 h1
theorem or192 (y : Int) (h0 : 0 ≤ y) (h1 : y < 32) : bits .or .i32 192 y = 192 + y := i32_or6 192 y (by decide) (by decide) (by decide) h0 (by omega)
theorem or224 (y : Int) (h0 : 0 ≤ y) (h1 : y < 16) : bits .or .i32 224 y = 224 + y := bits_join .i32 31 (by decide) wraps_i32 5 224 y (by decide) (by decide) (by decide) h0 (by omega) (by omega)
theorem or240 (y : Int) (h0 : 0 ≤ y) (h1 : y < 8) : bits .or .i32 240 y = 240 + y := bits_join .i32 31 (by decide) wraps_i32 4 240 y (by decide) (by decide) (by decide) h0 (by omega) (by omega)

set_option maxHeartbeats 1000000 in
theorem appendRune_one (v : Value) (xs : List Value) (G : Option Nat) (r : Int) (w : World) (h : Own 5 w v xs G) (hl : xs.length ≤ 1073741824) (h0 : 0 ≤ r) (h1 : r < 128) :
    Calls Try.prog 24 #[v, .int .i32 r] w fun e w' => Grew w (xs ++ Lib.runeCells r) G e w' := by
  have hr : Hid (Lib.runeCells r = [.int .u8 r]) := by unfold Hid Lib.runeCells; rw [Lib.encodeRuneZ_one h0 (by omega)]; rfl
  go_enter Try.func24, Try.ntmps24
  go_wp2_with (at_builtin; refine wpList_push_bytes rfl (.tmp 7) (.tmp 10) rfl w #[.int .u8 r] v xs G rfl rfl h (by simp) (by intro u hu; simp at hu; subst hu; rfl) (by simp; omega) ?_; intro v' w' G' ho hg hG)
  go_ret
  exact Grew.mk ho (by rw [hr.out]) hg hG

set_option maxHeartbeats 1000000 in
theorem appendRune_two (v : Value) (xs : List Value) (G : Option Nat) (r : Int) (w : World) (h : Own 5 w v xs G) (hl : xs.length ≤ 1073741824) (h0 : 128 ≤ r) (h1 : r < 2048) :
    Calls Try.prog 24 #[v, .int .i32 r] w fun e w' => Grew w (xs ++ Lib.runeCells r) G e w' := by
  have hr : Hid (Lib.runeCells r = [.int .u8 (192 + r / 64), .int .u8 (128 + r % 64)]) := by unfold Hid Lib.runeCells; rw [Lib.encodeRuneZ_two h0 (by omega)]; rfl
  have g1 : ¬ r < 128 := by omega
  have e1 := and63 r (by omega) (by omega)
  have e2 := or128 (r % 64) (by omega) (by omega)
  have e3 : (128 + r % 64) % 256 = 128 + r % 64 := by omega
  go_enter Try.func24, Try.ntmps24
  go_wp2_with (at_builtin; refine wpList_push_bytes rfl (.tmp 14) (.tmp 23) rfl w #[.int .u8 (192 + r / 64), .int .u8 (128 + r % 64)] v xs G rfl rfl h (by simp) (by intro u hu; simp at hu; rcases hu with rfl | rfl <;> rfl) (by simp; omega) ?_; intro v' w' G' ho hg hG)
  go_ret
  exact Grew.mk ho (by rw [hr.out]) hg hG

set_option maxHeartbeats 1000000 in
theorem appendRune_three (v : Value) (xs : List Value) (G : Option Nat) (r : Int) (w : World) (h : Own 5 w v xs G) (hl : xs.length ≤ 1073741824) (h0 : 2048 ≤ r) (h1 : r < 65536) (hv : r < 55296 ∨ 57343 < r) :
    Calls Try.prog 24 #[v, .int .i32 r] w fun e w' => Grew w (xs ++ Lib.runeCells r) G e w' := by
  have hr : Hid (Lib.runeCells r = [.int .u8 (224 + r / 4096), .int .u8 (128 + r / 64 % 64), .int .u8 (128 + r % 64)]) := by unfold Hid Lib.runeCells; rw [Lib.encodeRuneZ_three (by omega)]; rfl
  have g1 : ¬ r < 128 := by omega
  have g2 : ¬ r < 2048 := by omega
  have e1 := and63 r (by omega) (by omega)
  have e2 := or128 (r % 64) (by omega) (by omega)
  have e3 : (128 + r % 64) % 256 = 128 + r % 64 := by omega
  have e4 := and63 (r / 64) (by omega) (by omega)
  have e5 := or128 (r / 64 % 64) (by omega) (by omega)
  have e6 : (128 + r / 64 % 64) % 256 = 128 + r / 64 % 64 := by omega
  have e7 := or224 (r / 4096) (by omega) (by omega)
  have e8 : (224 + r / 4096) % 256 = 224 + r / 4096 := by omega
  clear hv
  go_enter Try.func24, Try.ntmps24
  go_wp2_with (at_builtin; refine wpList_push_bytes rfl (.tmp 27) (.tmp 41) rfl w #[.int .u8 (224 + r / 4096), .int .u8 (128 + r / 64 % 64), .int .u8 (128 + r % 64)] v xs G rfl rfl h (by simp) (by intro u hu; simp at hu; rcases hu with rfl | rfl | rfl <;> rfl) (by simp; omega) ?_; intro v' w' G' ho hg hG)
  go_ret
  exact Grew.mk ho (by rw [hr.out]) hg hG

set_option maxHeartbeats 1000000 in
theorem appendRune_four (v : Value) (xs : List Value) (G : Option Nat) (r : Int) (w : World) (h : Own 5 w v xs G) (hl : xs.length ≤ 1073741824) (h0 : 65536 ≤ r) (h1 : r ≤ 1114111) :
    Calls Try.prog 24 #[v, .int .i32 r] w fun e w' => Grew w (xs ++ Lib.runeCells r) G e w' := by
  have hr : Hid (Lib.runeCells r = [.int .u8 (240 + r / 262144), .int .u8 (128 + r / 4096 % 64), .int .u8 (128 + r / 64 % 64), .int .u8 (128 + r % 64)]) := by unfold Hid Lib.runeCells; rw [Lib.encodeRuneZ_four h0 h1]; rfl
  have g1 : ¬ r < 128 := by omega
  have g2 : ¬ r < 2048 := by omega
  have g3 : ¬ r < 65536 := by omega
  have e1 := and63 r (by omega) (by omega)
  have e2 := or128 (r % 64) (by omega) (by omega)
  have e3 : (128 + r % 64) % 256 = 128 + r % 64 := by omega
  have e4 := and63 (r / 64) (by omega) (by omega)
  have e5 := or128 (r / 64 % 64) (by omega) (by omega)
  have e6 : (128 + r / 64 % 64) % 256 = 128 + r / 64 % 64 := by omega
  have e7 := and63 (r / 4096) (by omega) (by omega)
  have e8 := or128 (r / 4096 % 64) (by omega) (by omega)
  have e9 : (128 + r / 4096 % 64) % 256 = 128 + r / 4096 % 64 := by omega
  have f1 := or240 (r / 262144) (by omega) (by omega)
  have f2 : (240 + r / 262144) % 256 = 240 + r / 262144 := by omega
  go_enter Try.func24, Try.ntmps24
  go_wp2_with (at_builtin; refine wpList_push_bytes rfl (.tmp 43) (.tmp 62) rfl w #[.int .u8 (240 + r / 262144), .int .u8 (128 + r / 4096 % 64), .int .u8 (128 + r / 64 % 64), .int .u8 (128 + r % 64)] v xs G rfl rfl h (by simp) (by intro u hu; simp at hu; rcases hu with rfl | rfl | rfl | rfl <;> rfl) (by simp; omega) ?_; intro v' w' G' ho hg hG)
  go_ret
  exact Grew.mk ho (by rw [hr.out]) hg hG

/-- What the decoder hands out is a rune that can be written. -/
theorem valid_cases {c : Nat} (h : Utf8.valid c = true) : c < 55296 ∨ (57343 < c ∧ c ≤ 1114111) := by
  unfold Utf8.valid at h
  simp at h
  omega

theorem dec_valid (l : List UInt8) : (dec l).1 < 55296 ∨ (57343 < (dec l).1 ∧ (dec l).1 ≤ 1114111) := by
  unfold dec Utf8.decode
  simp only [get_list, list_size, Nat.zero_add]
  generalize ((⟨l.toArray⟩ : ByteArray).data.toList.getD 0 0).toNat = b0
  generalize ((⟨l.toArray⟩ : ByteArray).data.toList.getD 1 0).toNat = b1
  generalize ((⟨l.toArray⟩ : ByteArray).data.toList.getD 2 0).toNat = b2
  generalize ((⟨l.toArray⟩ : ByteArray).data.toList.getD 3 0).toNat = b3
  have e : Utf8.runeError = 65533 := rfl
  split
  · left; show b0 < _; omega
  split
  · split
    · left; show b0 % 32 * 64 + b1 % 64 < _; omega
    · rw [e]; right; show 57343 < 65533 ∧ 65533 ≤ 1114111; decide
  split
  · split
    · rename_i h
      simp only [Bool.and_eq_true] at h
      exact valid_cases h.2
    · rw [e]; right; show 57343 < 65533 ∧ 65533 ≤ 1114111; decide
  split
  · split
    · rename_i h
      simp only [Bool.and_eq_true] at h
      exact valid_cases h.2
    · rw [e]; right; show 57343 < 65533 ∧ 65533 ≤ 1114111; decide
  · rw [e]; right; show 57343 < 65533 ∧ 65533 ≤ 1114111; decide

theorem appendRune_any (v : Value) (xs : List Value) (G : Option Nat) (r : Int) (w : World) (h : Own 5 w v xs G) (hl : xs.length ≤ 1073741824) (h0 : 0 ≤ r) (hv : r < 55296 ∨ (57343 < r ∧ r ≤ 1114111)) :
    Calls Try.prog 24 #[v, .int .i32 r] w fun e w' => Grew w (xs ++ Lib.runeCells r) G e w' := by
  by_cases a : r < 128
  · exact appendRune_one v xs G r w h hl h0 a
  by_cases b : r < 2048
  · exact appendRune_two v xs G r w h hl (by omega) b
  by_cases c : r < 65536
  · exact appendRune_three v xs G r w h hl (by omega) c (by omega)
  · exact appendRune_four v xs G r w h hl (by omega) (by omega)

/-- A text as valid UTF-8. -/
def canon (l : List UInt8) : List UInt8 := each (fun r => Lib.encodeRune r) l

theorem each_len (h : Nat → List UInt8) (b : Nat) (hb : ∀ r, (h r).length ≤ b) (f : Nat) (l : List UInt8) : (eachRune h f l).length ≤ b * f := by
  induction f generalizing l with
  | zero => simp [eachRune]
  | succ f ih =>
    cases l with
    | nil => simp [eachRune]
    | cons c t =>
      simp only [eachRune, List.length_append]
      have h1 := hb (dec (c :: t)).1
      have h2 := ih ((c :: t).drop (dec (c :: t)).2)
      rw [Nat.mul_succ]
      omega

theorem canon_len (l : List UInt8) : (canon l).length ≤ 4 * l.length := each_len _ 4 (fun r => encode_le r) l.length l

theorem make_bytes (n : Nat) (hn : n ≤ 67108864) (w : World) :
    (Instr.makeSlice 47 (.int .i64 0) (.int .i64 (n : Int))).run Try.prog w = .ok (.slice (some ⟨w.heap.size, 0, none⟩) 0 n) (w.alloc (.cells (madeCells #[.int .u8 0] n) 5)) := by
  obtain ⟨i, hi, hzz⟩ := Option.map_eq_some_iff.1 Try.info5
  simp only [Prod.mk.injEq] at hzz
  obtain ⟨hz, hs, hb⟩ := hzz
  have hr := run_make (P := Try.prog) w 47 5 i _ Try.underlying47 hi hz .i64 .i64 0 n (by omega) (by omega) (by rw [hb]; omega) (by omega)
  rw [hs, Nat.mul_one] at hr
  exact hr

/-- A block that is no row of cells is none that is owned. -/
theorem Own.iter {e : TypeId} {w w' : World} {v : Value} {xs : List Value} {G : Option Nat} {k : Nat} {s : ByteArray} {pos : Nat} (h : Own e w v xs G) (hk : w.heap[k]? = some (.stringIter s pos)) (hg : w.grownBy w' G) : w'.heap[k]? = some (.stringIter s pos) := by
  refine (hg.block k (Array.getElem?_eq_some_iff.1 hk).1 fun he => ?_).trans hk
  subst he
  obtain ⟨c, hc⟩ := h.block
  rw [hk] at hc
  cases hc

theorem Own.iterAt {e : TypeId} {w : World} {v : Value} {xs : List Value} {G : Option Nat} {k : Nat} {s : ByteArray} {pos : Nat} (h : Own e w v xs G) (hk : w.heap[k]? = some (.stringIter s pos)) (pos' : Nat) : Own e (w.iterAt k s pos') v xs G := by
  refine h.kept (R := some k) ⟨rfl, rfl, rfl, by rw [Lib.iterAt_size]; exact Nat.le_refl _, fun j hj hne => Lib.iterAt_other w k j s pos' (fun e => hne (by rw [e]))⟩ ?_
  cases G with
  | none => exact .inl rfl
  | some g =>
    refine .inr fun he => ?_
    simp at he
    subst he
    obtain ⟨c, hc⟩ := h.block
    rw [hk] at hc
    cases hc

set_option maxHeartbeats 600000 in
set_option maxRecDepth 1000000 in
theorem canon_any (s : ByteArray) (w : World) (hs : s.size ≤ 16777216) :
    Calls Try.prog 11 #[.string s] w fun e w' => e = .returned (.string ⟨(canon s.data.toList).toArray⟩) ∧ Below w.heap.size w w' := by
  have hmk := make_bytes s.size (by omega)
  go_enter Try.func11, Try.ntmps11
  go_wp2
  clear hmk
  go_loopw [3, 5] (fun v _r wr => ∃ (pos : Nat) (t : List UInt8) (G : Option Nat), Own 5 wr v (Lib.byteCells t) G ∧ (∀ g, G = some g → w.heap.size ≤ g) ∧ wr.heap[w.heap.size + 1]? = some (.stringIter s pos) ∧ Below w.heap.size w wr ∧ Hid (t ++ canon (s.data.toList.drop pos) = canon s.data.toList) ∧ t.length ≤ 4 * pos) (fun _ _ wr => s.size - wr.iterPos (w.heap.size + 1))
  case atStart =>
    refine ⟨0, [], some w.heap.size, ⟨rfl, ?_⟩, fun g hg => by simp at hg; omega, ?_, ((Below.refl _ w).alloc (Nat.le_refl _) _).alloc (by simp) _, by unfold Hid; rfl, by simp⟩
    · exact (World.ownsRow_made w (madeCells #[.int .u8 0] s.size) s.size (Nat.zero_le _) (by unfold maxLen; omega) (by rw [size_madeCells, Nat.mul_one])).alloc _
    · have := World.iter_heap (w.alloc (.cells (madeCells #[.int .u8 0] s.size) 5)) s 0
      simpa using this
  case round =>
    obtain ⟨pos, t, G, hO, hG, hit, hbw, hacc, hal⟩ := hrel
    have hsz : w.heap.size + 1 < wr.heap.size := (Array.getElem?_eq_some_iff.1 hit).1
    by_cases hp : pos < s.size
    · have hnx : ∀ ty, (Instr.next (.pointer (some ⟨w.heap.size + 1, 0, none⟩)) true ty).run Try.prog wr = _ := fun ty => Lib.run_next_any_at wr (w.heap.size + 1) s pos ty hit hp
      have hne : s.data.toList.drop pos ≠ [] := by
        rw [Ne, List.drop_eq_nil_iff]
        show ¬ s.size ≤ pos
        omega
      have hwd := width_pos s pos hp
      have hva := dec_valid (s.data.toList.drop pos)
      have hst : Hid ((t ++ Lib.encodeRune (Utf8.decode s pos).1) ++ canon (s.data.toList.drop (pos + (Utf8.decode s pos).2)) = canon s.data.toList) := by
        have h1 := hacc.out
        unfold canon at h1 ⊢
        rw [each_cons _ _ hne, ← decode_dec, List.drop_drop] at h1
        unfold Hid
        rw [List.append_assoc]
        exact h1
      rw [← decode_dec] at hva
      have hO2 := hO.iterAt hit (pos + (Utf8.decode s pos).2)
      have hit2 := Lib.iterAt_heap wr (w.heap.size + 1) s pos (pos + (Utf8.decode s pos).2) hit
      have hbw2 := Lib.below_iterAt hbw (k := w.heap.size + 1) (by omega) s (pos + (Utf8.decode s pos).2)
      have hsz2 : w.heap.size + 1 < (wr.iterAt (w.heap.size + 1) s (pos + (Utf8.decode s pos).2)).heap.size := by rw [Lib.iterAt_size]; omega
      clear hacc hO hbw hne
      generalize Utf8.decode s pos = D at *
      obtain ⟨r, wd⟩ := D
      simp only at hnx hwd hva hst hO2 hit2 hbw2 hsz2
      generalize wr.iterAt (w.heap.size + 1) s (pos + wd) = W1 at *
      have HV : Hid (r < 55296 ∨ (57343 < r ∧ r ≤ 1114111)) := hva
      have HG : Hid (∀ g, G = some g → w.heap.size ≤ g) := hG
      clear hva hG
      go_wp2_with fail
      refine (appendRune_any u3 (Lib.byteCells t) G r W1 hO2 (by rw [Lib.byteCells_length]; omega) (by omega) (by have := HV.out; omega)).mono ?_
      rintro e W2 ⟨v', G', rfl, ho, hg, hGG⟩
      have hit3 := hO2.iter hit2 hg
      have hbw3 : Below w.heap.size w W2 := hbw2.trans ⟨hg.os, hg.tape, hg.output, hg.size, fun k hk => hg.block k (by omega) (fun he => by have := HG.out k he.symm; omega)⟩
      have hG' : ∀ g, G' = some g → w.heap.size ≤ g := by
        intro g hgg
        rcases hGG with h | ⟨k, h, hk⟩
        · exact HG.out g (by rw [← h]; exact hgg)
        · rw [h] at hgg; simp at hgg; omega
      have ho' : Own 5 W2 v' (Lib.byteCells (t ++ Lib.encodeRune r)) G' := by rw [Lib.byteCells_append, Lib.byteCells_encodeRune]; exact ho
      have hle := encode_le r
      have HG' : Hid (∀ g, G' = some g → w.heap.size ≤ g) := hG'
      clear ho hg hGG hO2 hbw2 hnx hG' HG HV
      go_wp2
      go_roundw
      case rel => exact ⟨pos + wd, t ++ Lib.encodeRune r, G', ho', HG'.out, hit3, hbw3, hst, by rw [List.length_append]; omega⟩
      case measure =>
        simp only [World.iterPos, hit3, hit]
        omega
    · have hnx : ∀ ty, (Instr.next (.pointer (some ⟨w.heap.size + 1, 0, none⟩)) true ty).run Try.prog wr = _ := fun ty => Lib.run_next_end_at wr (w.heap.size + 1) s pos ty hit hp
      have hq : t = canon s.data.toList := by
        have h1 := hacc.out
        have e : s.data.toList.drop pos = [] := by
          rw [List.drop_eq_nil_iff]
          show s.size ≤ pos
          omega
        rw [e] at h1
        simpa [canon, each_nil] using h1
      subst hq
      have hcv := conv_own hO
      clear hacc
      go_wp2
      go_ret
      exact ⟨rfl, hbw⟩

end Go.Proofs.Qxb6628251a
