/- The walk of 'zzParseCanon' at a canonical text. -/
import Derived.Test.Qxb6630554aFmtSplit
import Derived.OwnWalk
namespace Go.Proofs.Qxb6630554aFmt
open Go.RowKit Go.Extern.Stop Go.Stop Go.Extern

theorem digit_yes (c : Nat) (w : World) (h1 : 48 ≤ c) (h2 : c ≤ 57) : Calls Tryf.prog 10 #[.int .u8 (c : Int)] w fun e w' => e = .returned (.bool true) ∧ w' = w := by
  have h1' : (48 : Int) ≤ (c : Int) := by omega
  have h2' : (c : Int) ≤ 57 := by omega
  go_enter Tryf.func10, Tryf.ntmps10
  go_wp2
  go_ret
  exact ⟨rfl, rfl⟩

theorem digit_no (c : Nat) (w : World) (h : c = 46) : Calls Tryf.prog 10 #[.int .u8 (c : Int)] w fun e w' => e = .returned (.bool false) ∧ w' = w := by
  subst h
  go_enter Tryf.func10, Tryf.ntmps10
  go_wp2
  go_ret
  exact ⟨rfl, rfl⟩

/-- What the walk is told of a canonical text: 'st': where the digits begin; 'N': where the point is. -/
structure Canon (s : ByteArray) (z V : Nat → Nat) (st N q t u m : Nat) : Prop where
  idx : ∀ (i : Nat) (hi : i < s.size), (s[i]'hi).toNat = z i
  size : s.size = N + 3
  lo : st + 1 ≤ N
  hi : N ≤ st + 17
  dig : ∀ i, st ≤ i → i < N → 48 ≤ z i ∧ z i ≤ 57
  pt : z N = 46
  t1 : z (N + 1) = 48 + t
  u1 : z (N + 2) = 48 + u
  t2 : t < 10
  u2 : u < 10
  lead : st + 1 < N → z st ≠ 48
  v0 : V st = 0
  vn : V N = q
  vs : ∀ i, st ≤ i → i < N → V i * 10 + (z i - 48) = V (i + 1)
  vb : ∀ i, V i ≤ 100000000000000000
  sum : q * 100 + t * 10 + u = m
  mb : m ≤ 9223372036854775808

set_option maxHeartbeats 2000000 in
theorem parse_pos (s : ByteArray) (z V : Nat → Nat) (N q t u m : Nat) (w : World) (C : Canon s z V 0 N q t u m)  :
    Calls Tryf.prog 6 #[.string s] w fun e w' => e = .returned (.tuple #[.bool false, .int .u64 (m : Int), .bool true]) ∧ Below w.heap.size w w' := by
  have hidx := C.idx
  have hsz := C.size
  have hlo := C.lo
  have hhi := C.hi
  have hs0 : (0 : Int) < (s.size : Int) := by omega
  have hs3 : (s.size : Int) - (N : Int) = 3 := by omega
  have hn0 : (N : Int) < (s.size : Int) := by omega
  have hn1 : (N : Int) + 1 < (s.size : Int) := by omega
  have hn2 : (N : Int) + 2 < (s.size : Int) := by omega
  have hN17 : N ≤ 18 := by omega
  clear hsz
  have CC : Hid (Canon s z V 0 N q t u m) := C
  clear C
  have z0 : ((z 0 : Nat) : Int) ≠ 45 := by have := CC.out.dig 0 (by omega) (by omega); omega
  have z0b : (((z 0 : Nat) : Int) == 45) = false := by simpa using z0
  clear z0
  go_enter Tryf.func6, Tryf.ntmps6
  go_wp2
  go_loopw [6] (fun i wr => ∃ k : Nat, 0 ≤ k ∧ k ≤ N ∧ i = .int .i64 k ∧ Below w.heap.size w wr) (fun i _ => N - (intOf i).toNat)
  case atStart => exact ⟨0, Nat.le_refl _, by omega, rfl, Below.refl _ _⟩
  case round =>
    obtain ⟨k, hk1, hk2, rfl, hb⟩ := hrel
    have hi0 : (0 : Int) ≤ (k : Int) := by omega
    have hi1 : (k : Int) < (s.size : Int) := by omega
    by_cases hlt : k < N
    · have D : Hid (48 ≤ z k ∧ z k ≤ 57) := CC.out.dig k hk1 hlt
      have B : Hid (Below w.heap.size w wr) := hb
      clear hb
      go_wp2_with fail
      refine (digit_yes _ _ D.out.1 D.out.2).mono ?_
      rintro e w3 ⟨rfl, rfl⟩
      go_wp2
      go_roundw
      case rel => exact ⟨k + 1, by omega, by omega, by go_num, B.out⟩
      case measure => simp [intOf]; omega
    · obtain rfl : k = N := by omega
      have B : Hid (Below w.heap.size w wr) := hb
      have P : Hid (z k = 46) := CC.out.pt
      clear hb hk1 hk2 hlt
      go_wp2_with fail
      refine (digit_no _ _ P.out).mono ?_
      rintro e w3 ⟨rfl, rfl⟩
      have D1 : Hid (48 ≤ z (k + 1) ∧ z (k + 1) ≤ 57) := by have h1 := CC.out.t1; have h2 := CC.out.t2; exact ⟨by omega, by omega⟩
      have D2 : Hid (48 ≤ z (k + 2) ∧ z (k + 2) ≤ 57) := by have h1 := CC.out.u1; have h2 := CC.out.u2; exact ⟨by omega, by omega⟩
      have pb : (((z k : Nat) : Int) != 46) = false := by rw [P.out]; rfl
      have nb0 : ((k : Int) == 0) = false := by simp; omega
      have nb17 : decide (17 < (k : Int)) = false := decide_eq_false (by omega)
      by_cases hd : (1 : Int) < (k : Int)
      · have lb : (((z 0 : Nat) : Int) == 48) = false := by have h1 := CC.out.lead (by omega); simp; omega
        have hdb : decide ((1 : Int) < (k : Int)) = true := decide_eq_true hd
        go_wp2_with fail
        refine (digit_yes _ _ D1.out.1 D1.out.2).mono ?_
        rintro e w4 ⟨rfl, rfl⟩
        go_wp2_with fail
        refine (digit_yes _ _ D2.out.1 D2.out.2).mono ?_
        rintro e w5 ⟨rfl, rfl⟩
        go_wp2
        go_loopw [9, 10] (fun g j wr => ∃ i : Nat, 0 ≤ i ∧ i ≤ k ∧ g = .int .u64 (V i) ∧ j = .int .i64 i ∧ Below w.heap.size w wr) (fun _ j _ => k - (intOf j).toNat)
        case atStart => exact ⟨0, Nat.le_refl _, by omega, by rw [CC.out.v0]; rfl, rfl, B.out⟩
        case round =>
          obtain ⟨i, hi1, hi2, rfl, rfl, hb⟩ := hrel
          have ii0 : (0 : Int) ≤ (i : Int) := by omega
          have BB : Hid (Below w.heap.size w wr) := hb
          clear hb B
          by_cases hlt : i < k
          · have ii1 : (i : Int) < (k : Int) := by omega
            have ii2 : (i : Int) < (s.size : Int) := by omega
            have vs := CC.out.vs i hi1 hlt
            have vb := CC.out.vb i
            have vb1 := CC.out.vb (i + 1)
            have dg := CC.out.dig i hi1 hlt
            obtain ⟨x, hx⟩ : ∃ x : Nat, ((V i : Nat) : Int) * 10 = (x : Int) := ⟨V i * 10, by omega⟩
            obtain ⟨y, hy⟩ : ∃ y : Nat, ((z i : Nat) : Int) - 48 = (y : Int) := ⟨z i - 48, by omega⟩
            have hxy : (x : Int) + (y : Int) = ((V (i + 1) : Nat) : Int) := by omega
            have hx2 : x ≤ 1000000000000000000 := by omega
            have hy2 : y ≤ 9 := by omega
            clear vs
            go_wp2
            go_roundw
            case rel => exact ⟨i + 1, by omega, by omega, rfl, by go_num, BB.out⟩
            case measure => simp [intOf]; omega
          · obtain rfl : i = k := by omega
            have ii1 : ¬ (i : Int) < (i : Int) := by omega
            clear hlt hi1 hi2
            have vn := CC.out.vn
            have hsum := CC.out.sum
            have hmb := CC.out.mb
            have hvb := CC.out.vb i
            have ht1 := CC.out.t1
            have hu1 := CC.out.u1
            have ht2 := CC.out.t2
            have hu2 := CC.out.u2
            have et : ((z (i + 1) : Nat) : Int) - 48 = (t : Int) := by omega
            have eu : ((z (i + 2) : Nat) : Int) - 48 = (u : Int) := by omega
            obtain ⟨k1, hk1⟩ : ∃ k1 : Nat, ((V i : Nat) : Int) * 100 = (k1 : Int) := ⟨V i * 100, by omega⟩
            obtain ⟨k2, hk2⟩ : ∃ k2 : Nat, ((t : Nat) : Int) * 10 = (k2 : Int) := ⟨t * 10, by omega⟩
            obtain ⟨k3, hk3⟩ : ∃ k3 : Nat, (k1 : Int) + (k2 : Int) = (k3 : Int) := ⟨k1 + k2, by omega⟩
            have hk4 : (k3 : Int) + (u : Int) = (m : Int) := by omega
            have b1 : k1 ≤ 10000000000000000000 := by omega
            have b2 : k2 ≤ 90 := by omega
            have b3 : k3 ≤ 9223372036854775808 := by omega
            have z1l : 48 ≤ z (i + 1) := by omega
            have z2l : 48 ≤ z (i + 2) := by omega
            have z1u : z (i + 1) ≤ 57 := by omega
            have z2u : z (i + 2) ≤ 57 := by omega
            clear vn hsum ht1 hu1
            go_wp2
            go_quiet (fail)
            go_wp2
            go_ret3
            exact ⟨rfl, below_drewN BB.out _⟩
      · have hdb : decide ((1 : Int) < (k : Int)) = false := decide_eq_false hd
        go_wp2_with fail
        refine (digit_yes _ _ D1.out.1 D1.out.2).mono ?_
        rintro e w4 ⟨rfl, rfl⟩
        go_wp2_with fail
        refine (digit_yes _ _ D2.out.1 D2.out.2).mono ?_
        rintro e w5 ⟨rfl, rfl⟩
        go_wp2
        go_loopw [9, 10] (fun g j wr => ∃ i : Nat, 0 ≤ i ∧ i ≤ k ∧ g = .int .u64 (V i) ∧ j = .int .i64 i ∧ Below w.heap.size w wr) (fun _ j _ => k - (intOf j).toNat)
        case atStart => exact ⟨0, Nat.le_refl _, by omega, by rw [CC.out.v0]; rfl, rfl, B.out⟩
        case round =>
          obtain ⟨i, hi1, hi2, rfl, rfl, hb⟩ := hrel
          have ii0 : (0 : Int) ≤ (i : Int) := by omega
          have BB : Hid (Below w.heap.size w wr) := hb
          clear hb B
          by_cases hlt : i < k
          · have ii1 : (i : Int) < (k : Int) := by omega
            have ii2 : (i : Int) < (s.size : Int) := by omega
            have vs := CC.out.vs i hi1 hlt
            have vb := CC.out.vb i
            have vb1 := CC.out.vb (i + 1)
            have dg := CC.out.dig i hi1 hlt
            obtain ⟨x, hx⟩ : ∃ x : Nat, ((V i : Nat) : Int) * 10 = (x : Int) := ⟨V i * 10, by omega⟩
            obtain ⟨y, hy⟩ : ∃ y : Nat, ((z i : Nat) : Int) - 48 = (y : Int) := ⟨z i - 48, by omega⟩
            have hxy : (x : Int) + (y : Int) = ((V (i + 1) : Nat) : Int) := by omega
            have hx2 : x ≤ 1000000000000000000 := by omega
            have hy2 : y ≤ 9 := by omega
            clear vs
            go_wp2
            go_roundw
            case rel => exact ⟨i + 1, by omega, by omega, rfl, by go_num, BB.out⟩
            case measure => simp [intOf]; omega
          · obtain rfl : i = k := by omega
            have ii1 : ¬ (i : Int) < (i : Int) := by omega
            clear hlt hi1 hi2
            have vn := CC.out.vn
            have hsum := CC.out.sum
            have hmb := CC.out.mb
            have hvb := CC.out.vb i
            have ht1 := CC.out.t1
            have hu1 := CC.out.u1
            have ht2 := CC.out.t2
            have hu2 := CC.out.u2
            have et : ((z (i + 1) : Nat) : Int) - 48 = (t : Int) := by omega
            have eu : ((z (i + 2) : Nat) : Int) - 48 = (u : Int) := by omega
            obtain ⟨k1, hk1⟩ : ∃ k1 : Nat, ((V i : Nat) : Int) * 100 = (k1 : Int) := ⟨V i * 100, by omega⟩
            obtain ⟨k2, hk2⟩ : ∃ k2 : Nat, ((t : Nat) : Int) * 10 = (k2 : Int) := ⟨t * 10, by omega⟩
            obtain ⟨k3, hk3⟩ : ∃ k3 : Nat, (k1 : Int) + (k2 : Int) = (k3 : Int) := ⟨k1 + k2, by omega⟩
            have hk4 : (k3 : Int) + (u : Int) = (m : Int) := by omega
            have b1 : k1 ≤ 10000000000000000000 := by omega
            have b2 : k2 ≤ 90 := by omega
            have b3 : k3 ≤ 9223372036854775808 := by omega
            have z1l : 48 ≤ z (i + 1) := by omega
            have z2l : 48 ≤ z (i + 2) := by omega
            have z1u : z (i + 1) ≤ 57 := by omega
            have z2u : z (i + 2) ≤ 57 := by omega
            clear vn hsum ht1 hu1
            go_wp2
            go_quiet (fail)
            go_wp2
            go_ret3
            exact ⟨rfl, below_drewN BB.out _⟩
set_option maxHeartbeats 2000000 in
theorem parse_neg (s : ByteArray) (z V : Nat → Nat) (N q t u m : Nat) (w : World) (C : Canon s z V 1 N q t u m) (h45 : z 0 = 45) (hm0 : 0 < m) :
    Calls Tryf.prog 6 #[.string s] w fun e w' => e = .returned (.tuple #[.bool true, .int .u64 (m : Int), .bool true]) ∧ Below w.heap.size w w' := by
  have hidx := C.idx
  have hsz := C.size
  have hlo := C.lo
  have hhi := C.hi
  have hs0 : (0 : Int) < (s.size : Int) := by omega
  have hs3 : (s.size : Int) - (N : Int) = 3 := by omega
  have hn0 : (N : Int) < (s.size : Int) := by omega
  have hn1 : (N : Int) + 1 < (s.size : Int) := by omega
  have hn2 : (N : Int) + 2 < (s.size : Int) := by omega
  have hN17 : N ≤ 18 := by omega
  clear hsz
  have CC : Hid (Canon s z V 1 N q t u m) := C
  clear C
  have z0b : (((z 0 : Nat) : Int) == 45) = true := by rw [h45]; rfl
  have mb0 : ((m : Int) == 0) = false := by simp; omega
  clear h45
  go_enter Tryf.func6, Tryf.ntmps6
  go_wp2
  go_loopw [6] (fun i wr => ∃ k : Nat, 1 ≤ k ∧ k ≤ N ∧ i = .int .i64 k ∧ Below w.heap.size w wr) (fun i _ => N - (intOf i).toNat)
  case atStart => exact ⟨1, Nat.le_refl _, by omega, rfl, Below.refl _ _⟩
  case round =>
    obtain ⟨k, hk1, hk2, rfl, hb⟩ := hrel
    have hi0 : (0 : Int) ≤ (k : Int) := by omega
    have hi1 : (k : Int) < (s.size : Int) := by omega
    by_cases hlt : k < N
    · have D : Hid (48 ≤ z k ∧ z k ≤ 57) := CC.out.dig k hk1 hlt
      have B : Hid (Below w.heap.size w wr) := hb
      clear hb
      go_wp2_with fail
      refine (digit_yes _ _ D.out.1 D.out.2).mono ?_
      rintro e w3 ⟨rfl, rfl⟩
      go_wp2
      go_roundw
      case rel => exact ⟨k + 1, by omega, by omega, by go_num, B.out⟩
      case measure => simp [intOf]; omega
    · obtain rfl : k = N := by omega
      have B : Hid (Below w.heap.size w wr) := hb
      have P : Hid (z k = 46) := CC.out.pt
      clear hb hk1 hk2 hlt
      go_wp2_with fail
      refine (digit_no _ _ P.out).mono ?_
      rintro e w3 ⟨rfl, rfl⟩
      have D1 : Hid (48 ≤ z (k + 1) ∧ z (k + 1) ≤ 57) := by have h1 := CC.out.t1; have h2 := CC.out.t2; exact ⟨by omega, by omega⟩
      have D2 : Hid (48 ≤ z (k + 2) ∧ z (k + 2) ≤ 57) := by have h1 := CC.out.u1; have h2 := CC.out.u2; exact ⟨by omega, by omega⟩
      have pb : (((z k : Nat) : Int) != 46) = false := by rw [P.out]; rfl
      obtain ⟨d, hdd⟩ : ∃ d : Nat, (k : Int) - 1 = (d : Int) := ⟨k - 1, by omega⟩
      have nb0 : ((d : Int) == 0) = false := by simp; omega
      have nb17 : decide (17 < (d : Int)) = false := decide_eq_false (by omega)
      by_cases hd : (1 : Int) < (d : Int)
      · have lb : (((z 1 : Nat) : Int) == 48) = false := by have h1 := CC.out.lead (by omega); simp; omega
        have hdb : decide ((1 : Int) < (d : Int)) = true := decide_eq_true hd
        go_wp2_with fail
        refine (digit_yes _ _ D1.out.1 D1.out.2).mono ?_
        rintro e w4 ⟨rfl, rfl⟩
        go_wp2_with fail
        refine (digit_yes _ _ D2.out.1 D2.out.2).mono ?_
        rintro e w5 ⟨rfl, rfl⟩
        go_wp2
        go_loopw [9, 10] (fun g j wr => ∃ i : Nat, 1 ≤ i ∧ i ≤ k ∧ g = .int .u64 (V i) ∧ j = .int .i64 i ∧ Below w.heap.size w wr) (fun _ j _ => k - (intOf j).toNat)
        case atStart => exact ⟨1, Nat.le_refl _, by omega, by rw [CC.out.v0]; rfl, rfl, B.out⟩
        case round =>
          obtain ⟨i, hi1, hi2, rfl, rfl, hb⟩ := hrel
          have ii0 : (0 : Int) ≤ (i : Int) := by omega
          have BB : Hid (Below w.heap.size w wr) := hb
          clear hb B
          by_cases hlt : i < k
          · have ii1 : (i : Int) < (k : Int) := by omega
            have ii2 : (i : Int) < (s.size : Int) := by omega
            have vs := CC.out.vs i hi1 hlt
            have vb := CC.out.vb i
            have vb1 := CC.out.vb (i + 1)
            have dg := CC.out.dig i hi1 hlt
            obtain ⟨x, hx⟩ : ∃ x : Nat, ((V i : Nat) : Int) * 10 = (x : Int) := ⟨V i * 10, by omega⟩
            obtain ⟨y, hy⟩ : ∃ y : Nat, ((z i : Nat) : Int) - 48 = (y : Int) := ⟨z i - 48, by omega⟩
            have hxy : (x : Int) + (y : Int) = ((V (i + 1) : Nat) : Int) := by omega
            have hx2 : x ≤ 1000000000000000000 := by omega
            have hy2 : y ≤ 9 := by omega
            clear vs
            go_wp2
            go_roundw
            case rel => exact ⟨i + 1, by omega, by omega, rfl, by go_num, BB.out⟩
            case measure => simp [intOf]; omega
          · obtain rfl : i = k := by omega
            have ii1 : ¬ (i : Int) < (i : Int) := by omega
            clear hlt hi1 hi2
            have vn := CC.out.vn
            have hsum := CC.out.sum
            have hmb := CC.out.mb
            have hvb := CC.out.vb i
            have ht1 := CC.out.t1
            have hu1 := CC.out.u1
            have ht2 := CC.out.t2
            have hu2 := CC.out.u2
            have et : ((z (i + 1) : Nat) : Int) - 48 = (t : Int) := by omega
            have eu : ((z (i + 2) : Nat) : Int) - 48 = (u : Int) := by omega
            obtain ⟨k1, hk1⟩ : ∃ k1 : Nat, ((V i : Nat) : Int) * 100 = (k1 : Int) := ⟨V i * 100, by omega⟩
            obtain ⟨k2, hk2⟩ : ∃ k2 : Nat, ((t : Nat) : Int) * 10 = (k2 : Int) := ⟨t * 10, by omega⟩
            obtain ⟨k3, hk3⟩ : ∃ k3 : Nat, (k1 : Int) + (k2 : Int) = (k3 : Int) := ⟨k1 + k2, by omega⟩
            have hk4 : (k3 : Int) + (u : Int) = (m : Int) := by omega
            have b1 : k1 ≤ 10000000000000000000 := by omega
            have b2 : k2 ≤ 90 := by omega
            have b3 : k3 ≤ 9223372036854775808 := by omega
            have z1l : 48 ≤ z (i + 1) := by omega
            have z2l : 48 ≤ z (i + 2) := by omega
            have z1u : z (i + 1) ≤ 57 := by omega
            have z2u : z (i + 2) ≤ 57 := by omega
            clear vn hsum ht1 hu1
            go_wp2
            go_quiet (fail)
            go_wp2
            go_ret3
            exact ⟨rfl, below_drewN BB.out _⟩
      · have hdb : decide ((1 : Int) < (d : Int)) = false := decide_eq_false hd
        go_wp2_with fail
        refine (digit_yes _ _ D1.out.1 D1.out.2).mono ?_
        rintro e w4 ⟨rfl, rfl⟩
        go_wp2_with fail
        refine (digit_yes _ _ D2.out.1 D2.out.2).mono ?_
        rintro e w5 ⟨rfl, rfl⟩
        go_wp2
        go_loopw [9, 10] (fun g j wr => ∃ i : Nat, 1 ≤ i ∧ i ≤ k ∧ g = .int .u64 (V i) ∧ j = .int .i64 i ∧ Below w.heap.size w wr) (fun _ j _ => k - (intOf j).toNat)
        case atStart => exact ⟨1, Nat.le_refl _, by omega, by rw [CC.out.v0]; rfl, rfl, B.out⟩
        case round =>
          obtain ⟨i, hi1, hi2, rfl, rfl, hb⟩ := hrel
          have ii0 : (0 : Int) ≤ (i : Int) := by omega
          have BB : Hid (Below w.heap.size w wr) := hb
          clear hb B
          by_cases hlt : i < k
          · have ii1 : (i : Int) < (k : Int) := by omega
            have ii2 : (i : Int) < (s.size : Int) := by omega
            have vs := CC.out.vs i hi1 hlt
            have vb := CC.out.vb i
            have vb1 := CC.out.vb (i + 1)
            have dg := CC.out.dig i hi1 hlt
            obtain ⟨x, hx⟩ : ∃ x : Nat, ((V i : Nat) : Int) * 10 = (x : Int) := ⟨V i * 10, by omega⟩
            obtain ⟨y, hy⟩ : ∃ y : Nat, ((z i : Nat) : Int) - 48 = (y : Int) := ⟨z i - 48, by omega⟩
            have hxy : (x : Int) + (y : Int) = ((V (i + 1) : Nat) : Int) := by omega
            have hx2 : x ≤ 1000000000000000000 := by omega
            have hy2 : y ≤ 9 := by omega
            clear vs
            go_wp2
            go_roundw
            case rel => exact ⟨i + 1, by omega, by omega, rfl, by go_num, BB.out⟩
            case measure => simp [intOf]; omega
          · obtain rfl : i = k := by omega
            have ii1 : ¬ (i : Int) < (i : Int) := by omega
            clear hlt hi1 hi2
            have vn := CC.out.vn
            have hsum := CC.out.sum
            have hmb := CC.out.mb
            have hvb := CC.out.vb i
            have ht1 := CC.out.t1
            have hu1 := CC.out.u1
            have ht2 := CC.out.t2
            have hu2 := CC.out.u2
            have et : ((z (i + 1) : Nat) : Int) - 48 = (t : Int) := by omega
            have eu : ((z (i + 2) : Nat) : Int) - 48 = (u : Int) := by omega
            obtain ⟨k1, hk1⟩ : ∃ k1 : Nat, ((V i : Nat) : Int) * 100 = (k1 : Int) := ⟨V i * 100, by omega⟩
            obtain ⟨k2, hk2⟩ : ∃ k2 : Nat, ((t : Nat) : Int) * 10 = (k2 : Int) := ⟨t * 10, by omega⟩
            obtain ⟨k3, hk3⟩ : ∃ k3 : Nat, (k1 : Int) + (k2 : Int) = (k3 : Int) := ⟨k1 + k2, by omega⟩
            have hk4 : (k3 : Int) + (u : Int) = (m : Int) := by omega
            have b1 : k1 ≤ 10000000000000000000 := by omega
            have b2 : k2 ≤ 90 := by omega
            have b3 : k3 ≤ 9223372036854775808 := by omega
            have z1l : 48 ≤ z (i + 1) := by omega
            have z2l : 48 ≤ z (i + 2) := by omega
            have z1u : z (i + 1) ≤ 57 := by omega
            have z2u : z (i + 2) ≤ 57 := by omega
            clear vn hsum ht1 hu1
            go_wp2
            go_quiet (fail)
            go_wp2
            go_ret3
            exact ⟨rfl, below_drewN BB.out _⟩
end Go.Proofs.Qxb6630554aFmt
