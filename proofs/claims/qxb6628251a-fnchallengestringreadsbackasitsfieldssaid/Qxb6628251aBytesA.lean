/- The walk of the function that a program laid ahead of the law: whatever it answers, it returns and turns nothing. -/
import Derived.Test.Qxb6628251aFit
namespace Go.Proofs.Qxb6628251a
open Go.RowKit

set_option maxHeartbeats 8000000 in
set_option maxRecDepth 100000 in
theorem bytes5_any (s0 : ByteArray) (s1 : ByteArray) (a2 : Option Addr) (n2 c2 : Nat) (f2 : Nat → ByteArray) (a3 : Option Addr) (n3 c3 : Nat) (f3 : Nat → ByteArray) (a4 : Option Addr) (n4 c4 : Nat) (g4 : Nat → Sl) (f4 : Nat → Nat → ByteArray) (s5 : ByteArray) (w : World) (s2 : Strs w a2 n2 f2) (s3 : Strs w a3 n3 f3) (s4 : Nest w a4 n4 g4 f4) :
    Calls Try.prog 5 #[.string s0, .string s1, .slice a2 n2 c2, .slice a3 n3 c3, .slice a4 n4 c4, .string s5] w fun e w' => SomeBool e ∧ w' = w := by
  have S2 : Hid (Strs w a2 n2 f2) := s2
  have S3 : Hid (Strs w a3 n3 f3) := s3
  have S4 : Hid (Nest w a4 n4 g4 f4) := s4
  clear s2 s3 s4
  go_enter Try.func5, Try.ntmps5
  go_wp2
  · go_ret; exact ⟨⟨_, rfl⟩, rfl⟩
  · go_ret; exact ⟨⟨_, rfl⟩, rfl⟩
  · go_ret; exact ⟨⟨_, rfl⟩, rfl⟩
  · go_ret; exact ⟨⟨_, rfl⟩, rfl⟩
  · go_ret; exact ⟨⟨_, rfl⟩, rfl⟩
  go_loop [13, 14] (fun zz i => ∃ (z : Int) (k : Nat), 0 ≤ z ∧ z ≤ 1048576 ∧ k ≤ n2 ∧ zz = .int .i64 z ∧ i = .int .i64 k) (fun _ i => n2 - (intOf i).toNat)
  case atStart => exact ⟨_, 0, by omega, by omega, Nat.zero_le _, rfl, rfl⟩
  case round =>
    obtain ⟨z, k, hz0, hz1, hk, rfl, rfl⟩ := hrel
    by_cases hlt : k < n2
    · rcases S2.out with h | ⟨b, o, rfl, hb, hc⟩
      · omega
      have hcx := hc k hlt
      have hi : (k : Int) < (n2 : Int) := by omega
      clear hc S2 S3 S4
      go_wp2
      · go_ret; exact ⟨⟨_, rfl⟩, rfl⟩
      · go_ret; exact ⟨⟨_, rfl⟩, rfl⟩
      go_round
      case rel => exact ⟨_, k + 1, by omega, by omega, by omega, rfl, by go_num⟩
      case measure => simp [intOf]; omega
    · clear S2
      go_wp2
      · go_ret; exact ⟨⟨_, rfl⟩, rfl⟩
      · go_ret; exact ⟨⟨_, rfl⟩, rfl⟩
      go_loop [13, 15] (fun zz i => ∃ (z : Int) (k : Nat), 0 ≤ z ∧ z ≤ 1048576 ∧ k ≤ n3 ∧ zz = .int .i64 z ∧ i = .int .i64 k) (fun _ i => n3 - (intOf i).toNat)
      case atStart => exact ⟨_, 0, by omega, by omega, Nat.zero_le _, rfl, rfl⟩
      case round =>
        obtain ⟨z, k, hz0, hz1, hk, rfl, rfl⟩ := hrel
        by_cases hlt : k < n3
        · rcases S3.out with h | ⟨b, o, rfl, hb, hc⟩
          · omega
          have hcx := hc k hlt
          have hi : (k : Int) < (n3 : Int) := by omega
          clear hc S3 S4
          go_wp2
          · go_ret; exact ⟨⟨_, rfl⟩, rfl⟩
          · go_ret; exact ⟨⟨_, rfl⟩, rfl⟩
          go_round
          case rel => exact ⟨_, k + 1, by omega, by omega, by omega, rfl, by go_num⟩
          case measure => simp [intOf]; omega
        · clear S3
          go_wp2
          · go_ret; exact ⟨⟨_, rfl⟩, rfl⟩
          · go_ret; exact ⟨⟨_, rfl⟩, rfl⟩
          go_loop [13, 16, 17] (fun zz i _j => ∃ (z : Int) (k : Nat), 0 ≤ z ∧ z ≤ 1048576 ∧ k ≤ n4 ∧ zz = .int .i64 z ∧ i = .int .i64 k) (fun _ i _ => n4 - (intOf i).toNat)
          case atStart => exact ⟨_, 0, by omega, by omega, Nat.zero_le _, rfl, rfl⟩
          case round =>
            obtain ⟨z, k, hz0, hz1, hk, rfl, rfl⟩ := hrel
            by_cases hlt : k < n4
            · rcases S4.out with h | ⟨b, o, rfl, hb, hc⟩
              · omega
              obtain ⟨hcx, hst⟩ := hc k hlt
              have ST : Hid (Strs w (g4 k).at_ (g4 k).len (f4 k)) := hst
              clear hst
              generalize g4 k = q at *
              have hi : (k : Int) < (n4 : Int) := by omega
              clear hc S4
              go_wp2
              · go_ret; exact ⟨⟨_, rfl⟩, rfl⟩
              · go_ret; exact ⟨⟨_, rfl⟩, rfl⟩
              go_loop [13, 17] (fun zz i => ∃ (z : Int) (m : Nat), 0 ≤ z ∧ z ≤ 1048576 ∧ m ≤ q.len ∧ zz = .int .i64 z ∧ i = .int .i64 m) (fun _ i => q.len - (intOf i).toNat)
              case atStart => exact ⟨_, 0, by omega, by omega, Nat.zero_le _, rfl, rfl⟩
              case round =>
                obtain ⟨z, m, hz0, hz1, hm, rfl, rfl⟩ := hrel
                by_cases hlt2 : m < q.len
                · obtain ⟨qa, ql, qc⟩ := q
                  rcases ST.out with h | ⟨b2, o2, h2, hb2, hc2⟩
                  · simp at h hlt2; omega
                  have h2' : qa = some ⟨b2, o2, none⟩ := h2
                  subst h2'
                  have hcx2 := hc2 m hlt2
                  have hi2 : (m : Int) < (ql : Int) := by simp at hlt2; omega
                  clear hc2 ST h2
                  go_wp2
                  · go_ret; exact ⟨⟨_, rfl⟩, rfl⟩
                  · go_ret; exact ⟨⟨_, rfl⟩, rfl⟩
                  go_round
                  case rel => exact ⟨_, m + 1, by omega, by omega, by simp at hlt2 ⊢; omega, rfl, by go_num⟩
                  case measure => simp [intOf]; omega
                · go_wp2
                  go_round
                  case rel => exact ⟨_, k + 1, hz0, hz1, by omega, rfl, by go_num⟩
                  case measure => simp [intOf]; omega
            · clear S4
              go_wp2
              · go_ret; exact ⟨⟨_, rfl⟩, rfl⟩
              · go_ret; exact ⟨⟨_, rfl⟩, rfl⟩
              go_ret
              exact ⟨⟨_, rfl⟩, rfl⟩

end Go.Proofs.Qxb6628251a
