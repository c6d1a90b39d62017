/- The walk of the function that a program laid ahead of the law: whatever it answers, it returns and turns nothing. -/
import Derived.Test.Qxb6628251aFit
namespace Go.Proofs.Qxb6628251a
open Go.RowKit

set_option maxHeartbeats 8000000 in
set_option maxRecDepth 100000 in
theorem bytes14_any (s0 : ByteArray) (s1 : ByteArray) (s2 : ByteArray) (a3 : Option Addr) (n3 c3 : Nat) (f3 : Nat → ByteArray) (a4 : Option Addr) (n4 c4 : Nat) (f4 : Nat → ByteArray) (a5 : Option Addr) (n5 c5 : Nat) (g5 : Nat → Sl) (f5 : Nat → Nat → ByteArray) (a6 : Option Addr) (n6 c6 : Nat) (f6 : Nat → ByteArray) (a7 : Option Addr) (n7 c7 : Nat) (f7 : Nat → ByteArray) (a8 : Option Addr) (n8 c8 : Nat) (g8 : Nat → Sl) (f8 : Nat → Nat → ByteArray) (w : World) (s3 : Strs w a3 n3 f3) (s4 : Strs w a4 n4 f4) (s5 : Nest w a5 n5 g5 f5) (s6 : Strs w a6 n6 f6) (s7 : Strs w a7 n7 f7) (s8 : Nest w a8 n8 g8 f8) :
    Calls Try.prog 14 #[.string s0, .string s1, .string s2, .slice a3 n3 c3, .slice a4 n4 c4, .slice a5 n5 c5, .slice a6 n6 c6, .slice a7 n7 c7, .slice a8 n8 c8] w fun e w' => SomeBool e ∧ w' = w := by
  have S3 : Hid (Strs w a3 n3 f3) := s3
  have S4 : Hid (Strs w a4 n4 f4) := s4
  have S5 : Hid (Nest w a5 n5 g5 f5) := s5
  have S6 : Hid (Strs w a6 n6 f6) := s6
  have S7 : Hid (Strs w a7 n7 f7) := s7
  have S8 : Hid (Nest w a8 n8 g8 f8) := s8
  clear s3 s4 s5 s6 s7 s8
  go_enter Try.func14, Try.ntmps14
  go_wp2
  · go_ret; exact ⟨⟨_, rfl⟩, rfl⟩
  · go_ret; exact ⟨⟨_, rfl⟩, rfl⟩
  · go_ret; exact ⟨⟨_, rfl⟩, rfl⟩
  · go_ret; exact ⟨⟨_, rfl⟩, rfl⟩
  · go_ret; exact ⟨⟨_, rfl⟩, rfl⟩
  · go_ret; exact ⟨⟨_, rfl⟩, rfl⟩
  · go_ret; exact ⟨⟨_, rfl⟩, rfl⟩
  go_loop [19, 20] (fun zz i => ∃ (z : Int) (k : Nat), 0 ≤ z ∧ z ≤ 1048576 ∧ k ≤ n3 ∧ zz = .int .i64 z ∧ i = .int .i64 k) (fun _ i => n3 - (intOf i).toNat)
  case atStart => exact ⟨_, 0, by omega, by omega, Nat.zero_le _, rfl, rfl⟩
  case round =>
    obtain ⟨z, k, hz0, hz1, hk, rfl, rfl⟩ := hrel
    by_cases hlt : k < n3
    · rcases S3.out with h | ⟨b, o, rfl, hb, hc⟩
      · omega
      have hcx := hc k hlt
      have hi : (k : Int) < (n3 : Int) := by omega
      clear hc S3 S4 S5 S6 S7 S8
      go_wp2
      · go_ret; exact ⟨⟨_, rfl⟩, rfl⟩
      · go_ret; exact ⟨⟨_, rfl⟩, rfl⟩
      go_round
      case rel => exact ⟨_, k + 1, by omega, by omega, by omega, rfl, by go_num⟩
      case measure => simp [intOf]; omega
    · clear S3
      go_wp2
      · go_ret; exact ⟨⟨_, rfl⟩, rfl⟩
      · go_ret; exact ⟨⟨_, rfl⟩, rfl⟩
      go_loop [19, 21] (fun zz i => ∃ (z : Int) (k : Nat), 0 ≤ z ∧ z ≤ 1048576 ∧ k ≤ n4 ∧ zz = .int .i64 z ∧ i = .int .i64 k) (fun _ i => n4 - (intOf i).toNat)
      case atStart => exact ⟨_, 0, by omega, by omega, Nat.zero_le _, rfl, rfl⟩
      case round =>
        obtain ⟨z, k, hz0, hz1, hk, rfl, rfl⟩ := hrel
        by_cases hlt : k < n4
        · rcases S4.out with h | ⟨b, o, rfl, hb, hc⟩
          · omega
          have hcx := hc k hlt
          have hi : (k : Int) < (n4 : Int) := by omega
          clear hc S4 S5 S6 S7 S8
          go_wp2
          · go_ret; exact ⟨⟨_, rfl⟩, rfl⟩
          · go_ret; exact ⟨⟨_, rfl⟩, rfl⟩
          go_round
          case rel => exact ⟨_, k + 1, by omega, by omega, by omega, rfl, by go_num⟩
          case measure => simp [intOf]; omega
        · clear S4
          go_wp2
          · go_ret; exact ⟨⟨_, rfl⟩, rfl⟩
          · go_ret; exact ⟨⟨_, rfl⟩, rfl⟩
          go_loop [19, 22, 23] (fun zz i _j => ∃ (z : Int) (k : Nat), 0 ≤ z ∧ z ≤ 1048576 ∧ k ≤ n5 ∧ zz = .int .i64 z ∧ i = .int .i64 k) (fun _ i _ => n5 - (intOf i).toNat)
          case atStart => exact ⟨_, 0, by omega, by omega, Nat.zero_le _, rfl, rfl⟩
          case round =>
            obtain ⟨z, k, hz0, hz1, hk, rfl, rfl⟩ := hrel
            by_cases hlt : k < n5
            · rcases S5.out with h | ⟨b, o, rfl, hb, hc⟩
              · omega
              obtain ⟨hcx, hst⟩ := hc k hlt
              have ST : Hid (Strs w (g5 k).at_ (g5 k).len (f5 k)) := hst
              clear hst
              generalize g5 k = q at *
              have hi : (k : Int) < (n5 : Int) := by omega
              clear hc S5 S6 S7 S8
              go_wp2
              · go_ret; exact ⟨⟨_, rfl⟩, rfl⟩
              · go_ret; exact ⟨⟨_, rfl⟩, rfl⟩
              go_loop [19, 23] (fun zz i => ∃ (z : Int) (m : Nat), 0 ≤ z ∧ z ≤ 1048576 ∧ m ≤ q.len ∧ zz = .int .i64 z ∧ i = .int .i64 m) (fun _ i => q.len - (intOf i).toNat)
              case atStart => exact ⟨_, 0, by omega, by omega, Nat.zero_le _, rfl, rfl⟩
              case round =>
                obtain ⟨z, m, hz0, hz1, hm, rfl, rfl⟩ := hrel
                by_cases hlt2 : m < q.len
                · obtain ⟨qa, ql, qc⟩ := q
                  rcases ST.out with h | ⟨b2, o2, h2, hb2, hc2⟩
                  · simp at h hlt2; omega
                  have h2' : qa = some ⟨b2, o2, none⟩ := h2
                  subst h2'
                  have hcx2 := hc2 m hlt2
                  have hi2 : (m : Int) < (ql : Int) := by simp at hlt2; omega
                  clear hc2 ST h2
                  go_wp2
                  · go_ret; exact ⟨⟨_, rfl⟩, rfl⟩
                  · go_ret; exact ⟨⟨_, rfl⟩, rfl⟩
                  go_round
                  case rel => exact ⟨_, m + 1, by omega, by omega, by simp at hlt2 ⊢; omega, rfl, by go_num⟩
                  case measure => simp [intOf]; omega
                · go_wp2
                  go_round
                  case rel => exact ⟨_, k + 1, hz0, hz1, by omega, rfl, by go_num⟩
                  case measure => simp [intOf]; omega
            · clear S5
              go_wp2
              · go_ret; exact ⟨⟨_, rfl⟩, rfl⟩
              · go_ret; exact ⟨⟨_, rfl⟩, rfl⟩
              go_loop [19, 24] (fun zz i => ∃ (z : Int) (k : Nat), 0 ≤ z ∧ z ≤ 1048576 ∧ k ≤ n6 ∧ zz = .int .i64 z ∧ i = .int .i64 k) (fun _ i => n6 - (intOf i).toNat)
              case atStart => exact ⟨_, 0, by omega, by omega, Nat.zero_le _, rfl, rfl⟩
              case round =>
                obtain ⟨z, k, hz0, hz1, hk, rfl, rfl⟩ := hrel
                by_cases hlt : k < n6
                · rcases S6.out with h | ⟨b, o, rfl, hb, hc⟩
                  · omega
                  have hcx := hc k hlt
                  have hi : (k : Int) < (n6 : Int) := by omega
                  clear hc S6 S7 S8
                  go_wp2
                  · go_ret; exact ⟨⟨_, rfl⟩, rfl⟩
                  · go_ret; exact ⟨⟨_, rfl⟩, rfl⟩
                  go_round
                  case rel => exact ⟨_, k + 1, by omega, by omega, by omega, rfl, by go_num⟩
                  case measure => simp [intOf]; omega
                · clear S6
                  go_wp2
                  · go_ret; exact ⟨⟨_, rfl⟩, rfl⟩
                  · go_ret; exact ⟨⟨_, rfl⟩, rfl⟩
                  go_loop [19, 25] (fun zz i => ∃ (z : Int) (k : Nat), 0 ≤ z ∧ z ≤ 1048576 ∧ k ≤ n7 ∧ zz = .int .i64 z ∧ i = .int .i64 k) (fun _ i => n7 - (intOf i).toNat)
                  case atStart => exact ⟨_, 0, by omega, by omega, Nat.zero_le _, rfl, rfl⟩
                  case round =>
                    obtain ⟨z, k, hz0, hz1, hk, rfl, rfl⟩ := hrel
                    by_cases hlt : k < n7
                    · rcases S7.out with h | ⟨b, o, rfl, hb, hc⟩
                      · omega
                      have hcx := hc k hlt
                      have hi : (k : Int) < (n7 : Int) := by omega
                      clear hc S7 S8
                      go_wp2
                      · go_ret; exact ⟨⟨_, rfl⟩, rfl⟩
                      · go_ret; exact ⟨⟨_, rfl⟩, rfl⟩
                      go_round
                      case rel => exact ⟨_, k + 1, by omega, by omega, by omega, rfl, by go_num⟩
                      case measure => simp [intOf]; omega
                    · clear S7
                      go_wp2
                      · go_ret; exact ⟨⟨_, rfl⟩, rfl⟩
                      · go_ret; exact ⟨⟨_, rfl⟩, rfl⟩
                      go_loop [19, 26, 27] (fun zz i _j => ∃ (z : Int) (k : Nat), 0 ≤ z ∧ z ≤ 1048576 ∧ k ≤ n8 ∧ zz = .int .i64 z ∧ i = .int .i64 k) (fun _ i _ => n8 - (intOf i).toNat)
                      case atStart => exact ⟨_, 0, by omega, by omega, Nat.zero_le _, rfl, rfl⟩
                      case round =>
                        obtain ⟨z, k, hz0, hz1, hk, rfl, rfl⟩ := hrel
                        by_cases hlt : k < n8
                        · rcases S8.out with h | ⟨b, o, rfl, hb, hc⟩
                          · omega
                          obtain ⟨hcx, hst⟩ := hc k hlt
                          have ST : Hid (Strs w (g8 k).at_ (g8 k).len (f8 k)) := hst
                          clear hst
                          generalize g8 k = q at *
                          have hi : (k : Int) < (n8 : Int) := by omega
                          clear hc S8
                          go_wp2
                          · go_ret; exact ⟨⟨_, rfl⟩, rfl⟩
                          · go_ret; exact ⟨⟨_, rfl⟩, rfl⟩
                          go_loop [19, 27] (fun zz i => ∃ (z : Int) (m : Nat), 0 ≤ z ∧ z ≤ 1048576 ∧ m ≤ q.len ∧ zz = .int .i64 z ∧ i = .int .i64 m) (fun _ i => q.len - (intOf i).toNat)
                          case atStart => exact ⟨_, 0, by omega, by omega, Nat.zero_le _, rfl, rfl⟩
                          case round =>
                            obtain ⟨z, m, hz0, hz1, hm, rfl, rfl⟩ := hrel
                            by_cases hlt2 : m < q.len
                            · obtain ⟨qa, ql, qc⟩ := q
                              rcases ST.out with h | ⟨b2, o2, h2, hb2, hc2⟩
                              · simp at h hlt2; omega
                              have h2' : qa = some ⟨b2, o2, none⟩ := h2
                              subst h2'
                              have hcx2 := hc2 m hlt2
                              have hi2 : (m : Int) < (ql : Int) := by simp at hlt2; omega
                              clear hc2 ST h2
                              go_wp2
                              · go_ret; exact ⟨⟨_, rfl⟩, rfl⟩
                              · go_ret; exact ⟨⟨_, rfl⟩, rfl⟩
                              go_round
                              case rel => exact ⟨_, m + 1, by omega, by omega, by simp at hlt2 ⊢; omega, rfl, by go_num⟩
                              case measure => simp [intOf]; omega
                            · go_wp2
                              go_round
                              case rel => exact ⟨_, k + 1, hz0, hz1, by omega, rfl, by go_num⟩
                              case measure => simp [intOf]; omega
                        · clear S8
                          go_wp2
                          go_ret
                          exact ⟨⟨_, rfl⟩, rfl⟩

end Go.Proofs.Qxb6628251a
