/- The walks of zzb1HasPrefix and zzb1Mid. -/
import Derived.Test.Qxb6628251aScope
namespace Go.Proofs.Qxb6628251a
open Go.RowKit

theorem hasPrefix_core (s p : ByteArray) (w : World) (h1 : p.size ≤ s.size) (h2 : ((s.extract 0 p.size).toList == p.toList) = true) :
    Calls Try.prog 15 #[.string s, .string p] w fun e w' => e = .returned (.bool true) ∧ w' = w := by
  have h1' : (p.size : Int) ≤ (s.size : Int) := by omega
  go_enter Try.func15, Try.ntmps15
  go_wp2
  go_ret
  exact ⟨rfl, rfl⟩

theorem mid_core (s h tail pre post : ByteArray) (w : World) (a1 : ∀ w, (Op.stringOp .add h ⟨#[44, 115, 99, 111, 112, 101, 61, 34]⟩).run Try.prog w = .ok (.string pre) w) (a2 : ∀ w, (Op.stringOp .add ⟨#[34]⟩ tail).run Try.prog w = .ok (.string post) w)
    (hs : s.size ≤ 1099511627776) (hl : pre.size + post.size ≤ s.size) (h1 : ((s.extract 0 pre.size).toList == pre.toList) = true) (h2 : ((s.extract (s.size - post.size) s.size).toList == post.toList) = true) :
    Calls Try.prog 16 #[.string s, .string h, .string tail] w fun e w' => e = .returned (.tuple #[.string (s.extract pre.size (s.size - post.size)), .bool true]) ∧ w' = w := by
  have g1 : ¬ (s.size : Int) < (pre.size : Int) + (post.size : Int) := by omega
  go_enter Try.func16, Try.ntmps16
  go_wp2
  go_ret2
  exact ⟨rfl, rfl⟩

theorem ext_list (l : List UInt8) (a b : Nat) : (⟨l.toArray⟩ : ByteArray).extract a b = ⟨((l.take b).drop a).toArray⟩ := by
  apply ByteArray.ext
  apply Array.ext'
  simp [ByteArray.data_extract, List.drop_take]

theorem eq_list (l : List UInt8) : ((⟨l.toArray⟩ : ByteArray).toList == (⟨l.toArray⟩ : ByteArray).toList) = true := by simp

theorem hasPrefix_list (p t : List UInt8) (w : World) : Calls Try.prog 15 #[.string ⟨(p ++ t).toArray⟩, .string ⟨p.toArray⟩] w fun e w' => e = .returned (.bool true) ∧ w' = w := by
  refine hasPrefix_core _ _ w (by rw [ba_size, ba_size]; simp) ?_
  rw [ba_size, ext_list]
  simp

theorem mid_list (h m tail : List UInt8) (w : World) (hb : h.length + m.length + tail.length ≤ 1073741824) :
    Calls Try.prog 16 #[.string ⟨(h ++ [44, 115, 99, 111, 112, 101, 61, 34] ++ m ++ [34] ++ tail).toArray⟩, .string ⟨h.toArray⟩, .string ⟨tail.toArray⟩] w fun e w' => e = .returned (.tuple #[.string ⟨m.toArray⟩, .bool true]) ∧ w' = w := by
  have e1 : (⟨(h ++ [44, 115, 99, 111, 112, 101, 61, 34]).toArray⟩ : ByteArray).size = h.length + 8 := by rw [ba_size]; simp
  have e2 : (⟨(34 :: tail).toArray⟩ : ByteArray).size = tail.length + 1 := by rw [ba_size]; simp
  have e3 : (⟨(h ++ [44, 115, 99, 111, 112, 101, 61, 34] ++ m ++ [34] ++ tail).toArray⟩ : ByteArray).size = h.length + 8 + m.length + 1 + tail.length := by rw [ba_size]; simp; omega
  have key := mid_core ⟨(h ++ [44, 115, 99, 111, 112, 101, 61, 34] ++ m ++ [34] ++ tail).toArray⟩ ⟨h.toArray⟩ ⟨tail.toArray⟩ ⟨(h ++ [44, 115, 99, 111, 112, 101, 61, 34]).toArray⟩ ⟨(34 :: tail).toArray⟩ w
    (fun w => by rw [run_string_add_sum w _ _ (by rw [ba_size]; show _ + 8 ≤ _; omega), ba_append])
    (fun w => by rw [run_string_add_sum w _ _ (by have e9 := ba_size tail; show 1 + _ ≤ _; omega), ba_append]; rfl)
    (by rw [e3]; omega) (by rw [e1, e2, e3]; omega)
    (by
      rw [e1, ext_list]
      have : (List.take (h.length + 8) (h ++ [44, 115, 99, 111, 112, 101, 61, 34] ++ m ++ [34] ++ tail)).drop 0 = h ++ [44, 115, 99, 111, 112, 101, 61, 34] := by
        rw [List.drop_zero, List.append_assoc, List.append_assoc]
        exact List.take_left' (by simp)
      rw [this]
      exact eq_list _)
    (by
      rw [e2, e3, ext_list]
      have : (List.take (h.length + 8 + m.length + 1 + tail.length) (h ++ [44, 115, 99, 111, 112, 101, 61, 34] ++ m ++ [34] ++ tail)).drop (h.length + 8 + m.length + 1 + tail.length - (tail.length + 1)) = 34 :: tail := by
        rw [List.take_of_length_le (by simp; omega), List.append_assoc (h ++ [44, 115, 99, 111, 112, 101, 61, 34] ++ m)]
        rw [List.drop_left' (by simp; omega)]
        rfl
      rw [this]
      exact eq_list _)
  rw [e1, e2, e3, ext_list] at key
  have e4 : (List.take (h.length + 8 + m.length + 1 + tail.length - (tail.length + 1)) (h ++ [44, 115, 99, 111, 112, 101, 61, 34] ++ m ++ [34] ++ tail)).drop (h.length + 8) = m := by
    rw [List.append_assoc (h ++ [44, 115, 99, 111, 112, 101, 61, 34] ++ m), List.take_left' (by simp; omega), List.drop_left' (by simp)]
  rw [e4] at key
  exact key

end Go.Proofs.Qxb6628251a
