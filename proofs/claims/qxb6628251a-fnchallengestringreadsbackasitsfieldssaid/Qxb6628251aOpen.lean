/- Opening the arguments: slices of strings, slices of slices of strings. -/
import Derived.Test.Qxb6628251aFit
import Derived.SliceStrings
import Derived.Deep.Slices
namespace Go.Proofs.Qxb6628251a
open Go.ChangeShapes Go.WideShapes Go.ChangeAt Go.RowKit

theorem Try.cells9 : Try.prog.cellsOf 9 = 1 := by kernel_rfl
theorem Try.cells22 : Try.prog.cellsOf 22 = 1 := by kernel_rfl

theorem strs_open {H : Type} {enc : TypeId × Value → H} {W : World} {fuel : Nat} {a : Option Addr} {len cap : Nat} {x : DataW H × List MemPlace} (h : DataW.trod enc Try.prog W 0 (fun _ => true) true fuel 22 [.slice a len cap] = some x) :
    ∃ f, Strs W a len f ∧ len ≤ cap ∧ len ≤ maxLen ∧ (a = none → len = 0 ∧ cap = 0) := by
  rcases open_strings Try.underlying22 Try.underlying9 Try.cells9 h with ⟨hcs, _⟩ | ⟨x, l, c, ss, hcs, _, hl, hm, hz, _, hcell, _⟩
  · simp at hcs
    obtain ⟨rfl, rfl, rfl⟩ := hcs
    exact ⟨fun _ => ByteArray.empty, .inl rfl, Nat.le_refl _, Nat.zero_le _, fun _ => ⟨rfl, rfl⟩⟩
  · simp at hcs
    obtain ⟨rfl, rfl, rfl⟩ := hcs
    simp at hz
    refine ⟨fun i => ss.getD i ByteArray.empty, ?_, hl, by omega, fun h => by cases h⟩
    by_cases h0 : len = 0
    · exact .inl h0
    · obtain ⟨b, off, spot⟩ := x
      have hspot : spot = none := by simpa [Addr.add] using World.cell?_spot (hcell 0 (by omega))
      subst hspot
      exact .inr ⟨b, off, rfl, World.block_lt_of_cell? _ _ (hcell 0 (by omega)), fun i hi => by rw [← add_plain]; exact hcell i (by omega)⟩

theorem nest_open {H : Type} {enc : TypeId × Value → H} {W : World} {fuel : Nat} {a : Option Addr} {len cap : Nat} {x : DataW H × List MemPlace} (h : DataW.trod enc Try.prog W 0 (fun _ => true) true fuel 23 [.slice a len cap] = some x) :
    ∃ g ff, Nest W a len g ff ∧ len ≤ maxLen ∧ (∀ i, i < len → (g i).len ≤ (g i).cap) ∧ (∀ i, i < len → (g i).len ≤ maxLen) := by
  rcases Deep.open_slice1 Try.underlying23 Try.cells22 h with ⟨hcs, _⟩ | ⟨x, l, c, m, n, V, D, Pl, hcs, _, hl, hm, hmm, _, hV⟩
  · simp at hcs
    obtain ⟨rfl, rfl, rfl⟩ := hcs
    exact ⟨fun _ => ⟨none, 0, 0⟩, fun _ _ => ByteArray.empty, .inl rfl, Nat.zero_le _, fun i hi => absurd hi (by omega), fun i hi => absurd hi (by omega)⟩
  · simp at hcs
    obtain ⟨rfl, rfl, rfl⟩ := hcs
    simp at hmm
    have key : ∀ i, i < len → ∃ p : Sl × (Nat → ByteArray), V i = .slice p.1.at_ p.1.len p.1.cap ∧ Strs W p.1.at_ p.1.len p.2 ∧ p.1.len ≤ p.1.cap ∧ p.1.len ≤ maxLen := by
      intro i hi
      have ht := (hV i (by omega)).2
      obtain ⟨a', l', c', e⟩ : ∃ a' l' c', V i = .slice a' l' c' := by
        rcases open_strings Try.underlying22 Try.underlying9 Try.cells9 ht with ⟨hcs, _⟩ | ⟨x', l', c', ss, hcs, _⟩
        · simp at hcs; exact ⟨_, _, _, hcs⟩
        · simp at hcs; exact ⟨_, _, _, hcs⟩
      rw [e] at ht
      obtain ⟨f, h1, h2, h3, _⟩ := strs_open ht
      exact ⟨(⟨a', l', c'⟩, f), e, h1, h2, h3⟩
    have hinh : Inhabited (Sl × (Nat → ByteArray)) := ⟨(⟨none, 0, 0⟩, fun _ => ByteArray.empty)⟩
    obtain ⟨F, hF⟩ := Deep.choose_lt (α := Sl × (Nat → ByteArray)) (p := fun i p => V i = .slice p.1.at_ p.1.len p.1.cap ∧ Strs W p.1.at_ p.1.len p.2 ∧ p.1.len ≤ p.1.cap ∧ p.1.len ≤ maxLen) key
    refine ⟨fun i => (F i).1, fun i => (F i).2, ?_, by omega, fun i hi => (hF i hi).2.2.1, fun i hi => (hF i hi).2.2.2⟩
    by_cases h0 : len = 0
    · exact .inl h0
    · obtain ⟨b, off, spot⟩ := x
      have hspot : spot = none := by simpa [Addr.add] using World.cell?_spot (hV 0 (by omega)).1
      subst hspot
      refine .inr ⟨b, off, rfl, World.block_lt_of_cell? _ _ (hV 0 (by omega)).1, fun i hi => ⟨?_, (hF i hi).2.1⟩⟩
      rw [← add_plain, (hV i (by omega)).1, (hF i hi).1]

end Go.Proofs.Qxb6628251a
