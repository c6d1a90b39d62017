/- Rows that a call owns and appends to, each told by its block. -/
import Derived.Test.Qxb6628251aAppend
namespace Go.Proofs.Qxb6628251a
open Go.RowKit

theorem Try.info5 : (Try.prog.info? 5).map (fun i => (i.zero, i.size, i.bytes)) = some (some (.int .u8 0), 1, 1) := by kernel_rfl

/-- The slice v owns the cells xs, in block G (none: it is nil). -/
def Own (e : TypeId) (w : World) (v : Value) (xs : List Value) (G : Option Nat) : Prop := v.ownBlock = G ∧ w.ownsRow 0 e 1 v xs.length xs

theorem own_nil (e : TypeId) (w : World) : Own e w (.slice none 0 0) [] none := ⟨rfl, World.ownsRow_nil w 0 e 1⟩

theorem Own.kept {e : TypeId} {w w' : World} {v : Value} {xs : List Value} {G R : Option Nat} (h : Own e w v xs G) (hg : w.grownBy w' R) (hne : G = none ∨ G ≠ R) : Own e w' v xs G :=
  ⟨h.1, h.2.kept hg (by rw [h.1]; exact hne)⟩

theorem Own.alloc {e : TypeId} {w : World} {v : Value} {xs : List Value} {G : Option Nat} (h : Own e w v xs G) (o : Obj) : Own e (w.alloc o) v xs G := ⟨h.1, h.2.alloc o⟩

theorem Own.lt {e : TypeId} {w : World} {v : Value} {xs : List Value} {g : Nat} (h : Own e w v xs (some g)) : g < w.heap.size := (h.2.lt g h.1).2

/-- The block bears the element type. -/
theorem Own.block {e : TypeId} {w : World} {v : Value} {xs : List Value} {g : Nat} (h : Own e w v xs (some g)) : ∃ cur, w.heap[g]? = some (.cells cur e (0, 0)) := by
  obtain ⟨h1, _, h2⟩ := h
  rcases h2 with ⟨rfl, _⟩ | ⟨g', cap, cur, rfl, _, hh, _⟩
  · cases h1
  · simp [Value.ownBlock] at h1
    subst h1
    exact ⟨cur, hh⟩

theorem Own.apart {e e' : TypeId} {w : World} {v v' : Value} {xs xs' : List Value} {G G' : Option Nat} (h : Own e w v xs G) (h' : Own e' w v' xs' G') (hne : e ≠ e') : G = none ∨ G ≠ G' := by
  cases G with
  | none => exact .inl rfl
  | some g =>
    refine .inr fun he => ?_
    subst he
    obtain ⟨c1, b1⟩ := h.block
    obtain ⟨c2, b2⟩ := h'.block
    rw [b1] at b2
    simp at b2
    exact hne b2.2

/-- A world that has grown, and in which block R alone may have been written. -/
theorem grown_trans {a b c : World} {R : Option Nat} (h : a.grownBy b R) (k : b.grownBy c R) : a.grownBy c R :=
  ⟨k.os.trans h.os, k.tape.trans h.tape, k.output.trans h.output, Nat.le_trans h.size k.size, fun i hi hne => (k.block i (by have := h.size; omega) hne).trans (h.block i hi hne)⟩

theorem Own.form {e : TypeId} {w : World} {v : Value} {xs : List Value} {G : Option Nat} (h : Own e w v xs G) : (v = .slice none 0 0 ∧ xs = [] ∧ G = none) ∨ ∃ g cap, v = .slice (some ⟨g, 0, none⟩) xs.length cap ∧ G = some g := by
  obtain ⟨h1, h2, h3⟩ := h
  rcases h3 with ⟨rfl, h0⟩ | ⟨g, cap, cur, rfl, _⟩
  · exact .inl ⟨rfl, List.length_eq_zero_iff.1 h0, h1.symm⟩
  · exact .inr ⟨g, cap, rfl, h1.symm⟩

/-- THE APPEND, with the block told. -/
theorem own_append {w : World} (t ty e : TypeId) (z : Value) (bytes : Nat) (ht : Try.prog.underlying t = some (.slice e)) (hinfo : (Try.prog.info? e).map (fun i => (i.zero, i.size, i.bytes)) = some (some z, 1, bytes)) (hz1 : z.cells.size = 1)
    {v : Value} {xs : List Value} {G : Option Nat} (h : Own e w v xs G) (ad : Addr) (c : Nat) (news : List Value) (hn0 : 0 < news.length) (hnews : ∀ j u, news[j]? = some u → w.cell? (ad.add j) = some u) (h1 : ∀ u ∈ news, u.oneCell' = true)
    (h63 : xs.length + news.length ≤ 1099511627776) (hbytes : bytes ≤ 16) :
    ∃ v' w' G', (Builtin.append_ #[t, t] ty #[v, .slice (some ad) news.length c]).run Try.prog w = .ok v' w' ∧ Own e w' v' (xs ++ news) G' ∧ w.grownBy w' G ∧ (G' = G ∨ G' = some w.heap.size) := by
  obtain ⟨i, hi, hzz⟩ := Option.map_eq_some_iff.1 hinfo
  simp only [Prod.mk.injEq] at hzz
  obtain ⟨hz, hs, hb⟩ := hzz
  have hby : (xs.length + news.length) * bytes ≤ 140737488355328 := Nat.le_trans (Nat.mul_le_mul_left _ hbytes) (by omega)
  obtain ⟨v', w', hr, ho, hg, hiff⟩ := run_append_own (P := Try.prog) w 0 t ty e i z 1 bytes ht hi hz hs hb hz1 (by decide) v xs.length xs h.2 ad news.length c news (by omega) hnews h1 (by unfold maxLen; omega) hby (Nat.zero_le _)
  have hG := h.1
  refine ⟨v', w', v'.ownBlock, hr, ⟨rfl, by rw [List.length_append]; exact ho⟩, by rw [← hG]; exact hg, ?_⟩
  rcases h.2.2 with ⟨rfl, hx⟩ | ⟨g, cap, cur, rfl, _, hh, hnc, hcm, hcs, htk⟩
  · have hr2 := run_append_nil (P := Try.prog) w t ty e i z ht hi hz ad news.length c news (by rw [hs]; omega) hnews hn0 (by omega) (by rw [hb]; exact Nat.le_trans (Nat.mul_le_mul_left _ hbytes) (by omega))
    rw [hr2] at hr
    simp at hr
    rw [← hr.1]
    exact .inr rfl
  · by_cases hroom : xs.length + news.length ≤ cap
    · have hr2 := run_append_room (P := Try.prog) w t ty e i ht hi g xs.length cap cur hh ad news.length c news (by rw [hs]; omega) hnews h1 hroom (by rw [hs]; omega)
      rw [hr2] at hr
      simp at hr
      rw [← hr.1, ← hG]
      exact .inl rfl
    · have hr2 := run_append_grow (P := Try.prog) w t ty e i z ht hi hz ⟨g, 0, none⟩ xs.length cap xs (by rw [hs]; omega) (h.2.cells (g := g) rfl) ad news.length c news (by rw [hs]; omega) hnews (by omega) (by omega) (growslice_fits (by omega) (by rw [hb]; exact hby))
      rw [hr2] at hr
      simp at hr
      rw [← hr.1]
      exact .inr rfl

theorem new_cells (w0 : World) (arr : Array Value) (e : TypeId) (j : Nat) (u : Value) (hu : arr.toList[j]? = some u) : (w0.alloc (.cells arr e)).cell? ((⟨w0.heap.size, 0, none⟩ : Addr).add j) = some u := by
  rw [WideShapes.add_plain, Nat.zero_add]
  have hb : (w0.alloc (.cells arr e)).heap[w0.heap.size]? = some (.cells arr e (0, 0)) := Deep.blk_alloc_new _ _
  rw [cell_of_row _ w0.heap.size j arr e (0, 0) hb]
  simpa using hu

/-- 'append(v, x, y, ..)': what is appended lies in a block just made. -/
theorem wpList_push {ops : Array Oper} {rest : List Oper} {o : Oper} {a : Act} {Q : Exit → Act → World → Prop} (hgd : o.guard = none) (s x : Operand) (t e : TypeId) (z : Value) (bytes : Nat)
    (ho : o.op = .call { callee := .builtin .append, args := #[s, x], argTypes := #[t, t] }) (ht : Try.prog.underlying t = some (.slice e)) (hinfo : (Try.prog.info? e).map (fun i => (i.zero, i.size, i.bytes)) = some (some z, 1, bytes)) (hz1 : z.cells.size = 1) (hbytes : bytes ≤ 16)
    (w0 : World) (arr : Array Value) (v : Value) (xs : List Value) (G : Option Nat) (hs : a.eval s = v) (hx : a.eval x = .slice (some ⟨w0.heap.size, 0, none⟩) arr.size arr.size) (hown : Own e w0 v xs G) (hn0 : 0 < arr.size) (h1 : ∀ u ∈ arr.toList, u.oneCell' = true)
    (h63 : xs.length + arr.size ≤ 1099511627776)
    (h : ∀ v' w' G', Own e w' v' (xs ++ arr.toList) G' → w0.grownBy w' G → (G' = G ∨ ∃ k, G' = some k ∧ w0.heap.size ≤ k) → wpList Try.prog ops Q rest (a.put o.dst v') w') : wpList Try.prog ops Q (o :: rest) a (w0.alloc (.cells arr e)) := by
  refine wpList_plain hgd fun K hK => ?_
  obtain ⟨v', w', G', hr, h2, h3, h4⟩ := own_append t o.type e z bytes ht hinfo hz1 (hown.alloc (.cells arr e)) ⟨w0.heap.size, 0, none⟩ arr.size arr.toList (by simpa using hn0) (new_cells w0 arr e) h1 (by simpa using h63) hbytes
  rw [Array.length_toList] at hr
  unfold Oper.wp execOp
  simp only [ho, resolve, invoke, builtin, Sem.run_bind, Sem.run_pure, Result.andThen_ok, List.map_toArray, List.map_cons, List.map_nil, hs, hx, hr]
  refine hK _ _ (h v' w' G' h2 (grown_trans (World.grownBy_alloc w0 _ G) h3) ?_)
  rcases h4 with h4 | h4
  · exact .inl h4
  · exact .inr ⟨_, h4, by simp⟩

/-- 'append(v, b, ..)' of bytes. -/
theorem wpList_push_bytes {ops : Array Oper} {rest : List Oper} {o : Oper} {a : Act} {Q : Exit → Act → World → Prop} (hgd : o.guard = none) (s x : Operand) (ho : o.op = .call { callee := .builtin .append, args := #[s, x], argTypes := #[47, 47] })
    (w0 : World) (arr : Array Value) (v : Value) (xs : List Value) (G : Option Nat) (hs : a.eval s = v) (hx : a.eval x = .slice (some ⟨w0.heap.size, 0, none⟩) arr.size arr.size) (hown : Own 5 w0 v xs G) (hn0 : 0 < arr.size) (h1 : ∀ u ∈ arr.toList, u.oneCell' = true)
    (h63 : xs.length + arr.size ≤ 1099511627776)
    (h : ∀ v' w' G', Own 5 w' v' (xs ++ arr.toList) G' → w0.grownBy w' G → (G' = G ∨ ∃ k, G' = some k ∧ w0.heap.size ≤ k) → wpList Try.prog ops Q rest (a.put o.dst v') w') : wpList Try.prog ops Q (o :: rest) a (w0.alloc (.cells arr 5)) :=
  wpList_push hgd s x 47 5 (.int .u8 0) 1 ho Try.underlying47 Try.info5 rfl (by decide) w0 arr v xs G hs hx hown hn0 h1 h63 h

/-- 'append(v, s)' of a string. -/
theorem wpList_push_str {ops : Array Oper} {rest : List Oper} {o : Oper} {a : Act} {Q : Exit → Act → World → Prop} (hgd : o.guard = none) (s x : Operand) (ho : o.op = .call { callee := .builtin .append, args := #[s, x], argTypes := #[22, 22] })
    (w0 : World) (b : ByteArray) (v : Value) (xs : List Value) (G : Option Nat) (hs : a.eval s = v) (hx : a.eval x = .slice (some ⟨w0.heap.size, 0, none⟩) 1 1) (hown : Own 9 w0 v xs G)
    (h63 : xs.length + 1 ≤ 1099511627776)
    (h : ∀ v' w' G', Own 9 w' v' (xs ++ [.string b]) G' → w0.grownBy w' G → (G' = G ∨ ∃ k, G' = some k ∧ w0.heap.size ≤ k) → wpList Try.prog ops Q rest (a.put o.dst v') w') : wpList Try.prog ops Q (o :: rest) a (w0.alloc (.cells #[.string b] 9)) :=
  wpList_push hgd s x 22 9 (.string ⟨#[]⟩) 16 ho Try.underlying22 Try.info9 rfl (by decide) w0 #[.string b] v xs G hs hx hown (by simp) (by intro u hu; simp at hu; subst hu; rfl) h63 h

/-- 'string(v)' of bytes that are owned. -/
theorem conv_own {w : World} {v : Value} {l : List UInt8} {G : Option Nat} (h : Own 5 w v (Lib.byteCells l) G) : (convert 47 9 v).run Try.prog w = .ok (.string ⟨l.toArray⟩) w := by
  rcases h.form with ⟨rfl, hx, _⟩ | ⟨g, cap, rfl, hG⟩
  · have : l = [] := by
      have := congrArg List.length hx
      rw [Lib.byteCells_length] at this
      exact List.length_eq_zero_iff.1 this
    subst this
    rw [run_convert_bytes_string w 47 9 5 none 0 0 Try.underlying47 Try.underlying5 Try.underlying9]
    simp [Conv.bytesToString]
    rfl
  · rw [Lib.byteCells_length]
    refine run_convert_bytes_back w 47 9 5 ⟨g, 0, none⟩ cap l Try.underlying47 Try.underlying5 Try.underlying9 (fun j hj => ?_)
    refine h.2.cells (g := g) (by rw [h.1]; exact hG) j _ ?_
    simp [Lib.byteCells, hj]

/-- A row of strings, read as 'Strs' has it. -/
theorem own_strs {w : World} {v : Value} {ss : List ByteArray} {G : Option Nat} (h : Own 9 w v (ss.map Value.string) G) : ∃ a cap, v = .slice a ss.length cap ∧ Strs w a ss.length (fun i => ss.getD i ByteArray.empty) := by
  rcases h.form with ⟨rfl, hx, _⟩ | ⟨g, cap, rfl, hG⟩
  · have : ss = [] := by simpa using hx
    subst this
    exact ⟨none, 0, rfl, .inl rfl⟩
  · subst hG
    refine ⟨some ⟨g, 0, none⟩, cap, by rw [List.length_map], .inr ⟨g, 0, rfl, h.lt, fun i hi => ?_⟩⟩
    have := h.2.cells (g := g) h.1 i (.string (ss.getD i ByteArray.empty)) (by simp [hi])
    rw [WideShapes.add_plain] at this
    exact this

end Go.Proofs.Qxb6628251a
