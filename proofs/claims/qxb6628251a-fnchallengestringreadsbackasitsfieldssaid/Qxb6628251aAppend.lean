/- 'append(ab, a...)' of scopes onto a row with room. -/
import Derived.Test.Qxb6628251aScopes
import Derived.Deep.AppendSrc
namespace Go.Proofs.Qxb6628251a
open Go.RowKit

theorem rowIs_setCells {b : Nat} {t : TypeId} {n : Nat} (vs : List Value) : ∀ (o : Nat) {w : World} {f : Nat → Value}, w.rowIs b t n f → (w.setCells b o vs).rowIs b t n (fun j => if o ≤ j ∧ j < o + vs.length then vs.getD (j - o) (.bool false) else f j) := by
  induction vs with
  | nil =>
    intro o w f h
    exact h.congr (fun i _ => by rw [if_neg (by simp)])
  | cons v r ih =>
    intro o w f h
    have h2 := ih (o + 1) (h.set o v)
    refine (show ((w.setCell ⟨b, o, none⟩ v).setCells b (o + 1) r).rowIs b t n _ from h2.congr fun j _ => ?_)
    by_cases hj : j = o
    · subst hj
      rw [if_neg (by omega), if_pos rfl, if_pos (by simp)]
      simp
    · by_cases hr : o + 1 ≤ j ∧ j < o + 1 + r.length
      · rw [if_pos hr, if_pos (by simp; omega)]
        obtain ⟨d, rfl⟩ : ∃ d, j = o + 1 + d := ⟨j - (o + 1), by omega⟩
        rw [show o + 1 + d - (o + 1) = d by omega, show o + 1 + d - o = d + 1 by omega]
        rfl
      · rw [if_neg hr, if_neg hj, if_neg (by simp; omega)]

theorem below_setCells {B : Nat} {b : Nat} (hb : B ≤ b) (vs : List Value) : ∀ (o : Nat) {a w : World}, Below B a w → Below B a (w.setCells b o vs) := by
  induction vs with
  | nil => intro o a w h; exact h
  | cons v r ih => intro o a w h; exact ih (o + 1) (h.setCell (p := ⟨b, o, none⟩) hb v)

/-- The cells of m scopes. -/
def news (tt nn : Nat → ByteArray) (g : Nat → Sl) (m : Nat) : List Value := (List.range (m * 3)).map (sc3 tt nn g)

theorem news_len (tt nn : Nat → ByteArray) (g : Nat → Sl) (m : Nat) : (news tt nn g m).length = m * 3 := by simp [news]

theorem sc3_one (tt nn : Nat → ByteArray) (g : Nat → Sl) (j : Nat) : (sc3 tt nn g j).oneCell' = true := by
  unfold sc3
  split
  · rfl
  · split <;> rfl

theorem scs_cells {w : World} {b o m : Nat} {tt nn : Nat → ByteArray} {g : Nat → Sl}
    (hc : ∀ i, i < m → w.cell? ⟨b, o + i * 3, none⟩ = some (.string (tt i)) ∧ w.cell? ⟨b, o + i * 3 + 1, none⟩ = some (.string (nn i)) ∧ w.cell? ⟨b, o + i * 3 + 2, none⟩ = some (.slice (g i).at_ (g i).len (g i).cap))
    (j : Nat) (hj : j < m * 3) : w.cell? ⟨b, o + j, none⟩ = some (sc3 tt nn g j) := by
  obtain ⟨h0, h1, h2⟩ := hc (j / 3) (by omega)
  unfold sc3
  rcases (by omega : j % 3 = 0 ∨ j % 3 = 1 ∨ j % 3 = 2) with h | h | h
  · rw [if_pos h, ← h0]; congr 2; omega
  · rw [if_neg (by omega), if_pos h, ← h1]; congr 2; omega
  · rw [if_neg (by omega), if_neg (by omega), ← h2]; congr 2; omega

theorem src_scs {w : World} {a : Option Addr} {m c : Nat} {tt nn : Nat → ByteArray} {g : Nat → Sl} {ff : Nat → Nat → ByteArray} (hs : Scs w a m tt nn g ff) (hn : a = none → m = 0) : Src Try.prog 3 28 (.slice a m c) m (news tt nn g m) w := by
  cases a with
  | none =>
    obtain rfl := hn rfl
    exact Src.ofNil w Try.underlying28 c
  | some x =>
    refine Src.ofSlice w Try.underlying28 x m c _ (news_len tt nn g m) (fun j u hu => ?_) (fun u hu => ?_)
    · rcases hs with rfl | ⟨b, o, hx, hb, hc⟩
      · simp [news] at hu
      · obtain rfl : x = ⟨b, o, none⟩ := by simpa using hx
        have hj : j < m * 3 := by
          have := (List.getElem?_eq_some_iff.1 hu).1
          rwa [news_len] at this
        have e : sc3 tt nn g j = u := by simpa [news, hj] using hu
        rw [WideShapes.add_plain, ← e]
        exact scs_cells (fun i hi => ⟨(hc i hi).1, (hc i hi).2.1, (hc i hi).2.2.1⟩) j hj
    · obtain ⟨j, _, rfl⟩ := List.mem_map.1 hu
      exact sc3_one tt nn g j

theorem run_append_scs {W : World} {N n m c cap : Nat} {a : Option Addr} {F : Nat → Value} {tt nn : Nat → ByteArray} {g : Nat → Sl} {ff : Nat → Nat → ByteArray} (hs : Scs W a m tt nn g ff) (hn : a = none → m = 0) (hrow : W.rowIs N 45 (cap * 3) F) (hroom : n + m ≤ cap) (ty : TypeId) :
    (Builtin.append_ #[28, 28] ty #[.slice (some ⟨N, 0, none⟩) n cap, .slice a m c]).run Try.prog W = .ok (.slice (some ⟨N, 0, none⟩) (n + m) cap) (W.setCells N (n * 3) (news tt nn g m)) := by
  obtain ⟨i, hi, hzz⟩ := Option.map_eq_some_iff.1 Try.info45
  simp only [Prod.mk.injEq] at hzz
  obtain ⟨hz, hsz, hb⟩ := hzz
  have h := run_append_room_src (P := Try.prog) W 28 28 ty 45 i Try.underlying28 hi N 0 n cap (.slice a m c) m (news tt nn g m) (by rw [hsz]; exact src_scs hs hn) hroom
    (fun j hj => by rw [news_len] at hj; rw [hsz, Nat.zero_add, hrow.cell (by omega)]; rfl) (fun j hj => by rw [hsz, Nat.zero_add]; exact hrow.frozen _)
  rw [hsz, Nat.zero_add] at h
  exact h

/-- The first la of f, then g. -/
def cat {α : Type} (la : Nat) (f g : Nat → α) (i : Nat) : α := if i < la then f i else g (i - la)

theorem cat_lt {α : Type} {la i : Nat} (f g : Nat → α) (h : i < la) : cat la f g i = f i := if_pos h
theorem cat_ge {α : Type} {la i : Nat} (f g : Nat → α) (h : ¬ i < la) : cat la f g i = g (i - la) := if_neg h

theorem make_room (c : Int) (n : Nat) (hc : c = (n : Int)) (hn : n ≤ 4194304) (w : World) :
    (Instr.makeSlice 28 (.int .i64 0) (.int .i64 c)).run Try.prog w = .ok (.slice (some ⟨w.heap.size, 0, none⟩) 0 n) (w.alloc (.cells (madeCells #[.string ⟨#[]⟩, .string ⟨#[]⟩, .slice none 0 0] (n * 3)) 45)) := by
  subst hc
  obtain ⟨i, hi, hzz⟩ := Option.map_eq_some_iff.1 Try.info45
  simp only [Prod.mk.injEq] at hzz
  obtain ⟨hz, hs, hb⟩ := hzz
  have hr := run_make (P := Try.prog) w 28 45 i _ Try.underlying28 hi hz .i64 .i64 0 n (by omega) (by omega) (by rw [hb]; omega) (by omega)
  rw [hs] at hr
  exact hr

theorem sc3_cat_lt {la j : Nat} (ta tb na nb : Nat → ByteArray) (ga gb : Nat → Sl) (h : j < la * 3) : sc3 (cat la ta tb) (cat la na nb) (cat la ga gb) j = sc3 ta na ga j := by
  have : j / 3 < la := by omega
  unfold sc3
  rw [cat_lt _ _ this, cat_lt _ _ this, cat_lt _ _ this]

theorem sc3_cat_ge {la j : Nat} (ta tb na nb : Nat → ByteArray) (ga gb : Nat → Sl) (h : ¬ j < la * 3) : sc3 (cat la ta tb) (cat la na nb) (cat la ga gb) j = sc3 tb nb gb (j - la * 3) := by
  have h1 : ¬ j / 3 < la := by omega
  have h2 : (j - la * 3) % 3 = j % 3 := by omega
  have h3 : (j - la * 3) / 3 = j / 3 - la := by omega
  unfold sc3
  rw [cat_ge _ _ h1, cat_ge _ _ h1, cat_ge _ _ h1, h2, h3]

theorem news_get {tt nn : Nat → ByteArray} {g : Nat → Sl} {m j : Nat} (h : j < m * 3) (d : Value) : (news tt nn g m).getD j d = sc3 tt nn g j := by
  simp [news, h]

/-- Both lists, one behind the other. -/
theorem row_ab {W : World} {N la lb : Nat} {ta tb na nb : Nat → ByteArray} {ga gb : Nat → Sl} (h : W.rowIs N 45 ((la + lb) * 3) z3) :
    ((W.setCells N (0 * 3) (news ta na ga la)).setCells N ((0 + la) * 3) (news tb nb gb lb)).rowIs N 45 ((la + lb) * 3) (part3 (cat la ta tb) (cat la na nb) (cat la ga gb) (la + lb)) := by
  refine (rowIs_setCells _ _ (rowIs_setCells _ _ h)).congr fun j hj => ?_
  unfold part3
  rw [if_pos hj, news_len, news_len]
  by_cases hl : j < la * 3
  · rw [if_neg (by omega), if_pos (by omega), sc3_cat_lt _ _ _ _ _ _ hl, show j - 0 * 3 = j by omega, news_get hl]
  · rw [if_pos (by omega), sc3_cat_ge _ _ _ _ _ _ hl, show j - (0 + la) * 3 = j - la * 3 by omega, news_get (by omega)]

/-- An append whose run is known, for the walk. -/
theorem wpList_append_eq {P : Program} {w w' : World} {ops : Array Oper} {rest : List Oper} {o : Oper} {a : Act} {Q : Exit → Act → World → Prop} (hgd : o.guard = none) (s x : Operand) (t tx : TypeId)
    (ho : o.op = .call { callee := .builtin .append, args := #[s, x], argTypes := #[t, tx] }) (v y v' : Value) (hs : a.eval s = v) (hx : a.eval x = y)
    (hrun : ∀ ty, (Builtin.append_ #[t, tx] ty #[v, y]).run P w = .ok v' w') (h : wpList P ops Q rest (a.put o.dst v') w') : wpList P ops Q (o :: rest) a w := by
  refine wpList_plain hgd fun K hK => ?_
  unfold Oper.wp execOp
  simp only [ho, resolve, invoke, builtin, Sem.run_bind, Sem.run_pure, Result.andThen_ok, List.map_toArray, List.map_cons, List.map_nil, hs, hx, hrun]
  exact hK _ _ h

end Go.Proofs.Qxb6628251a
