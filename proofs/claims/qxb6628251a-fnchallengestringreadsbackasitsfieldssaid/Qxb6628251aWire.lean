/- The walks of zzb1EqualStrs and zzb1Wire. -/
import Derived.Test.Qxb6628251aOwn
import Derived.Test.Qxb6628251aHead
import Derived.Lib.AppendStr
namespace Go.Proofs.Qxb6628251a
open Go.RowKit

set_option maxHeartbeats 1000000 in
theorem equalStrs_yes (a b : Option Addr) (n c d : Nat) (f : Nat → ByteArray) (w : World) (hn : n ≤ 1048576) (sa : Strs w a n f) (sb : Strs w b n f) :
    Calls Try.prog 13 #[.slice a n c, .slice b n d] w fun e w' => e = .returned (.bool true) ∧ Below w.heap.size w w' := by
  have SA : Hid (Strs w a n f) := sa
  have SB : Hid (Strs w b n f) := sb
  have f1 : ((n : Int) != (n : Int)) = false := by simp
  clear sa sb
  go_enter Try.func13, Try.ntmps13
  go_wp2
  go_loopw [5] (fun i wr => ∃ k : Nat, k ≤ n ∧ i = .int .i64 k ∧ Below w.heap.size w wr) (fun i _ => n - (intOf i).toNat)
  case atStart => exact ⟨0, Nat.zero_le _, rfl, Below.refl _ _⟩
  case round =>
    obtain ⟨k, hk, rfl, hb⟩ := hrel
    by_cases hlt : k < n
    · rcases SA.out with h | ⟨b1, o1, rfl, l1, c1⟩
      · omega
      rcases SB.out with h | ⟨b2, o2, rfl, l2, c2⟩
      · omega
      have d1 : wr.cell? ⟨b1, o1 + k, none⟩ = some (.string (f k)) := (hb.cell (by exact l1)).trans (c1 k hlt)
      have d2 : wr.cell? ⟨b2, o2 + k, none⟩ = some (.string (f k)) := (hb.cell (by exact l2)).trans (c2 k hlt)
      have hi : (k : Int) < (n : Int) := by omega
      have hi0 : (0 : Int) ≤ (k : Int) := by omega
      have hq : ((f k).toList == (f k).toList) = true := by simp
      clear c1 c2 SA SB
      go_wp2
      go_quiet (fail)
      go_wp2
      go_roundw
      case rel => exact ⟨k + 1, by omega, by go_num, below_drewN hb _⟩
      case measure => simp [intOf]; omega
    · clear SA SB
      go_wp2
      go_ret
      exact ⟨rfl, hb⟩

/-- The bytes l are owned, in a world that has kept what was there. -/
def OwnB (w0 w : World) (v : Value) (l : List UInt8) : Prop := w.ownsRow w0.heap.size 5 1 v l.length (Lib.byteCells l) ∧ Below w0.heap.size w0 w

theorem OwnB.size {w0 w : World} {v : Value} {l : List UInt8} (h : OwnB w0 w v l) : w0.heap.size ≤ w.heap.size := h.2.size

theorem OwnB.grown {w0 w w' : World} {v v' : Value} {l l' : List UInt8} (h : OwnB w0 w v l) (ho : w'.ownsRow w0.heap.size 5 1 v' l'.length (Lib.byteCells l')) (hg : w.grownBy w' v.ownBlock) : OwnB w0 w' v' l' :=
  ⟨ho, h.2.grown hg h.size (fun k hk => (h.1.lt k hk).1)⟩

theorem wpList_pushB {ops : Array Oper} {rest : List Oper} {o : Oper} {a : Act} {Q : Exit → Act → World → Prop} (hgd : o.guard = none) (s x : Operand) (ho : o.op = .call { callee := .builtin .append, args := #[s, x], argTypes := #[47, 47] })
    (w0 w : World) (c : UInt8) (v : Value) (l : List UInt8) (hs : a.eval s = v) (hx : a.eval x = .slice (some ⟨w.heap.size, 0, none⟩) 1 1) (hown : OwnB w0 w v l) (h63 : l.length + 1 ≤ 1073741824) (d : Int) (hd : d = (c.toNat : Int))
    (h : ∀ v' w', OwnB w0 w' v' (l ++ [c]) → wpList Try.prog ops Q rest (a.put o.dst v') w') : wpList Try.prog ops Q (o :: rest) a (w.alloc (.cells #[.int .u8 d] 5)) := by
  obtain ⟨i, hi, hzz⟩ := Option.map_eq_some_iff.1 Try.info5
  simp only [Prod.mk.injEq] at hzz
  obtain ⟨hz, hsz, hb⟩ := hzz
  have hc : Lib.byteCells (l ++ [c]) = Lib.byteCells l ++ [.int .u8 d] := by rw [Lib.byteCells_append, hd]; rfl
  refine wpList_append_own _ hgd s x 47 ho w0.heap.size 5 i _ 1 1 Try.underlying47 hi hz hsz hb rfl (by decide) v l.length (Lib.byteCells l) hs (hown.1.alloc _) ⟨w.heap.size, 0, none⟩ 1 1 [.int .u8 d] hx rfl (new_cells w #[.int .u8 d] 5) (by intro u hu; simp at hu; subst hu; rfl) (by unfold maxLen; omega) (by omega) (by have := hown.size; simp; omega) ?_
  intro v' w' h1 h2 _
  refine h v' w' ⟨?_, ?_⟩
  · rw [hc, List.length_append]; exact h1
  · exact (hown.2.alloc (by have := hown.size; omega) _).grown h2 (by have := hown.size; simp; omega) (fun k hk => (hown.1.lt k hk).1)

theorem wpList_pushS {ops : Array Oper} {rest : List Oper} {o : Oper} {a : Act} {Q : Exit → Act → World → Prop} (hgd : o.guard = none) (s x : Operand) (ho : o.op = .call { callee := .builtin .append, args := #[s, x], argTypes := #[47, 9] })
    (w0 w : World) (t : ByteArray) (v : Value) (l : List UInt8) (hs : a.eval s = v) (hx : a.eval x = .string t) (hown : OwnB w0 w v l) (h63 : l.length + t.size ≤ 1073741824)
    (h : ∀ v' w', OwnB w0 w' v' (l ++ t.data.toList) → wpList Try.prog ops Q rest (a.put o.dst v') w') : wpList Try.prog ops Q (o :: rest) a w := by
  obtain ⟨i, hi, hzz⟩ := Option.map_eq_some_iff.1 Try.info5
  simp only [Prod.mk.injEq] at hzz
  obtain ⟨hz, hsz, hb⟩ := hzz
  refine Lib.wpList_append_own_string _ hgd s x 47 9 ho w0.heap.size 5 i Try.underlying47 Try.underlying9 hi hz hsz hb v l.length (Lib.byteCells l) hs hown.1 t hx (by unfold maxLen; omega) (by omega) hown.size ?_
  intro v' w' h1 h2 _
  refine h v' w' (hown.grown ?_ h2)
  rw [Lib.byteCells_append, List.length_append, ← Lib.strCells_eq]
  exact h1

/-- The first j actions, commas between. -/
def actsTo (f : Nat → ByteArray) : Nat → List UInt8
  | 0 => []
  | j + 1 => actsTo f j ++ (if j = 0 then [] else [44]) ++ (f j).data.toList

/-- The first k scopes, blanks between. -/
def wireTo (tt nn : Nat → ByteArray) (g : Nat → Sl) (ff : Nat → Nat → ByteArray) : Nat → List UInt8
  | 0 => []
  | k + 1 => wireTo tt nn g ff k ++ (if k = 0 then [] else [32]) ++ (tt k).data.toList ++ [58] ++ (nn k).data.toList ++ [58] ++ actsTo (ff k) (g k).len

theorem join_last (A : List (List UInt8)) (x sep : List UInt8) : Lib.join (A ++ [x]) sep = Lib.join A sep ++ (if A.length = 0 then [] else sep) ++ x := by
  cases A with
  | nil => simp [Lib.join_nil, Lib.join_one]
  | cons y r =>
    rw [List.cons_append, Lib.join_cons, Lib.join_cons]
    simp [Lib.joinTail]

theorem actsTo_join (f : Nat → ByteArray) (n : Nat) : actsTo f n = Lib.join (lst f n) [44] := by
  induction n with
  | zero => rfl
  | succ n ih =>
    rw [lst_succ, join_last, ← ih, lst_length]
    rfl

theorem wireTo_join (tt nn : Nat → ByteArray) (g : Nat → Sl) (ff : Nat → Nat → ByteArray) (n : Nat) : wireTo tt nn g ff n = listText n tt nn g ff := by
  unfold listText
  induction n with
  | zero => rfl
  | succ n ih =>
    rw [lst_succ, join_last, ← ih, lst_length]
    show wireTo tt nn g ff n ++ (if n = 0 then [] else [32]) ++ (tt n).data.toList ++ [58] ++ (nn n).data.toList ++ [58] ++ actsTo (ff n) (g n).len = _ ++ (txt tt nn g ff n).data.toList
    rw [actsTo_join]
    unfold txt scopeText
    simp

theorem actsTo_le (f : Nat → ByteArray) (n : Nat) : (actsTo f n).length ≤ sum f n + n := by
  rw [actsTo_join]
  exact join_le f n 44

theorem sum_mono (f : Nat → ByteArray) {j n : Nat} (h : j ≤ n) : sum f j ≤ sum f n := by
  induction n with
  | zero => have : j = 0 := by omega
            subst this; exact Nat.le_refl _
  | succ n ih =>
    by_cases e : j = n + 1
    · subst e; exact Nat.le_refl _
    · have := ih (by omega)
      simp only [sum]
      omega

theorem sums_mono (g : Nat → Sl) (f : Nat → Nat → ByteArray) {j n : Nat} (h : j ≤ n) : sums g f j ≤ sums g f n := by
  induction n with
  | zero => have : j = 0 := by omega
            subst this; exact Nat.le_refl _
  | succ n ih =>
    by_cases e : j = n + 1
    · subst e; exact Nat.le_refl _
    · have := ih (by omega)
      simp only [sums]
      omega

theorem wire_bounds {n : Nat} {tt nn : Nat → ByteArray} {g : Nat → Sl} {ff : Nat → Nat → ByteArray} (h : Fits n tt nn g ff) {k : Nat} (hk : k < n) :
    (wireTo tt nn g ff k).length ≤ 16777216 ∧ (tt k).size ≤ 4194304 ∧ (nn k).size ≤ 4194304 ∧ sum (ff k) (g k).len ≤ 4194304 := by
  obtain ⟨h1, h2, h3⟩ := h
  unfold listSum at h1
  have a := listText_le k tt nn g ff
  rw [← wireTo_join] at a
  have b1 := sum_mono tt (show k ≤ n by omega)
  have b2 := sum_mono nn (show k ≤ n by omega)
  have b3 := sums_mono g ff (show k ≤ n by omega)
  have b4 := sum_ge tt hk
  have b5 := sum_ge nn hk
  have b6 := sums_mono g ff (show k + 1 ≤ n by omega)
  simp only [sums] at b6
  refine ⟨by omega, by omega, by omega, by omega⟩

set_option maxHeartbeats 2000000 in
theorem wire_any (a0 a1 a2 : Option Addr) (n c0 c1 c2 : Nat) (tt nn : Nat → ByteArray) (g : Nat → Sl) (ff : Nat → Nat → ByteArray) (w : World) (hf : Fits n tt nn g ff) (s0 : Strs w a0 n tt) (s1 : Strs w a1 n nn) (s2 : Nest w a2 n g ff) :
    Calls Try.prog 12 #[.slice a0 n c0, .slice a1 n c1, .slice a2 n c2] w fun e w' => e = .returned (.string ⟨(listText n tt nn g ff).toArray⟩) ∧ Below w.heap.size w w' := by
  have S0 : Hid (Strs w a0 n tt) := s0
  have S1 : Hid (Strs w a1 n nn) := s1
  have S2 : Hid (Nest w a2 n g ff) := s2
  have HF : Hid (Fits n tt nn g ff) := hf
  have hn20 : n ≤ 1048576 := hf.2.1
  clear s0 s1 s2 hf
  go_enter Try.func12, Try.ntmps12
  go_wp2
  go_loopw [7, 8] (fun v i wr => ∃ k : Nat, k ≤ n ∧ i = .int .i64 k ∧ OwnB w wr v (wireTo tt nn g ff k)) (fun _ i _ => n - (intOf i).toNat)
  case atStart => exact ⟨0, Nat.zero_le _, rfl, World.ownsRow_nil _ _ _ _, Below.refl _ _⟩
  case round =>
    obtain ⟨k, hk, rfl, hO⟩ := hrel
    by_cases hlt : k < n
    · rcases S0.out with h | ⟨b0, o0, rfl, l0, e0⟩
      · omega
      rcases S1.out with h | ⟨b1, o1, rfl, l1, e1⟩
      · omega
      rcases S2.out with h | ⟨b2, o2, rfl, l2, e2⟩
      · omega
      have K0 : Hid (∀ W, Below w.heap.size w W → W.cell? ⟨b0, o0 + k, none⟩ = some (.string (tt k))) := fun W hb => (hb.cell (by exact l0)).trans (e0 k hlt)
      have K1 : Hid (∀ W, Below w.heap.size w W → W.cell? ⟨b1, o1 + k, none⟩ = some (.string (nn k))) := fun W hb => (hb.cell (by exact l1)).trans (e1 k hlt)
      have K2 : Hid (∀ W, Below w.heap.size w W → W.cell? ⟨b2, o2 + k, none⟩ = some (.slice (g k).at_ (g k).len (g k).cap)) := fun W hb => (hb.cell (by exact l2)).trans (e2 k hlt).1
      have K3 : Hid (Strs w (g k).at_ (g k).len (ff k)) := (e2 k hlt).2
      obtain ⟨y1, y2, y3, y4⟩ := wire_bounds HF.out hlt
      have y5 := HF.out.2.2 k hlt
      have hi : (k : Int) < (n : Int) := by omega
      have hstep : Hid (wireTo tt nn g ff (k + 1) = wireTo tt nn g ff k ++ (if k = 0 then [] else [32]) ++ (tt k).data.toList ++ [58] ++ (nn k).data.toList ++ [58] ++ actsTo (ff k) (g k).len) := rfl
      clear e0 e1 e2 S0 S1 S2 HF
      obtain ⟨L, hL⟩ : ∃ L, wireTo tt nn g ff k = L := ⟨_, rfl⟩
      rw [hL] at hO y1
      have HL : Hid (wireTo tt nn g ff k = L) := hL
      clear hL
      by_cases hk0 : k = 0
      · have hkk : ¬ (0 : Int) < (k : Int) := by omega
        have HK : Hid (k = 0) := hk0
        clear hk0
        have cT := K0.out wr hO.2
        go_wp2_with (first
          | (at_builtin; refine wpList_pushS rfl (.tmp 22) (.tmp 26) rfl w wr (tt k) u7 L rfl rfl hO (by omega) ?_; intro v2 w2 hO2)
          | (at_builtin; refine wpList_pushB rfl (.tmp 28) (.tmp 29) rfl w w2 58 v2 _ rfl rfl hO2 (by simp; omega) _ rfl ?_; intro v3 w3 hO3; have cN := K1.out w3 hO3.2)
          | (at_builtin; refine wpList_pushS rfl (.tmp 31) (.tmp 35) rfl w w3 (nn k) v3 _ rfl rfl hO3 (by simp; omega) ?_; intro v4 w4 hO4)
          | (at_builtin; refine wpList_pushB rfl (.tmp 37) (.tmp 38) rfl w w4 58 v4 _ rfl rfl hO4 (by simp; omega) _ rfl ?_; intro v5 w5 hO5; have cA := K2.out w5 hO5.2))
        obtain ⟨M, hM⟩ : ∃ M, L ++ (tt k).data.toList ++ [58] ++ (nn k).data.toList ++ [58] = M := ⟨_, rfl⟩
        rw [hM] at hO5
        have HM : Hid (wireTo tt nn g ff (k + 1) = M ++ actsTo (ff k) (g k).len) := by unfold Hid; rw [hstep.out, HL.out, if_pos HK.out, List.append_nil, ← hM]
        have hMl : M.length ≤ 67108864 := by rw [← hM]; simp; omega
        clear hM hstep HL hO hO2 hO3 hO4 K0 K1 K2 cT cN cA y1 y2 y3 HK
        generalize g k = q at *
        go_loopw [7, 10] (fun v i wr => ∃ j : Nat, j ≤ q.len ∧ i = .int .i64 j ∧ OwnB w wr v (M ++ actsTo (ff k) j)) (fun _ i _ => q.len - (intOf i).toNat)
        case atStart => exact ⟨0, Nat.zero_le _, rfl, by simpa [actsTo] using hO5⟩
        case round =>
          obtain ⟨j, hj, rfl, hP⟩ := hrel
          clear hO5
          by_cases hjl : j < q.len
          · obtain ⟨qa, ql, qc⟩ := q
            rcases K3.out with h | ⟨b3, o3, h3, l3, e3⟩
            · simp at h hjl; omega
            have h3' : qa = some ⟨b3, o3, none⟩ := h3
            subst h3'
            simp only at hjl y4 y5
            have KF : Hid (∀ W, Below w.heap.size w W → W.cell? ⟨b3, o3 + j, none⟩ = some (.string (ff k j))) := fun W hb => (hb.cell (by exact l3)).trans (e3 j hjl)
            have x1 : (actsTo (ff k) j).length ≤ 8388608 := by
              have := actsTo_le (ff k) j
              have := sum_mono (ff k) (show j ≤ ql by omega)
              omega
            have x2 : (ff k j).size ≤ 4194304 := by have := sum_ge (ff k) hjl; omega
            have hji : (j : Int) < (ql : Int) := by omega
            have hst2 : Hid (actsTo (ff k) (j + 1) = actsTo (ff k) j ++ (if j = 0 then [] else [44]) ++ (ff k j).data.toList) := rfl
            clear e3 K3 h3
            by_cases hj0 : j = 0
            · have hjj : ¬ (0 : Int) < (j : Int) := by omega
              have HJ : Hid (j = 0) := hj0
              clear hj0
              have cF := KF.out wr hP.2
              go_wp2_with (at_builtin; refine wpList_pushS rfl (.tmp 55) (.tmp 59) rfl w wr (ff k j) u7 _ rfl rfl hP (by simp; omega) ?_; intro v7 w7 hP7)
              have hP8 : OwnB w w7 v7 (M ++ actsTo (ff k) (j + 1)) := by rw [hst2.out, if_pos HJ.out, List.append_nil, ← List.append_assoc]; exact hP7
              clear hP7 hP cF
              go_roundw
              case rel => exact ⟨j + 1, hjl, by go_num, hP8⟩
              case measure => simp [intOf]; omega
            · have hjj : (0 : Int) < (j : Int) := by omega
              have HJ : Hid (¬ j = 0) := hj0
              clear hj0
              go_wp2_with (first
                | (at_builtin; refine wpList_pushB rfl (.tmp 52) (.tmp 53) rfl w wr 44 u7 _ rfl rfl hP (by simp; omega) _ rfl ?_; intro v6 w6 hP6; have cF := KF.out w6 hP6.2)
                | (at_builtin; refine wpList_pushS rfl (.tmp 55) (.tmp 59) rfl w w6 (ff k j) v6 _ rfl rfl hP6 (by simp; omega) ?_; intro v7 w7 hP7))
              have hP8 : OwnB w w7 v7 (M ++ actsTo (ff k) (j + 1)) := by rw [hst2.out, if_neg HJ.out]; simpa using hP7
              clear hP7 hP6 hP cF
              go_roundw
              case rel => exact ⟨j + 1, hjl, by go_num, hP8⟩
              case measure => simp [intOf]; omega
          · have hjq : j = q.len := by omega
            have hP9 : OwnB w wr u7 (wireTo tt nn g ff (k + 1)) := by rw [HM.out, ← hjq]; exact hP
            clear hP HM hjq
            go_wp2
            go_roundw
            case rel => exact ⟨k + 1, by omega, by go_num, hP9⟩
            case measure => simp [intOf]; omega
      · have hkk : (0 : Int) < (k : Int) := by omega
        have HK : Hid (¬ k = 0) := hk0
        clear hk0
        go_wp2_with (first
          | (at_builtin; refine wpList_pushB rfl (.tmp 19) (.tmp 20) rfl w wr 32 u7 L rfl rfl hO (by omega) _ rfl ?_; intro v1 w1 hO1; have cT := K0.out w1 hO1.2)
          | (at_builtin; refine wpList_pushS rfl (.tmp 22) (.tmp 26) rfl w w1 (tt k) v1 _ rfl rfl hO1 (by simp; omega) ?_; intro v2 w2 hO2)
          | (at_builtin; refine wpList_pushB rfl (.tmp 28) (.tmp 29) rfl w w2 58 v2 _ rfl rfl hO2 (by simp; omega) _ rfl ?_; intro v3 w3 hO3; have cN := K1.out w3 hO3.2)
          | (at_builtin; refine wpList_pushS rfl (.tmp 31) (.tmp 35) rfl w w3 (nn k) v3 _ rfl rfl hO3 (by simp; omega) ?_; intro v4 w4 hO4)
          | (at_builtin; refine wpList_pushB rfl (.tmp 37) (.tmp 38) rfl w w4 58 v4 _ rfl rfl hO4 (by simp; omega) _ rfl ?_; intro v5 w5 hO5; have cA := K2.out w5 hO5.2))
        obtain ⟨M, hM⟩ : ∃ M, L ++ [32] ++ (tt k).data.toList ++ [58] ++ (nn k).data.toList ++ [58] = M := ⟨_, rfl⟩
        rw [hM] at hO5
        have HM : Hid (wireTo tt nn g ff (k + 1) = M ++ actsTo (ff k) (g k).len) := by unfold Hid; rw [hstep.out, HL.out, if_neg HK.out, ← hM]
        have hMl : M.length ≤ 67108864 := by rw [← hM]; simp; omega
        clear hM hstep HL hO hO2 hO3 hO4 K0 K1 K2 cT cN cA y1 y2 y3 HK hO1
        generalize g k = q at *
        go_loopw [7, 10] (fun v i wr => ∃ j : Nat, j ≤ q.len ∧ i = .int .i64 j ∧ OwnB w wr v (M ++ actsTo (ff k) j)) (fun _ i _ => q.len - (intOf i).toNat)
        case atStart => exact ⟨0, Nat.zero_le _, rfl, by simpa [actsTo] using hO5⟩
        case round =>
          obtain ⟨j, hj, rfl, hP⟩ := hrel
          clear hO5
          by_cases hjl : j < q.len
          · obtain ⟨qa, ql, qc⟩ := q
            rcases K3.out with h | ⟨b3, o3, h3, l3, e3⟩
            · simp at h hjl; omega
            have h3' : qa = some ⟨b3, o3, none⟩ := h3
            subst h3'
            simp only at hjl y4 y5
            have KF : Hid (∀ W, Below w.heap.size w W → W.cell? ⟨b3, o3 + j, none⟩ = some (.string (ff k j))) := fun W hb => (hb.cell (by exact l3)).trans (e3 j hjl)
            have x1 : (actsTo (ff k) j).length ≤ 8388608 := by
              have := actsTo_le (ff k) j
              have := sum_mono (ff k) (show j ≤ ql by omega)
              omega
            have x2 : (ff k j).size ≤ 4194304 := by have := sum_ge (ff k) hjl; omega
            have hji : (j : Int) < (ql : Int) := by omega
            have hst2 : Hid (actsTo (ff k) (j + 1) = actsTo (ff k) j ++ (if j = 0 then [] else [44]) ++ (ff k j).data.toList) := rfl
            clear e3 K3 h3
            by_cases hj0 : j = 0
            · have hjj : ¬ (0 : Int) < (j : Int) := by omega
              have HJ : Hid (j = 0) := hj0
              clear hj0
              have cF := KF.out wr hP.2
              go_wp2_with (at_builtin; refine wpList_pushS rfl (.tmp 55) (.tmp 59) rfl w wr (ff k j) u7 _ rfl rfl hP (by simp; omega) ?_; intro v7 w7 hP7)
              have hP8 : OwnB w w7 v7 (M ++ actsTo (ff k) (j + 1)) := by rw [hst2.out, if_pos HJ.out, List.append_nil, ← List.append_assoc]; exact hP7
              clear hP7 hP cF
              go_roundw
              case rel => exact ⟨j + 1, hjl, by go_num, hP8⟩
              case measure => simp [intOf]; omega
            · have hjj : (0 : Int) < (j : Int) := by omega
              have HJ : Hid (¬ j = 0) := hj0
              clear hj0
              go_wp2_with (first
                | (at_builtin; refine wpList_pushB rfl (.tmp 52) (.tmp 53) rfl w wr 44 u7 _ rfl rfl hP (by simp; omega) _ rfl ?_; intro v6 w6 hP6; have cF := KF.out w6 hP6.2)
                | (at_builtin; refine wpList_pushS rfl (.tmp 55) (.tmp 59) rfl w w6 (ff k j) v6 _ rfl rfl hP6 (by simp; omega) ?_; intro v7 w7 hP7))
              have hP8 : OwnB w w7 v7 (M ++ actsTo (ff k) (j + 1)) := by rw [hst2.out, if_neg HJ.out]; simpa using hP7
              clear hP7 hP6 hP cF
              go_roundw
              case rel => exact ⟨j + 1, hjl, by go_num, hP8⟩
              case measure => simp [intOf]; omega
          · have hjq : j = q.len := by omega
            have hP9 : OwnB w wr u7 (wireTo tt nn g ff (k + 1)) := by rw [HM.out, ← hjq]; exact hP
            clear hP HM hjq
            go_wp2
            go_roundw
            case rel => exact ⟨k + 1, by omega, by go_num, hP9⟩
            case measure => simp [intOf]; omega
    · obtain rfl : k = n := by omega
      have HB : Hid (Below w.heap.size w wr) := hO.2
      have hcv : (convert 47 9 u7).run Try.prog wr = .ok (.string ⟨(listText k tt nn g ff).toArray⟩) wr := by
        have h1 : Own 5 wr u7 (Lib.byteCells (wireTo tt nn g ff k)) u7.ownBlock := by
          refine ⟨rfl, ?_⟩
          rw [Lib.byteCells_length]
          have h0 := hO.1
          refine ⟨h0.1, ?_⟩
          rcases h0.2 with h | ⟨g', cap, cur, e1, _, e2⟩
          · exact .inl h
          · exact .inr ⟨g', cap, cur, e1, Nat.zero_le _, e2⟩
        rw [← wireTo_join]
        exact conv_own h1
      clear hO S0 S1 S2 HF
      go_wp2
      go_ret
      exact ⟨rfl, HB.out⟩

end Go.Proofs.Qxb6628251a
