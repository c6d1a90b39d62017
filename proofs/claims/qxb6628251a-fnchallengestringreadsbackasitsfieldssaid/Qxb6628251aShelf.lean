/- The contracts of strings.Builder and strings.Join (the kit's shelf, proved once over any program), laid at this program by hand: one table of numbers for all of them. -/
import Derived.Shelf.Strings.Builder1
import Derived.Shelf.Strings.OnBuilder
import Derived.Shelf.Strings.BuilderK
import Derived.Shelf.Strings.BuilderRune
import Derived.Test.Qxb6628251aProg
namespace Go.Proofs.Qxb6628251a
open Go.Shelf Go.RowKit

def ren : Go.Shelf.Ren := ⟨fun | 156 => 28 | 165 => 31 | 166 => 19 | 167 => 21 | 168 => 26 | 169 => 23 | 240 => 25 | 241 => 33 | 242 => 30 | 276 => 29 | 277 => 34 | 278 => 32 | n => n, fun | 31 => 22 | 9 => 9 | 3 => 3 | 4 => 4 | 0 => 0 | 20 => 20 | 72 => 49 | 76 => 52 | 70 => 46 | 37 => 47 | 75 => 51 | 127 => 60 | 164 => 62 | 5 => 5 | 80 => 32 | 21 => 21 | 46 => 61 | 51 => 65 | n => n, fun | n => n⟩

theorem lays156 : Go.Proofs.Lays.n156 Try.prog ren := {
  mixed := by kernel_rfl
  f156 := Try.func28.trans (congrArg some (by kernel_rfl))
  f165 := Try.func31.trans (congrArg some (by kernel_rfl))
  f166 := Try.func19.trans (congrArg some (by kernel_rfl))
  f169 := Try.func23.trans (congrArg some (by kernel_rfl))
  f240 := Try.func25.trans (congrArg some (by kernel_rfl))
  f241 := Try.func33.trans (congrArg some (by kernel_rfl))
  f276 := Try.func29.trans (congrArg some (by kernel_rfl))
  f277 := Try.func34.trans (congrArg some (by kernel_rfl))
  t0 := Try.underlying0
  a0 := Try.isAgg0
  z0 := Try.sizeOf0
  v0 := Try.zeroValue0
  t3 := Try.underlying3
  a3 := Try.isAgg3
  z3 := Try.sizeOf3
  v3 := Try.zeroValue3
  t4 := Try.underlying4
  a4 := Try.isAgg4
  z4 := Try.sizeOf4
  v4 := Try.zeroValue4
  t9 := Try.underlying9
  a9 := Try.isAgg9
  z9 := Try.sizeOf9
  v9 := Try.zeroValue9
  t20 := Try.underlying20
  a20 := Try.isAgg20
  z20 := Try.sizeOf20
  v20 := Try.zeroValue20
  t31 := Try.underlying22
  a31 := Try.isAgg22
  z31 := Try.sizeOf22
  v31 := Try.zeroValue22
  t37 := Try.underlying47
  a37 := Try.isAgg47
  z37 := Try.sizeOf47
  v37 := Try.zeroValue47
  t70 := Try.underlying46
  a70 := Try.isAgg46
  z70 := Try.sizeOf46
  v70 := Try.zeroValue46
  t72 := Try.underlying49
  a72 := Try.isAgg49
  z72 := Try.sizeOf49
  v72 := Try.zeroValue49
  t75 := Try.underlying51
  a75 := Try.isAgg51
  z75 := Try.sizeOf51
  v75 := Try.zeroValue51
  t76 := Try.underlying52
  a76 := Try.isAgg52
  z76 := Try.sizeOf52
  v76 := Try.zeroValue52
  t127 := Try.underlying60
  a127 := Try.isAgg60
  z127 := Try.sizeOf60
  v127 := Try.zeroValue60
  t164 := Try.underlying62
  a164 := Try.isAgg62
  z164 := Try.sizeOf62
  v164 := Try.zeroValue62 }

theorem lays166 : Go.Proofs.Lays.n166 Try.prog ren := {
  mixed := by kernel_rfl
  f166 := Try.func19.trans (congrArg some (by kernel_rfl))
  f240 := Try.func25.trans (congrArg some (by kernel_rfl))
  f276 := Try.func29.trans (congrArg some (by kernel_rfl))
  t0 := Try.underlying0
  a0 := Try.isAgg0
  z0 := Try.sizeOf0
  v0 := Try.zeroValue0
  t3 := Try.underlying3
  a3 := Try.isAgg3
  z3 := Try.sizeOf3
  v3 := Try.zeroValue3
  t4 := Try.underlying4
  a4 := Try.isAgg4
  z4 := Try.sizeOf4
  v4 := Try.zeroValue4
  t9 := Try.underlying9
  a9 := Try.isAgg9
  z9 := Try.sizeOf9
  v9 := Try.zeroValue9
  t20 := Try.underlying20
  a20 := Try.isAgg20
  z20 := Try.sizeOf20
  v20 := Try.zeroValue20
  t37 := Try.underlying47
  a37 := Try.isAgg47
  z37 := Try.sizeOf47
  v37 := Try.zeroValue47
  t70 := Try.underlying46
  a70 := Try.isAgg46
  z70 := Try.sizeOf46
  v70 := Try.zeroValue46
  t72 := Try.underlying49
  a72 := Try.isAgg49
  z72 := Try.sizeOf49
  v72 := Try.zeroValue49
  t75 := Try.underlying51
  a75 := Try.isAgg51
  z75 := Try.sizeOf51
  v75 := Try.zeroValue51
  t164 := Try.underlying62
  a164 := Try.isAgg62
  z164 := Try.sizeOf62
  v164 := Try.zeroValue62 }

theorem lays167 : Go.Proofs.Lays.n167 Try.prog ren := {
  mixed := by kernel_rfl
  f167 := Try.func21.trans (congrArg some (by kernel_rfl))
  f240 := Try.func25.trans (congrArg some (by kernel_rfl))
  f276 := Try.func29.trans (congrArg some (by kernel_rfl))
  t0 := Try.underlying0
  a0 := Try.isAgg0
  z0 := Try.sizeOf0
  v0 := Try.zeroValue0
  t4 := Try.underlying4
  a4 := Try.isAgg4
  z4 := Try.sizeOf4
  v4 := Try.zeroValue4
  t5 := Try.underlying5
  a5 := Try.isAgg5
  z5 := Try.sizeOf5
  v5 := Try.zeroValue5
  t9 := Try.underlying9
  a9 := Try.isAgg9
  z9 := Try.sizeOf9
  v9 := Try.zeroValue9
  t20 := Try.underlying20
  a20 := Try.isAgg20
  z20 := Try.sizeOf20
  v20 := Try.zeroValue20
  t37 := Try.underlying47
  a37 := Try.isAgg47
  z37 := Try.sizeOf47
  v37 := Try.zeroValue47
  t70 := Try.underlying46
  a70 := Try.isAgg46
  z70 := Try.sizeOf46
  v70 := Try.zeroValue46
  t72 := Try.underlying49
  a72 := Try.isAgg49
  z72 := Try.sizeOf49
  v72 := Try.zeroValue49
  t75 := Try.underlying51
  a75 := Try.isAgg51
  z75 := Try.sizeOf51
  v75 := Try.zeroValue51
  t164 := Try.underlying62
  a164 := Try.isAgg62
  z164 := Try.sizeOf62
  v164 := Try.zeroValue62 }

theorem lays168 : Go.Proofs.Lays.n168 Try.prog ren := {
  mixed := by kernel_rfl
  f168 := Try.func26.trans (congrArg some (by kernel_rfl))
  f240 := Try.func25.trans (congrArg some (by kernel_rfl))
  f242 := Try.func30.trans (congrArg some (by kernel_rfl))
  f276 := Try.func29.trans (congrArg some (by kernel_rfl))
  f278 := Try.func32.trans (congrArg some (by kernel_rfl))
  t0 := Try.underlying0
  a0 := Try.isAgg0
  z0 := Try.sizeOf0
  v0 := Try.zeroValue0
  t3 := Try.underlying3
  a3 := Try.isAgg3
  z3 := Try.sizeOf3
  v3 := Try.zeroValue3
  t4 := Try.underlying4
  a4 := Try.isAgg4
  z4 := Try.sizeOf4
  v4 := Try.zeroValue4
  t5 := Try.underlying5
  a5 := Try.isAgg5
  z5 := Try.sizeOf5
  v5 := Try.zeroValue5
  t9 := Try.underlying9
  a9 := Try.isAgg9
  z9 := Try.sizeOf9
  v9 := Try.zeroValue9
  t20 := Try.underlying20
  a20 := Try.isAgg20
  z20 := Try.sizeOf20
  v20 := Try.zeroValue20
  t21 := Try.underlying21
  a21 := Try.isAgg21
  z21 := Try.sizeOf21
  v21 := Try.zeroValue21
  t37 := Try.underlying47
  a37 := Try.isAgg47
  z37 := Try.sizeOf47
  v37 := Try.zeroValue47
  t46 := Try.underlying61
  a46 := Try.isAgg61
  z46 := Try.sizeOf61
  v46 := Try.zeroValue61
  t51 := Try.underlying65
  a51 := Try.isAgg65
  z51 := Try.sizeOf65
  v51 := Try.zeroValue65
  t70 := Try.underlying46
  a70 := Try.isAgg46
  z70 := Try.sizeOf46
  v70 := Try.zeroValue46
  t72 := Try.underlying49
  a72 := Try.isAgg49
  z72 := Try.sizeOf49
  v72 := Try.zeroValue49
  t75 := Try.underlying51
  a75 := Try.isAgg51
  z75 := Try.sizeOf51
  v75 := Try.zeroValue51
  t164 := Try.underlying62
  a164 := Try.isAgg62
  z164 := Try.sizeOf62
  v164 := Try.zeroValue62 }

theorem lays169 : Go.Proofs.Lays.n169 Try.prog ren := {
  mixed := by kernel_rfl
  f169 := Try.func23.trans (congrArg some (by kernel_rfl))
  t0 := Try.underlying0
  a0 := Try.isAgg0
  z0 := Try.sizeOf0
  v0 := Try.zeroValue0
  t3 := Try.underlying3
  a3 := Try.isAgg3
  z3 := Try.sizeOf3
  v3 := Try.zeroValue3
  t9 := Try.underlying9
  a9 := Try.isAgg9
  z9 := Try.sizeOf9
  v9 := Try.zeroValue9
  t37 := Try.underlying47
  a37 := Try.isAgg47
  z37 := Try.sizeOf47
  v37 := Try.zeroValue47
  t70 := Try.underlying46
  a70 := Try.isAgg46
  z70 := Try.sizeOf46
  v70 := Try.zeroValue46
  t72 := Try.underlying49
  a72 := Try.isAgg49
  z72 := Try.sizeOf49
  v72 := Try.zeroValue49
  t127 := Try.underlying60
  a127 := Try.isAgg60
  z127 := Try.sizeOf60
  v127 := Try.zeroValue60 }

theorem extra : Builder.Extra Try.prog ren := {
  sizeBuilder := by kernel_rfl
  liesBuilder := by kernel_rfl
  t5 := Try.underlying5
  a5 := Try.isAgg5
  z5 := Try.sizeOf5
  v5 := Try.zeroValue5
  infoByte := by kernel_rfl
  cellsByte := by kernel_rfl
  sizeByte := by kernel_rfl
  neB5 := by decide }

theorem writeString_k (B b : Nat) (bs : List Value) (s : ByteArray) (w : World) (h : Lib.IsBuilderF 49 5 B b bs w) (hlen : bs.length + s.size ≤ 140737488355328) (hBw : B ≤ w.heap.size) :
    Calls Try.prog 19 #[.pointer (some ⟨b, 0, none⟩), .string s] w fun e w' => e = .returned (.tuple #[.int .i64 s.size, .nilIface]) ∧ Lib.BuilderAtF 49 5 B b (.pointer (some ⟨b, 0, none⟩)) (bs ++ Lib.strCells s) w' ∧ Below B w w' ∧ Lib.OthersKept 5 (some b) w w' :=
  Any.Builder_WriteString_k lays166 extra B b bs s w h hlen hBw

theorem writeByte_k (B b : Nat) (bs : List Value) (c : Int) (w : World) (h : Lib.IsBuilderF 49 5 B b bs w) (hlen : bs.length + 1 ≤ 140737488355328) (hBw : B ≤ w.heap.size) :
    Calls Try.prog 21 #[.pointer (some ⟨b, 0, none⟩), .int .u8 c] w fun e w' => e = .returned .nilIface ∧ Lib.BuilderAtF 49 5 B b (.pointer (some ⟨b, 0, none⟩)) (bs ++ [.int .u8 c]) w' ∧ Below B w w' ∧ Lib.OthersKept 5 (some b) w w' :=
  Any.Builder_WriteByte_k lays167 extra B b bs c w h hlen hBw

theorem writeRune_k (B b : Nat) (bs : List Value) (r : Int) (hr0 : -2147483648 ≤ r) (hr1 : r ≤ 2147483647) (w : World) (h : Lib.IsBuilderF 49 5 B b bs w) (hlen : bs.length + 4 ≤ 140737488355328) (hBw : B ≤ w.heap.size) :
    Calls Try.prog 26 #[.pointer (some ⟨b, 0, none⟩), .int .i32 r] w fun e w' => e = .returned (.tuple #[.int .i64 (Lib.runeCells r).length, .nilIface]) ∧ Lib.BuilderAtF 49 5 B b (.pointer (some ⟨b, 0, none⟩)) (bs ++ Lib.runeCells r) w' ∧ Below B w w' ∧ Lib.OthersKept 5 (some b) w w' :=
  Any.Builder_WriteRune_k lays168 extra B b bs r hr0 hr1 w h hlen hBw

theorem string_k (B b : Nat) (l : List UInt8) (w : World) (h : Lib.IsBuilderF 49 5 B b (Lib.byteCells l) w) (hBw : B ≤ w.heap.size) :
    Calls Try.prog 23 #[.pointer (some ⟨b, 0, none⟩)] w fun e w' => e = .returned (.string ⟨l.toArray⟩) ∧ Lib.IsBuilderF 49 5 B b (Lib.byteCells l) w' ∧ Below B w w' ∧ Lib.OthersKept 5 (some b) w w' :=
  Any.Builder_String_any_k lays169 extra B b l w h hBw

theorem join_none (a : Option Addr) (c : Nat) (sep : ByteArray) (w : World) :
    Calls Try.prog 28 #[.slice a 0 c, .string sep] w fun e w' => e = .returned (.string ⟨#[]⟩) ∧ w' = w := Any.strings_Join_none lays156 extra a c sep w

theorem join_any (bk o c : Nat) (xs : List ByteArray) (sep : ByteArray) (w : World) (hcells : ∀ (j : Nat) x, xs[j]? = some x → w.cell? ⟨bk, o + j, none⟩ = some (.string x)) (hbk : bk < w.heap.size) (hN : xs.length ≤ 140737488355328) (hcap : xs.length ≤ c) (hlen : (Lib.join (xs.map (·.data.toList)) sep.data.toList).length ≤ 140737488355328) :
    Calls Try.prog 28 #[.slice (some ⟨bk, o, none⟩) xs.length c, .string sep] w fun e w' => e = .returned (.string ⟨(Lib.join (xs.map (·.data.toList)) sep.data.toList).toArray⟩) ∧ Below w.heap.size w w' := Any.strings_Join lays156 extra bk o c xs sep w hcells hbk hN hcap hlen

end Go.Proofs.Qxb6628251a
