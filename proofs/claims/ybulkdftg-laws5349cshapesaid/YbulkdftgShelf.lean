/-
  The shelf's contracts at this dump, in plain words: strings.Repeat and (*strings.Builder).String as the kit's tools lay-shelf and lay-plain wrote them for this program; WriteString and WriteByte laid by hand beside them.
-/
import Derived.Shelf.Strings.Builder1
import Derived.Shelf.Strings.Repeat
import Derived.Test.YbulkdftgProg
namespace Go.Proofs
open Go.Shelf
def Yba.lays169_ren : Go.Shelf.Ren := ⟨fun | 169 => 21 | n => n, fun | 70 => 46 | 9 => 9 | 0 => 0 | 72 => 48 | 37 => 26 | 127 => 69 | 3 => 3 | 5 => 5 | n => n, fun | n => n⟩
theorem Yba.lays169 : Go.Proofs.Lays.n169 Yba.prog Yba.lays169_ren := {
  mixed := by kernel_rfl
  f169 := Yba.func21.trans (congrArg some (by kernel_rfl))
  t0 := Yba.underlying0
  a0 := Yba.isAgg0
  z0 := Yba.sizeOf0
  v0 := Yba.zeroValue0
  t3 := Yba.underlying3
  a3 := Yba.isAgg3
  z3 := Yba.sizeOf3
  v3 := Yba.zeroValue3
  t9 := Yba.underlying9
  a9 := Yba.isAgg9
  z9 := Yba.sizeOf9
  v9 := Yba.zeroValue9
  t37 := Yba.underlying26
  a37 := Yba.isAgg26
  z37 := Yba.sizeOf26
  v37 := Yba.zeroValue26
  t70 := Yba.underlying46
  a70 := Yba.isAgg46
  z70 := Yba.sizeOf46
  v70 := Yba.zeroValue46
  t72 := Yba.underlying48
  a72 := Yba.isAgg48
  z72 := Yba.sizeOf48
  v72 := Yba.zeroValue48
  t127 := Yba.underlying69
  a127 := Yba.isAgg69
  z127 := Yba.sizeOf69
  v127 := Yba.zeroValue69 }
theorem Yba.Builder_Extra_169 : Builder.Extra Yba.prog Yba.lays169_ren := {
  sizeBuilder := by kernel_rfl
  liesBuilder := by kernel_rfl
  t5 := Yba.underlying5
  a5 := Yba.isAgg5
  z5 := Yba.sizeOf5
  v5 := Yba.zeroValue5
  infoByte := by kernel_rfl
  cellsByte := by kernel_rfl
  sizeByte := by kernel_rfl
  neB5 := by decide }
open Go.RowKit in
/-- (*strings.Builder).String OF A BUILDER THAT HOLDS NO BYTE: the empty string. One draw. (LAID: no walk: one application.) -/
theorem Yba.Builder_String_empty (B b : Nat) (w : World) (h : Lib.IsBuilder 48 5 B b [] w) (hBw : B ≤ w.heap.size) :
    Calls Yba.prog 21 #[.pointer (some ⟨b, 0, none⟩)] w fun e w' => e = .returned (.string ⟨#[]⟩) ∧ Below B w w' := Any.Builder_String_empty Yba.lays169 Yba.Builder_Extra_169 B b w h hBw
open Go.RowKit in
/-- (*strings.Builder).String: "String returns the accumulated string.": WHATEVER THE BUILDER HOLDS. (LAID: no walk: one application.) -/
theorem Yba.Builder_String_any (B b : Nat) (l : List UInt8) (w : World) (h : Lib.IsBuilder 48 5 B b (Lib.byteCells l) w) (hBw : B ≤ w.heap.size) :
    Calls Yba.prog 21 #[.pointer (some ⟨b, 0, none⟩)] w fun e w' => e = .returned (.string ⟨l.toArray⟩) ∧ Below B w w' := Any.Builder_String_any Yba.lays169 Yba.Builder_Extra_169 B b l w h hBw
def Yba.lays105_ren : Go.Shelf.Ren := ⟨fun | 105 => 42 | 212 => 59 | 99 => 60 | 165 => 61 | 166 => 19 | 170 => 62 | 169 => 21 | 263 => 70 | 264 => 71 | 206 => 72 | 240 => 40 | 241 => 73 | 276 => 58 | 277 => 74 | n => n, fun | 9 => 9 | 3 => 3 | 4 => 4 | 20 => 20 | 0 => 0 | 46 => 27 | 109 => 78 | 5 => 5 | 72 => 48 | 76 => 51 | 51 => 89 | 146 => 92 | 53 => 25 | 148 => 94 | 70 => 46 | 37 => 26 | 75 => 50 | 127 => 69 | 164 => 83 | 80 => 54 | n => n, fun | n => n⟩
theorem Yba.lays105 : Go.Proofs.Lays.n105 Yba.prog Yba.lays105_ren := {
  mixed := by kernel_rfl
  f99 := Yba.func60.trans (congrArg some (by kernel_rfl))
  f105 := Yba.func42.trans (congrArg some (by kernel_rfl))
  f165 := Yba.func61.trans (congrArg some (by kernel_rfl))
  f166 := Yba.func19.trans (congrArg some (by kernel_rfl))
  f169 := Yba.func21.trans (congrArg some (by kernel_rfl))
  f170 := Yba.func62.trans (congrArg some (by kernel_rfl))
  f206 := Yba.func72.trans (congrArg some (by kernel_rfl))
  f212 := Yba.func59.trans (congrArg some (by kernel_rfl))
  f240 := Yba.func40.trans (congrArg some (by kernel_rfl))
  f241 := Yba.func73.trans (congrArg some (by kernel_rfl))
  f263 := Yba.func70.trans (congrArg some (by kernel_rfl))
  f264 := Yba.func71.trans (congrArg some (by kernel_rfl))
  f276 := Yba.func58.trans (congrArg some (by kernel_rfl))
  f277 := Yba.func74.trans (congrArg some (by kernel_rfl))
  t0 := Yba.underlying0
  a0 := Yba.isAgg0
  z0 := Yba.sizeOf0
  v0 := Yba.zeroValue0
  t3 := Yba.underlying3
  a3 := Yba.isAgg3
  z3 := Yba.sizeOf3
  v3 := Yba.zeroValue3
  t4 := Yba.underlying4
  a4 := Yba.isAgg4
  z4 := Yba.sizeOf4
  v4 := Yba.zeroValue4
  t5 := Yba.underlying5
  a5 := Yba.isAgg5
  z5 := Yba.sizeOf5
  v5 := Yba.zeroValue5
  t9 := Yba.underlying9
  a9 := Yba.isAgg9
  z9 := Yba.sizeOf9
  v9 := Yba.zeroValue9
  t20 := Yba.underlying20
  a20 := Yba.isAgg20
  z20 := Yba.sizeOf20
  v20 := Yba.zeroValue20
  t37 := Yba.underlying26
  a37 := Yba.isAgg26
  z37 := Yba.sizeOf26
  v37 := Yba.zeroValue26
  t46 := Yba.underlying27
  a46 := Yba.isAgg27
  z46 := Yba.sizeOf27
  v46 := Yba.zeroValue27
  t51 := Yba.underlying89
  a51 := Yba.isAgg89
  z51 := Yba.sizeOf89
  v51 := Yba.zeroValue89
  t53 := Yba.underlying25
  a53 := Yba.isAgg25
  z53 := Yba.sizeOf25
  v53 := Yba.zeroValue25
  t70 := Yba.underlying46
  a70 := Yba.isAgg46
  z70 := Yba.sizeOf46
  v70 := Yba.zeroValue46
  t72 := Yba.underlying48
  a72 := Yba.isAgg48
  z72 := Yba.sizeOf48
  v72 := Yba.zeroValue48
  t75 := Yba.underlying50
  a75 := Yba.isAgg50
  z75 := Yba.sizeOf50
  v75 := Yba.zeroValue50
  t76 := Yba.underlying51
  a76 := Yba.isAgg51
  z76 := Yba.sizeOf51
  v76 := Yba.zeroValue51
  t109 := Yba.underlying78
  a109 := Yba.isAgg78
  z109 := Yba.sizeOf78
  v109 := Yba.zeroValue78
  t127 := Yba.underlying69
  a127 := Yba.isAgg69
  z127 := Yba.sizeOf69
  v127 := Yba.zeroValue69
  t146 := Yba.underlying92
  a146 := Yba.isAgg92
  z146 := Yba.sizeOf92
  v146 := Yba.zeroValue92
  t148 := Yba.underlying94
  a148 := Yba.isAgg94
  z148 := Yba.sizeOf94
  v148 := Yba.zeroValue94
  t164 := Yba.underlying83
  a164 := Yba.isAgg83
  z164 := Yba.sizeOf83
  v164 := Yba.zeroValue83 }
theorem Yba.Builder_Extra_105 : Builder.Extra Yba.prog Yba.lays105_ren := {
  sizeBuilder := by kernel_rfl
  liesBuilder := by kernel_rfl
  t5 := Yba.underlying5
  a5 := Yba.isAgg5
  z5 := Yba.sizeOf5
  v5 := Yba.zeroValue5
  infoByte := by kernel_rfl
  cellsByte := by kernel_rfl
  sizeByte := by kernel_rfl
  neB5 := by decide }
open Go.RowKit Go.Lib in
/-- **strings.Repeat: count ≥ 0, the result within one allocation: count copies of s.** (LAID: no walk: one application.) -/
theorem Yba.strings_Repeat (s : ByteArray) (c : Nat) (w : World) (hc : c ≤ 9223372036854775807) (hlen : s.size * c ≤ 140737488355328) :
    Calls Yba.prog 42 #[.string s, .int .i64 c] w fun e w' => e = .returned (.string ⟨(Lib.repeatL s.data.toList c).toArray⟩) ∧ Below w.heap.size w w' := Any.strings_Repeat Yba.lays105 Yba.Builder_Extra_105 s c w hc hlen
/-! ### LAID BY HAND, IN THE SAME PLAIN WORDS: WriteString, WriteByte (the tool told them as not laid: their own bodies name no type 20; the table of numbers is taken from strings.Repeat's) -/
def Yba.laysW_ren : Go.Shelf.Ren := ⟨fun | 166 => 19 | 167 => 41 | 240 => 40 | 276 => 58 | n => n, fun | 9 => 9 | 3 => 3 | 4 => 4 | 20 => 20 | 0 => 0 | 46 => 27 | 109 => 78 | 5 => 5 | 72 => 48 | 76 => 51 | 51 => 89 | 146 => 92 | 53 => 25 | 148 => 94 | 70 => 46 | 37 => 26 | 75 => 50 | 127 => 69 | 164 => 83 | 80 => 54 | n => n, fun | n => n⟩
theorem Yba.lays166 : Go.Proofs.Lays.n166 Yba.prog Yba.laysW_ren := {
  mixed := by kernel_rfl
  f166 := Yba.func19.trans (congrArg some (by kernel_rfl))
  f240 := Yba.func40.trans (congrArg some (by kernel_rfl))
  f276 := Yba.func58.trans (congrArg some (by kernel_rfl))
  t0 := Yba.underlying0
  a0 := Yba.isAgg0
  z0 := Yba.sizeOf0
  v0 := Yba.zeroValue0
  t3 := Yba.underlying3
  a3 := Yba.isAgg3
  z3 := Yba.sizeOf3
  v3 := Yba.zeroValue3
  t4 := Yba.underlying4
  a4 := Yba.isAgg4
  z4 := Yba.sizeOf4
  v4 := Yba.zeroValue4
  t9 := Yba.underlying9
  a9 := Yba.isAgg9
  z9 := Yba.sizeOf9
  v9 := Yba.zeroValue9
  t20 := Yba.underlying20
  a20 := Yba.isAgg20
  z20 := Yba.sizeOf20
  v20 := Yba.zeroValue20
  t37 := Yba.underlying26
  a37 := Yba.isAgg26
  z37 := Yba.sizeOf26
  v37 := Yba.zeroValue26
  t70 := Yba.underlying46
  a70 := Yba.isAgg46
  z70 := Yba.sizeOf46
  v70 := Yba.zeroValue46
  t72 := Yba.underlying48
  a72 := Yba.isAgg48
  z72 := Yba.sizeOf48
  v72 := Yba.zeroValue48
  t75 := Yba.underlying50
  a75 := Yba.isAgg50
  z75 := Yba.sizeOf50
  v75 := Yba.zeroValue50
  t164 := Yba.underlying83
  a164 := Yba.isAgg83
  z164 := Yba.sizeOf83
  v164 := Yba.zeroValue83 }
theorem Yba.lays167 : Go.Proofs.Lays.n167 Yba.prog Yba.laysW_ren := {
  mixed := by kernel_rfl
  f167 := Yba.func41.trans (congrArg some (by kernel_rfl))
  f240 := Yba.func40.trans (congrArg some (by kernel_rfl))
  f276 := Yba.func58.trans (congrArg some (by kernel_rfl))
  t0 := Yba.underlying0
  a0 := Yba.isAgg0
  z0 := Yba.sizeOf0
  v0 := Yba.zeroValue0
  t4 := Yba.underlying4
  a4 := Yba.isAgg4
  z4 := Yba.sizeOf4
  v4 := Yba.zeroValue4
  t5 := Yba.underlying5
  a5 := Yba.isAgg5
  z5 := Yba.sizeOf5
  v5 := Yba.zeroValue5
  t9 := Yba.underlying9
  a9 := Yba.isAgg9
  z9 := Yba.sizeOf9
  v9 := Yba.zeroValue9
  t20 := Yba.underlying20
  a20 := Yba.isAgg20
  z20 := Yba.sizeOf20
  v20 := Yba.zeroValue20
  t37 := Yba.underlying26
  a37 := Yba.isAgg26
  z37 := Yba.sizeOf26
  v37 := Yba.zeroValue26
  t70 := Yba.underlying46
  a70 := Yba.isAgg46
  z70 := Yba.sizeOf46
  v70 := Yba.zeroValue46
  t72 := Yba.underlying48
  a72 := Yba.isAgg48
  z72 := Yba.sizeOf48
  v72 := Yba.zeroValue48
  t75 := Yba.underlying50
  a75 := Yba.isAgg50
  z75 := Yba.sizeOf50
  v75 := Yba.zeroValue50
  t164 := Yba.underlying83
  a164 := Yba.isAgg83
  z164 := Yba.sizeOf83
  v164 := Yba.zeroValue83 }
theorem Yba.Builder_Extra_W : Builder.Extra Yba.prog Yba.laysW_ren := {
  sizeBuilder := by kernel_rfl
  liesBuilder := by kernel_rfl
  t5 := Yba.underlying5
  a5 := Yba.isAgg5
  z5 := Yba.sizeOf5
  v5 := Yba.zeroValue5
  infoByte := by kernel_rfl
  cellsByte := by kernel_rfl
  sizeByte := by kernel_rfl
  neB5 := by decide }
open Go.RowKit Go.Lib in
/-- (*strings.Builder).WriteString. -/
theorem Yba.Builder_WriteString (B b : Nat) (bs : List Value) (s : ByteArray) (w : World) (h : Lib.IsBuilder 48 5 B b bs w) (hlen : bs.length + s.size ≤ 140737488355328) (hBw : B ≤ w.heap.size) :
    Calls Yba.prog 19 #[.pointer (some ⟨b, 0, none⟩), .string s] w fun e w' => e = .returned (.tuple #[.int .i64 s.size, .nilIface]) ∧ (Lib.BuilderAt 48 5 B b (.pointer (some ⟨b, 0, none⟩)) (bs ++ Lib.strCells s) w' ∧ Below B w w') :=
  Any.Builder_WriteString Yba.lays166 Yba.Builder_Extra_W B b bs s w h hlen hBw
open Go.RowKit Go.Lib in
/-- (*strings.Builder).WriteByte. -/
theorem Yba.Builder_WriteByte (B b : Nat) (bs : List Value) (c : Int) (w : World) (h : Lib.IsBuilder 48 5 B b bs w) (hlen : bs.length + 1 ≤ 140737488355328) (hBw : B ≤ w.heap.size) :
    Calls Yba.prog 41 #[.pointer (some ⟨b, 0, none⟩), .int .u8 c] w fun e w' => e = .returned .nilIface ∧ (Lib.BuilderAt 48 5 B b (.pointer (some ⟨b, 0, none⟩)) (bs ++ [.int .u8 c]) w' ∧ Below B w w') :=
  Any.Builder_WriteByte Yba.lays167 Yba.Builder_Extra_W B b bs c w h hlen hBw
end Go.Proofs
