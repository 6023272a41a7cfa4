/-
  DERIVED: THE SHELF's CONTRACTS AT THIS DUMP, IN PLAIN WORDS (tools/lay-plain.mjs out of 'TryfShelf.lean', which tools/lay-shelf.mjs wrote): THE SAME DECLARATIONS UNDER THE SAME NAMES: 'import', 'namespace', 'open', 'def', 'theorem' AND NOTHING ELSE: no command of the shelf's: FOR A HAND-IN. Each laying: the table of numbers ('.._ren') and one theorem, a field a fact of the dump's own or the kernel's comparison; each contract: ONE APPLICATION.
-/
import Derived.Shelf.Strings.Builder1
import Derived.Shelf.Small.Utf8
import Derived.Shelf.Strings.BuilderF
import Derived.Shelf.Strings.BuilderK
import Derived.Shelf.Strings.BuilderRune
import Derived.Shelf.Utf8.AppendRune
import Derived.Shelf.Utf8.AppendRunePlain
import Derived.Shelf.Strings.Fold
import Derived.Shelf.Unicode.Decode
import Derived.Shelf.Unicode.DecodeSlow
import Derived.Shelf.Unicode.DecodeAny
import Derived.Shelf.Unicode.CaseLookup
import Derived.Shelf.Unicode.CaseConvert
import Derived.Test.YtmomkkakjkkakaaFmtProg
namespace Go.Proofs
open Go.Shelf
def Tryf.lays169_ren : Go.Shelf.Ren := ⟨fun | 169 => 80 | n => n, fun | 70 => 109 | 9 => 9 | 0 => 0 | 72 => 111 | 37 => 31 | 127 => 124 | 3 => 3 | 5 => 5 | n => n, fun | n => n⟩
theorem Tryf.lays169 : Go.Proofs.Lays.n169 Tryf.prog Tryf.lays169_ren := {
  mixed := by kernel_rfl
  f169 := Tryf.func80.trans (congrArg some (by kernel_rfl))
  t0 := Tryf.underlying0
  a0 := Tryf.isAgg0
  z0 := Tryf.sizeOf0
  v0 := Tryf.zeroValue0
  t3 := Tryf.underlying3
  a3 := Tryf.isAgg3
  z3 := Tryf.sizeOf3
  v3 := Tryf.zeroValue3
  t9 := Tryf.underlying9
  a9 := Tryf.isAgg9
  z9 := Tryf.sizeOf9
  v9 := Tryf.zeroValue9
  t37 := Tryf.underlying31
  a37 := Tryf.isAgg31
  z37 := Tryf.sizeOf31
  v37 := Tryf.zeroValue31
  t70 := Tryf.underlying109
  a70 := Tryf.isAgg109
  z70 := Tryf.sizeOf109
  v70 := Tryf.zeroValue109
  t72 := Tryf.underlying111
  a72 := Tryf.isAgg111
  z72 := Tryf.sizeOf111
  v72 := Tryf.zeroValue111
  t127 := Tryf.underlying124
  a127 := Tryf.isAgg124
  z127 := Tryf.sizeOf124
  v127 := Tryf.zeroValue124 }
theorem Tryf.Builder_Extra_169 : Builder.Extra Tryf.prog Tryf.lays169_ren := {
  sizeBuilder := by kernel_rfl
  liesBuilder := by kernel_rfl
  t5 := Tryf.underlying5
  a5 := Tryf.isAgg5
  z5 := Tryf.sizeOf5
  v5 := Tryf.zeroValue5
  infoByte := by kernel_rfl
  cellsByte := by kernel_rfl
  sizeByte := by kernel_rfl
  neB5 := by decide }
open Go.RowKit in
/-- (*strings.Builder).String: "String returns the accumulated string.": OF A BUILDER THAT HOLDS AT LEAST ONE BYTE. ✋ THE MODEL FREEZES THOSE BYTES IN THE BUFFER (unsafe.String): a later write INTO them ends the model's run without an answer; a later append BEHIND them goes on. The statement's order of evaluation is drawn: one draw. (LAID: no walk: one application.) -/
theorem Tryf.Builder_String (B b : Nat) (l : List UInt8) (w : World) (h : Lib.IsBuilder 111 5 B b (Lib.byteCells l) w) (h0 : l ≠ []) :
    Calls Tryf.prog 80 #[.pointer (some ⟨b, 0, none⟩)] w fun e w' => e = .returned (.string ⟨l.toArray⟩) ∧ Below B w w' := Any.Builder_String Tryf.lays169 Tryf.Builder_Extra_169 B b l w h h0
open Go.RowKit in
/-- (*strings.Builder).String OF A BUILDER THAT HOLDS NO BYTE: the empty string. (Its buffer is nil, or a row of which it has taken nothing yet; where that row has NO capacity the model lays one new block for unsafe.SliceData's 'some address'.) One draw. (LAID: no walk: one application.) -/
theorem Tryf.Builder_String_empty (B b : Nat) (w : World) (h : Lib.IsBuilder 111 5 B b [] w) (hBw : B ≤ w.heap.size) :
    Calls Tryf.prog 80 #[.pointer (some ⟨b, 0, none⟩)] w fun e w' => e = .returned (.string ⟨#[]⟩) ∧ Below B w w' := Any.Builder_String_empty Tryf.lays169 Tryf.Builder_Extra_169 B b w h hBw
open Go.RowKit in
/-- (*strings.Builder).String: "String returns the accumulated string.": WHATEVER THE BUILDER HOLDS. (LAID: no walk: one application.) -/
theorem Tryf.Builder_String_any (B b : Nat) (l : List UInt8) (w : World) (h : Lib.IsBuilder 111 5 B b (Lib.byteCells l) w) (hBw : B ≤ w.heap.size) :
    Calls Tryf.prog 80 #[.pointer (some ⟨b, 0, none⟩)] w fun e w' => e = .returned (.string ⟨l.toArray⟩) ∧ Below B w w' := Any.Builder_String_any Tryf.lays169 Tryf.Builder_Extra_169 B b l w h hBw
def Tryf.lays118_ren : Go.Shelf.Ren := ⟨fun | 118 => 68 | n => n, fun | 21 => 21 | 3 => 3 | 4 => 4 | n => n, fun | n => n⟩
theorem Tryf.lays118 : Go.Proofs.Lays.n118 Tryf.prog Tryf.lays118_ren := {
  mixed := by kernel_rfl
  f118 := Tryf.func68.trans (congrArg some (by kernel_rfl))
  t3 := Tryf.underlying3
  a3 := Tryf.isAgg3
  z3 := Tryf.sizeOf3
  v3 := Tryf.zeroValue3
  t4 := Tryf.underlying4
  a4 := Tryf.isAgg4
  z4 := Tryf.sizeOf4
  v4 := Tryf.zeroValue4
  t21 := Tryf.underlying21
  a21 := Tryf.isAgg21
  z21 := Tryf.sizeOf21
  v21 := Tryf.zeroValue21 }
/-- utf8.RuneLen: "RuneLen returns the number of bytes in the UTF-8 encoding of the rune. It returns -1 if the rune is not a valid value to encode in UTF-8.": IT RETURNS 'Lib.runeLen r'; the world is as it was. (LAID: no walk: one application.) -/
theorem Tryf.utf8_RuneLen (r : Int) (w : World) :
    Calls Tryf.prog 68 #[.int .i32 r] w fun e w' => e = .returned (.int .i64 (Lib.runeLen r)) ∧ w' = w := Any.utf8_RuneLen Tryf.lays118 r w
open Go.RowKit in
/-- (*strings.Builder).String: "String returns the accumulated string.": OF A BUILDER THAT HOLDS AT LEAST ONE BYTE. ✋ THE MODEL FREEZES THOSE BYTES IN THE BUFFER (unsafe.String): a later write INTO them ends the model's run without an answer; a later append BEHIND them goes on. The statement's order of evaluation is drawn: one draw. THE FORM '_f': IT SAYS BESIDES THAT THE BUILDER IS A BUILDER STILL ('Lib.IsBuilderF', the same bytes): SO IT CAN BE WRITTEN ON: 'b.WriteString(b.String()[:k])'. (LAID: no walk: one application.) -/
theorem Tryf.Builder_String_f (B b : Nat) (l : List UInt8) (w : World) (h : Lib.IsBuilderF 111 5 B b (Lib.byteCells l) w) (h0 : l ≠ []) :
    Calls Tryf.prog 80 #[.pointer (some ⟨b, 0, none⟩)] w fun e w' => e = .returned (.string ⟨l.toArray⟩) ∧ (Lib.IsBuilderF 111 5 B b (Lib.byteCells l) w' ∧ Below B w w') := Any.Builder_String_f Tryf.lays169 Tryf.Builder_Extra_169 B b l w h h0
open Go.RowKit in
/-- (*strings.Builder).String OF A BUILDER THAT HOLDS NO BYTE: the empty string; THE FORM '_f': a builder still. (LAID: no walk: one application.) -/
theorem Tryf.Builder_String_empty_f (B b : Nat) (w : World) (h : Lib.IsBuilderF 111 5 B b [] w) (hBw : B ≤ w.heap.size) :
    Calls Tryf.prog 80 #[.pointer (some ⟨b, 0, none⟩)] w fun e w' => e = .returned (.string ⟨#[]⟩) ∧ (Lib.IsBuilderF 111 5 B b [] w' ∧ Below B w w') := Any.Builder_String_empty_f Tryf.lays169 Tryf.Builder_Extra_169 B b w h hBw
open Go.RowKit in
/-- (*strings.Builder).String: "String returns the accumulated string.": WHATEVER THE BUILDER HOLDS; THE FORM '_f': OF A BUILDER THAT MAY HAVE BEEN READ BEFORE; AND IT IS A BUILDER STILL, holding the same bytes: it can be written on. (LAID: no walk: one application.) -/
theorem Tryf.Builder_String_any_f (B b : Nat) (l : List UInt8) (w : World) (h : Lib.IsBuilderF 111 5 B b (Lib.byteCells l) w) (hBw : B ≤ w.heap.size) :
    Calls Tryf.prog 80 #[.pointer (some ⟨b, 0, none⟩)] w fun e w' => e = .returned (.string ⟨l.toArray⟩) ∧ (Lib.IsBuilderF 111 5 B b (Lib.byteCells l) w' ∧ Below B w w') := Any.Builder_String_any_f Tryf.lays169 Tryf.Builder_Extra_169 B b l w h hBw
open Go.RowKit in
/-- (*strings.Builder).String: "String returns the accumulated string.": OF A BUILDER THAT HOLDS AT LEAST ONE BYTE. ✋ THE MODEL FREEZES THOSE BYTES IN THE BUFFER (unsafe.String): a later write INTO them ends the model's run without an answer; a later append BEHIND them goes on. The statement's order of evaluation is drawn: one draw. THE FORM '_k': OVER 'Lib.IsBuilderF' (a builder that 'String()' may have read), AND WITH THE FRAME THAT REACHES ABOVE THE BUILDER: 'Lib.OthersKept': every block that is not b and is no row of uint8's stands as it stood: the iterator of a range among them. (LAID: no walk: one application.) -/
theorem Tryf.Builder_String_k (B b : Nat) (l : List UInt8) (w : World) (h : Lib.IsBuilderF 111 5 B b (Lib.byteCells l) w) (h0 : l ≠ []) :
    Calls Tryf.prog 80 #[.pointer (some ⟨b, 0, none⟩)] w fun e w' => e = .returned (.string ⟨l.toArray⟩) ∧ (Lib.IsBuilderF 111 5 B b (Lib.byteCells l) w' ∧ Below B w w' ∧ Lib.OthersKept 5 (some b) w w') := Any.Builder_String_k Tryf.lays169 Tryf.Builder_Extra_169 B b l w h h0
open Go.RowKit in
/-- (*strings.Builder).String OF A BUILDER THAT HOLDS NO BYTE: the empty string; THE FORM '_k': OVER 'Lib.IsBuilderF' (a builder that 'String()' may have read), AND WITH THE FRAME THAT REACHES ABOVE THE BUILDER: 'Lib.OthersKept': every block that is not b and is no row of uint8's stands as it stood: the iterator of a range among them. (LAID: no walk: one application.) -/
theorem Tryf.Builder_String_empty_k (B b : Nat) (w : World) (h : Lib.IsBuilderF 111 5 B b [] w) (hBw : B ≤ w.heap.size) :
    Calls Tryf.prog 80 #[.pointer (some ⟨b, 0, none⟩)] w fun e w' => e = .returned (.string ⟨#[]⟩) ∧ (Lib.IsBuilderF 111 5 B b [] w' ∧ Below B w w' ∧ Lib.OthersKept 5 (some b) w w') := Any.Builder_String_empty_k Tryf.lays169 Tryf.Builder_Extra_169 B b w h hBw
open Go.RowKit in
/-- (*strings.Builder).String: "String returns the accumulated string.": WHATEVER THE BUILDER HOLDS; THE FORM '_k': OVER 'Lib.IsBuilderF' (a builder that 'String()' may have read), AND WITH THE FRAME THAT REACHES ABOVE THE BUILDER: 'Lib.OthersKept': every block that is not b and is no row of uint8's stands as it stood: the iterator of a range among them. (LAID: no walk: one application.) -/
theorem Tryf.Builder_String_any_k (B b : Nat) (l : List UInt8) (w : World) (h : Lib.IsBuilderF 111 5 B b (Lib.byteCells l) w) (hBw : B ≤ w.heap.size) :
    Calls Tryf.prog 80 #[.pointer (some ⟨b, 0, none⟩)] w fun e w' => e = .returned (.string ⟨l.toArray⟩) ∧ (Lib.IsBuilderF 111 5 B b (Lib.byteCells l) w' ∧ Below B w w' ∧ Lib.OthersKept 5 (some b) w w') := Any.Builder_String_any_k Tryf.lays169 Tryf.Builder_Extra_169 B b l w h hBw
def Tryf.lays278_ren : Go.Shelf.Ren := ⟨fun | 278 => 99 | n => n, fun | 37 => 31 | 21 => 21 | 51 => 59 | 4 => 4 | 46 => 89 | 5 => 5 | n => n, fun | n => n⟩
theorem Tryf.lays278 : Go.Proofs.Lays.n278 Tryf.prog Tryf.lays278_ren := {
  mixed := by kernel_rfl
  f278 := Tryf.func99.trans (congrArg some (by kernel_rfl))
  t4 := Tryf.underlying4
  a4 := Tryf.isAgg4
  z4 := Tryf.sizeOf4
  v4 := Tryf.zeroValue4
  t5 := Tryf.underlying5
  a5 := Tryf.isAgg5
  z5 := Tryf.sizeOf5
  v5 := Tryf.zeroValue5
  t21 := Tryf.underlying21
  a21 := Tryf.isAgg21
  z21 := Tryf.sizeOf21
  v21 := Tryf.zeroValue21
  t37 := Tryf.underlying31
  a37 := Tryf.isAgg31
  z37 := Tryf.sizeOf31
  v37 := Tryf.zeroValue31
  t46 := Tryf.underlying89
  a46 := Tryf.isAgg89
  z46 := Tryf.sizeOf89
  v46 := Tryf.zeroValue89
  t51 := Tryf.underlying59
  a51 := Tryf.isAgg59
  z51 := Tryf.sizeOf59
  v51 := Tryf.zeroValue59 }
open Go.RowKit in
/-- unicode/utf8.appendRuneNonASCII (what AppendRune calls for all but ASCII), ONTO A ROW OF BYTES THAT THE CALL OWNS: every int32 that is no ASCII rune: 'Lib.runeCells r' goes in behind what the row holds. (LAID: no walk: one application.) -/
theorem Tryf.utf8_appendRuneNonASCII_row (B : Nat) (v : Value) (n : Nat) (xs : List Value) (r : Int) (hr0 : -2147483648 ≤ r) (hr1 : r ≤ 2147483647) (hna : r < 0 ∨ 128 ≤ r) (w : World) (hown : w.ownsRowF B 5 1 v n xs) (hlen : n + 4 ≤ 140737488355328) (hBw : B ≤ w.heap.size) :
    Calls Tryf.prog 99 #[v, .int .i32 r] w fun e w' => ∃ v', e = .returned v' ∧ w'.ownsRowF B 5 1 v' (n + (Lib.runeCells r).length) (xs ++ Lib.runeCells r) ∧ ∃ o, (w.alloc o).grownBy w' v.ownBlock := Any.utf8_appendRuneNonASCII_row Tryf.lays278 (by kernel_rfl) B v n xs r hr0 hr1 hna w hown hlen hBw
def Tryf.lays242_ren : Go.Shelf.Ren := ⟨fun | 242 => 93 | 278 => 99 | n => n, fun | 37 => 31 | 21 => 21 | 51 => 59 | 4 => 4 | 5 => 5 | 46 => 89 | n => n, fun | n => n⟩
theorem Tryf.lays242 : Go.Proofs.Lays.n242 Tryf.prog Tryf.lays242_ren := {
  mixed := by kernel_rfl
  f242 := Tryf.func93.trans (congrArg some (by kernel_rfl))
  f278 := Tryf.func99.trans (congrArg some (by kernel_rfl))
  t4 := Tryf.underlying4
  a4 := Tryf.isAgg4
  z4 := Tryf.sizeOf4
  v4 := Tryf.zeroValue4
  t5 := Tryf.underlying5
  a5 := Tryf.isAgg5
  z5 := Tryf.sizeOf5
  v5 := Tryf.zeroValue5
  t21 := Tryf.underlying21
  a21 := Tryf.isAgg21
  z21 := Tryf.sizeOf21
  v21 := Tryf.zeroValue21
  t37 := Tryf.underlying31
  a37 := Tryf.isAgg31
  z37 := Tryf.sizeOf31
  v37 := Tryf.zeroValue31
  t46 := Tryf.underlying89
  a46 := Tryf.isAgg89
  z46 := Tryf.sizeOf89
  v46 := Tryf.zeroValue89
  t51 := Tryf.underlying59
  a51 := Tryf.isAgg59
  z51 := Tryf.sizeOf59
  v51 := Tryf.zeroValue59 }
open Go.RowKit in
/-- unicode/utf8.AppendRune: "AppendRune appends the UTF-8 encoding of r to the end of p and returns the extended buffer. If the rune is out of range, it appends the encoding of RuneError.": ONTO A ROW OF BYTES THAT THE CALL OWNS (its head frozen or not): EVERY int32: 'Lib.runeCells r' goes in behind what the row holds; the world: one new block (the bytes as the call's variadic argument), then what 'append' does to the row. (LAID: no walk: one application.) -/
theorem Tryf.utf8_AppendRune_row (B : Nat) (v : Value) (n : Nat) (xs : List Value) (r : Int) (hr0 : -2147483648 ≤ r) (hr1 : r ≤ 2147483647) (w : World) (hown : w.ownsRowF B 5 1 v n xs) (hlen : n + 4 ≤ 140737488355328) (hBw : B ≤ w.heap.size) :
    Calls Tryf.prog 93 #[v, .int .i32 r] w fun e w' => ∃ v', e = .returned v' ∧ w'.ownsRowF B 5 1 v' (n + (Lib.runeCells r).length) (xs ++ Lib.runeCells r) ∧ ∃ o, (w.alloc o).grownBy w' v.ownBlock := Any.utf8_AppendRune_row Tryf.lays242 (by kernel_rfl) B v n xs r hr0 hr1 w hown hlen hBw
open Go.RowKit in
/-- unicode/utf8.appendRuneNonASCII (what AppendRune calls for all but ASCII), ONTO A ROW OF BYTES THAT THE CALL OWNS: every int32 that is no ASCII rune: 'Lib.runeCells r' goes in behind what the row holds. (LAID: no walk: one application.) -/
theorem Tryf.utf8_appendRuneNonASCII_plain (B : Nat) (v : Value) (n : Nat) (xs : List Value) (r : Int) (hr0 : -2147483648 ≤ r) (hr1 : r ≤ 2147483647) (hna : r < 0 ∨ 128 ≤ r) (w : World) (hown : w.ownsRow B 5 1 v n xs) (hlen : n + 4 ≤ 140737488355328) (hBw : B ≤ w.heap.size) :
    Calls Tryf.prog 99 #[v, .int .i32 r] w fun e w' => ∃ v', e = .returned v' ∧ w'.ownsRow B 5 1 v' (n + (Lib.runeCells r).length) (xs ++ Lib.runeCells r) ∧ ∃ o, (w.alloc o).grownBy w' v.ownBlock := Any.utf8_appendRuneNonASCII_plain Tryf.lays278 (by kernel_rfl) B v n xs r hr0 hr1 hna w hown hlen hBw
open Go.RowKit in
/-- unicode/utf8.AppendRune: "AppendRune appends the UTF-8 encoding of r to the end of p and returns the extended buffer. If the rune is out of range, it appends the encoding of RuneError.": ONTO A ROW OF BYTES THAT THE CALL OWNS (its head frozen or not): EVERY int32: 'Lib.runeCells r' goes in behind what the row holds; the world: one new block (the bytes as the call's variadic argument), then what 'append' does to the row. (LAID: no walk: one application.) -/
theorem Tryf.utf8_AppendRune_plain (B : Nat) (v : Value) (n : Nat) (xs : List Value) (r : Int) (hr0 : -2147483648 ≤ r) (hr1 : r ≤ 2147483647) (w : World) (hown : w.ownsRow B 5 1 v n xs) (hlen : n + 4 ≤ 140737488355328) (hBw : B ≤ w.heap.size) :
    Calls Tryf.prog 93 #[v, .int .i32 r] w fun e w' => ∃ v', e = .returned v' ∧ w'.ownsRow B 5 1 v' (n + (Lib.runeCells r).length) (xs ++ Lib.runeCells r) ∧ ∃ o, (w.alloc o).grownBy w' v.ownBlock := Any.utf8_AppendRune_plain Tryf.lays242 (by kernel_rfl) B v n xs r hr0 hr1 w hown hlen hBw
def Tryf.lays164_ren : Go.Shelf.Ren := ⟨fun | 164 => 75 | 197 => 73 | 239 => 91 | 260 => 90 | 274 => 96 | 275 => 97 | n => n, fun | 9 => 9 | 4 => 4 | 3 => 3 | 5 => 5 | 0 => 0 | 21 => 21 | 105 => 105 | 156 => 129 | 49 => 60 | 157 => 130 | 46 => 89 | 159 => 132 | 162 => 135 | 160 => 133 | 119 => 125 | 139 => 128 | 138 => 127 | 208 => 142 | 51 => 59 | 206 => 140 | n => n, fun | 11 => 2 | 12 => 3 | 13 => 4 | 3 => 0 | 4 => 1 | n => n⟩
theorem Tryf.lays164 : Go.Proofs.Lays.n164 Tryf.prog Tryf.lays164_ren := {
  mixed := by kernel_rfl
  f164 := Tryf.func75.trans (congrArg some (by kernel_rfl))
  f197 := Tryf.func73.trans (congrArg some (by kernel_rfl))
  f239 := Tryf.func91.trans (congrArg some (by kernel_rfl))
  f260 := Tryf.func90.trans (congrArg some (by kernel_rfl))
  f274 := Tryf.func96.trans (congrArg some (by kernel_rfl))
  f275 := Tryf.func97.trans (congrArg some (by kernel_rfl))
  t0 := Tryf.underlying0
  a0 := Tryf.isAgg0
  z0 := Tryf.sizeOf0
  v0 := Tryf.zeroValue0
  t3 := Tryf.underlying3
  a3 := Tryf.isAgg3
  z3 := Tryf.sizeOf3
  v3 := Tryf.zeroValue3
  t4 := Tryf.underlying4
  a4 := Tryf.isAgg4
  z4 := Tryf.sizeOf4
  v4 := Tryf.zeroValue4
  t5 := Tryf.underlying5
  a5 := Tryf.isAgg5
  z5 := Tryf.sizeOf5
  v5 := Tryf.zeroValue5
  t9 := Tryf.underlying9
  a9 := Tryf.isAgg9
  z9 := Tryf.sizeOf9
  v9 := Tryf.zeroValue9
  t21 := Tryf.underlying21
  a21 := Tryf.isAgg21
  z21 := Tryf.sizeOf21
  v21 := Tryf.zeroValue21
  t46 := Tryf.underlying89
  a46 := Tryf.isAgg89
  z46 := Tryf.sizeOf89
  v46 := Tryf.zeroValue89
  t49 := Tryf.underlying60
  a49 := Tryf.isAgg60
  z49 := Tryf.sizeOf60
  v49 := Tryf.zeroValue60
  t51 := Tryf.underlying59
  a51 := Tryf.isAgg59
  z51 := Tryf.sizeOf59
  v51 := Tryf.zeroValue59
  t105 := Tryf.underlying105
  a105 := Tryf.isAgg105
  z105 := Tryf.sizeOf105
  v105 := Tryf.zeroValue105
  t119 := Tryf.underlying125
  a119 := Tryf.isAgg125
  z119 := Tryf.sizeOf125
  t138 := Tryf.underlying127
  a138 := Tryf.isAgg127
  z138 := Tryf.sizeOf127
  v138 := Tryf.zeroValue127
  t139 := Tryf.underlying128
  a139 := Tryf.isAgg128
  z139 := Tryf.sizeOf128
  v139 := Tryf.zeroValue128
  t156 := Tryf.underlying129
  a156 := Tryf.isAgg129
  z156 := Tryf.sizeOf129
  t157 := Tryf.underlying130
  a157 := Tryf.isAgg130
  z157 := Tryf.sizeOf130
  v157 := Tryf.zeroValue130
  t159 := Tryf.underlying132
  a159 := Tryf.isAgg132
  z159 := Tryf.sizeOf132
  v159 := Tryf.zeroValue132
  t160 := Tryf.underlying133
  a160 := Tryf.isAgg133
  z160 := Tryf.sizeOf133
  v160 := Tryf.zeroValue133
  t162 := Tryf.underlying135
  a162 := Tryf.isAgg135
  z162 := Tryf.sizeOf135
  v162 := Tryf.zeroValue135
  t206 := Tryf.underlying140
  a206 := Tryf.isAgg140
  z206 := Tryf.sizeOf140
  v206 := Tryf.zeroValue140
  t208 := Tryf.underlying142
  a208 := Tryf.isAgg142
  z208 := Tryf.sizeOf142
  v208 := Tryf.zeroValue142
  g3 := by kernel_rfl
  g4 := by kernel_rfl
  g11 := by kernel_rfl
  g12 := by kernel_rfl
  g13 := by kernel_rfl }
open Go.RowKit Go.Lib in
theorem Tryf.strings_EqualFold (s t : ByteArray) (w : World) (hs : s.size < 4294967281) (has : ∀ (j : Nat) b, s.data.toList[j]? = some b → b.toNat < 128) (hat : ∀ (j : Nat) b, t.data.toList[j]? = some b → b.toNat < 128) :
    Calls Tryf.prog 75 #[.string s, .string t] w fun e w' => e = .returned (.bool (Lib.equalFold s.data.toList t.data.toList)) ∧ w' = w := Any.strings_EqualFold Tryf.lays164 s t w hs has hat
def Tryf.lays197_ren : Go.Shelf.Ren := ⟨fun | 197 => 73 | 260 => 90 | n => n, fun | 9 => 9 | 21 => 21 | 3 => 3 | 4 => 4 | 5 => 5 | 105 => 105 | 119 => 125 | 0 => 0 | 46 => 89 | 139 => 128 | 138 => 127 | n => n, fun | 3 => 0 | 4 => 1 | n => n⟩
theorem Tryf.lays197 : Go.Proofs.Lays.n197 Tryf.prog Tryf.lays197_ren := {
  mixed := by kernel_rfl
  f197 := Tryf.func73.trans (congrArg some (by kernel_rfl))
  f260 := Tryf.func90.trans (congrArg some (by kernel_rfl))
  t0 := Tryf.underlying0
  a0 := Tryf.isAgg0
  z0 := Tryf.sizeOf0
  v0 := Tryf.zeroValue0
  t3 := Tryf.underlying3
  a3 := Tryf.isAgg3
  z3 := Tryf.sizeOf3
  v3 := Tryf.zeroValue3
  t4 := Tryf.underlying4
  a4 := Tryf.isAgg4
  z4 := Tryf.sizeOf4
  v4 := Tryf.zeroValue4
  t5 := Tryf.underlying5
  a5 := Tryf.isAgg5
  z5 := Tryf.sizeOf5
  v5 := Tryf.zeroValue5
  t9 := Tryf.underlying9
  a9 := Tryf.isAgg9
  z9 := Tryf.sizeOf9
  v9 := Tryf.zeroValue9
  t21 := Tryf.underlying21
  a21 := Tryf.isAgg21
  z21 := Tryf.sizeOf21
  v21 := Tryf.zeroValue21
  t46 := Tryf.underlying89
  a46 := Tryf.isAgg89
  z46 := Tryf.sizeOf89
  v46 := Tryf.zeroValue89
  t105 := Tryf.underlying105
  a105 := Tryf.isAgg105
  z105 := Tryf.sizeOf105
  v105 := Tryf.zeroValue105
  t119 := Tryf.underlying125
  a119 := Tryf.isAgg125
  z119 := Tryf.sizeOf125
  t138 := Tryf.underlying127
  a138 := Tryf.isAgg127
  z138 := Tryf.sizeOf127
  v138 := Tryf.zeroValue127
  t139 := Tryf.underlying128
  a139 := Tryf.isAgg128
  z139 := Tryf.sizeOf128
  v139 := Tryf.zeroValue128
  g3 := by kernel_rfl
  g4 := by kernel_rfl }
open Go.RowKit Go.Lib in
/-- unicode/utf8.DecodeRuneInString: "DecodeRuneInString is like DecodeRune but its input is a string.": ("DecodeRune unpacks the first UTF-8 encoding in p and returns the rune and its width in bytes."): WHERE s BEGINS WITH AN ASCII BYTE x: (x, 1). (LAID: no walk: one application.) -/
theorem Tryf.utf8_DecodeRuneInString_ascii (s : ByteArray) (x : UInt8) (w : World) (h0 : s.data.toList[0]? = some x) (hx : x.toNat < 128) :
    Calls Tryf.prog 73 #[.string s] w fun e w' => e = .returned (.tuple #[.int .i32 x.toNat, .int .i64 1]) ∧ w' = w := Any.utf8_DecodeRuneInString_ascii Tryf.lays197 s x w h0 hx
def Tryf.lays260_ren : Go.Shelf.Ren := ⟨fun | 260 => 90 | n => n, fun | 9 => 9 | 21 => 21 | 3 => 3 | 4 => 4 | 5 => 5 | 119 => 125 | 0 => 0 | 46 => 89 | 139 => 128 | 138 => 127 | n => n, fun | 3 => 0 | 4 => 1 | n => n⟩
theorem Tryf.lays260 : Go.Proofs.Lays.n260 Tryf.prog Tryf.lays260_ren := {
  mixed := by kernel_rfl
  f260 := Tryf.func90.trans (congrArg some (by kernel_rfl))
  t0 := Tryf.underlying0
  a0 := Tryf.isAgg0
  z0 := Tryf.sizeOf0
  v0 := Tryf.zeroValue0
  t3 := Tryf.underlying3
  a3 := Tryf.isAgg3
  z3 := Tryf.sizeOf3
  v3 := Tryf.zeroValue3
  t4 := Tryf.underlying4
  a4 := Tryf.isAgg4
  z4 := Tryf.sizeOf4
  v4 := Tryf.zeroValue4
  t5 := Tryf.underlying5
  a5 := Tryf.isAgg5
  z5 := Tryf.sizeOf5
  v5 := Tryf.zeroValue5
  t9 := Tryf.underlying9
  a9 := Tryf.isAgg9
  z9 := Tryf.sizeOf9
  v9 := Tryf.zeroValue9
  t21 := Tryf.underlying21
  a21 := Tryf.isAgg21
  z21 := Tryf.sizeOf21
  v21 := Tryf.zeroValue21
  t46 := Tryf.underlying89
  a46 := Tryf.isAgg89
  z46 := Tryf.sizeOf89
  v46 := Tryf.zeroValue89
  t119 := Tryf.underlying125
  a119 := Tryf.isAgg125
  z119 := Tryf.sizeOf125
  t138 := Tryf.underlying127
  a138 := Tryf.isAgg127
  z138 := Tryf.sizeOf127
  v138 := Tryf.zeroValue127
  t139 := Tryf.underlying128
  a139 := Tryf.isAgg128
  z139 := Tryf.sizeOf128
  v139 := Tryf.zeroValue128
  g3 := by kernel_rfl
  g4 := by kernel_rfl }
open Go.RowKit Go.Lib in
theorem Tryf.utf8_decodeRuneInStringSlow (s : ByteArray) (w : World) (hT : Lib.Utf8Tabs 0 1 w) :
    Calls Tryf.prog 90 #[.string s] w fun e w' => e = .returned (.tuple #[.int .i32 (Lib.decodeGo s).1, .int .i64 (Lib.decodeGo s).2]) ∧ Below w.heap.size w w' := Any.utf8_decodeRuneInStringSlow Tryf.lays260 s w hT
open Go.RowKit Go.Lib in
/-- **unicode/utf8.DecodeRuneInString AT EVERY STRING.** (LAID: no walk: one application.) -/
theorem Tryf.utf8_DecodeRuneInString (s : ByteArray) (w : World) (hT : Lib.Utf8Tabs 0 1 w) :
    Calls Tryf.prog 73 #[.string s] w fun e w' => e = .returned (.tuple #[.int .i32 (Lib.decodeGo s).1, .int .i64 (Lib.decodeGo s).2]) ∧ Below w.heap.size w w' := Any.utf8_DecodeRuneInString Tryf.lays197 s w hT
def Tryf.lays274_ren : Go.Shelf.Ren := ⟨fun | 274 => 96 | n => n, fun | 21 => 21 | 162 => 135 | 160 => 133 | 3 => 3 | 4 => 4 | 46 => 89 | 0 => 0 | 208 => 142 | 51 => 59 | 206 => 140 | n => n, fun | n => n⟩
theorem Tryf.lays274 : Go.Proofs.Lays.n274 Tryf.prog Tryf.lays274_ren := {
  mixed := by kernel_rfl
  f274 := Tryf.func96.trans (congrArg some (by kernel_rfl))
  t0 := Tryf.underlying0
  a0 := Tryf.isAgg0
  z0 := Tryf.sizeOf0
  v0 := Tryf.zeroValue0
  t3 := Tryf.underlying3
  a3 := Tryf.isAgg3
  z3 := Tryf.sizeOf3
  v3 := Tryf.zeroValue3
  t4 := Tryf.underlying4
  a4 := Tryf.isAgg4
  z4 := Tryf.sizeOf4
  v4 := Tryf.zeroValue4
  t21 := Tryf.underlying21
  a21 := Tryf.isAgg21
  z21 := Tryf.sizeOf21
  v21 := Tryf.zeroValue21
  t46 := Tryf.underlying89
  a46 := Tryf.isAgg89
  z46 := Tryf.sizeOf89
  v46 := Tryf.zeroValue89
  t51 := Tryf.underlying59
  a51 := Tryf.isAgg59
  z51 := Tryf.sizeOf59
  v51 := Tryf.zeroValue59
  t160 := Tryf.underlying133
  a160 := Tryf.isAgg133
  z160 := Tryf.sizeOf133
  v160 := Tryf.zeroValue133
  t162 := Tryf.underlying135
  a162 := Tryf.isAgg135
  z162 := Tryf.sizeOf135
  v162 := Tryf.zeroValue135
  t208 := Tryf.underlying142
  a208 := Tryf.isAgg142
  z208 := Tryf.sizeOf142
  v208 := Tryf.zeroValue142 }
open Go.RowKit Go.Lib in
theorem Tryf.unicode_lookupCaseRange (T : Array CaseRow) (R oR cap : Nat) (r : Int) (w : World) (hT : CaseTab R oR T w) (hok : CaseOk T) (hn : T.size ≤ 1000000000) :
    Calls Tryf.prog 96 #[.int .i32 r, .slice (some ⟨R, oR, none⟩) T.size cap] w fun e w' =>
      e = .returned (match lookupIdx T r (T.size + 1) 0 T.size with | some i => .pointer (some ⟨R, oR + i * 5, none⟩) | none => .pointer none) ∧ w' = w := Any.unicode_lookupCaseRange Tryf.lays274 T R oR cap r w hT hok hn
def Tryf.lays275_ren : Go.Shelf.Ren := ⟨fun | 275 => 97 | n => n, fun | 3 => 3 | 21 => 21 | 160 => 133 | 0 => 0 | 208 => 142 | 206 => 140 | 4 => 4 | 51 => 59 | n => n, fun | n => n⟩
theorem Tryf.lays275 : Go.Proofs.Lays.n275 Tryf.prog Tryf.lays275_ren := {
  mixed := by kernel_rfl
  f275 := Tryf.func97.trans (congrArg some (by kernel_rfl))
  t0 := Tryf.underlying0
  a0 := Tryf.isAgg0
  z0 := Tryf.sizeOf0
  v0 := Tryf.zeroValue0
  t3 := Tryf.underlying3
  a3 := Tryf.isAgg3
  z3 := Tryf.sizeOf3
  v3 := Tryf.zeroValue3
  t4 := Tryf.underlying4
  a4 := Tryf.isAgg4
  z4 := Tryf.sizeOf4
  v4 := Tryf.zeroValue4
  t21 := Tryf.underlying21
  a21 := Tryf.isAgg21
  z21 := Tryf.sizeOf21
  v21 := Tryf.zeroValue21
  t51 := Tryf.underlying59
  a51 := Tryf.isAgg59
  z51 := Tryf.sizeOf59
  v51 := Tryf.zeroValue59
  t160 := Tryf.underlying133
  a160 := Tryf.isAgg133
  z160 := Tryf.sizeOf133
  v160 := Tryf.zeroValue133
  t206 := Tryf.underlying140
  a206 := Tryf.isAgg140
  z206 := Tryf.sizeOf140
  v206 := Tryf.zeroValue140
  t208 := Tryf.underlying142
  a208 := Tryf.isAgg142
  z208 := Tryf.sizeOf142
  v208 := Tryf.zeroValue142 }
open Go.RowKit Go.Lib in
theorem Tryf.unicode_convertCase (c : Nat) (hc : c < 3) (r : Int) (A o : Nat) (x : CaseRow) (w : World) (hlo : (x.1 : Int) ≤ r) (hhi : r ≤ (x.2.1 : Int)) (hH : x.2.1 < 2147483647) (c0 : w.cell? ⟨A, o, none⟩ = some (.int .u32 x.1)) (cD : w.cell? ⟨A, o + 2 + c, none⟩ = some (.int .i32 (x.delta c))) :
    Calls Tryf.prog 97 #[.int .i64 c, .int .i32 r, .pointer (some ⟨A, o, none⟩)] w fun e w' => e = .returned (.int .i32 (wrap32 (convertR c r x))) ∧ ∃ q, w' = w.drewN q := Any.unicode_convertCase Tryf.lays275 c hc r A o x w hlo hhi hH c0 cD
end Go.Proofs
