/- Lemmas. -/
import Derived.Shelf.Small.Utf8
import Derived.Shelf.Small.Bits
import Derived.Shelf.Small.Strs
import Derived.Shelf.Utf8.AppendRune
import Derived.Shelf.Strconv.Bsearch
import Derived.Shelf.Strconv.IsPrint
import Derived.Shelf.Strconv.IsPrint16
import Derived.Shelf.Strconv.IsPrint32
import Derived.Shelf.Strconv.Escaped
import Derived.Shelf.Strconv.Quoted
import Derived.Shelf.Strconv.Quote
import Derived.Shelf.Strconv.Itoa0
import Derived.Shelf.Sort.Plain
import Derived.Ground.GgsProg
import Derived.Shelf.GgSortFunc.Insertion
import Derived.Shelf.GgSortFunc.Small
import Derived.Shelf.GgSortFunc.InsertionK
import Derived.Shelf.GgSortFunc.SmallK
import Derived.Shelf.GgSortFunc.Tiny
import Derived.Shelf.Unicode.Decode
import Derived.Shelf.Bits.Mul64
import Derived.Shelf.Unicode.DecodeSlow
import Derived.Shelf.Unicode.DecodeAny
import Derived.Shelf.Slices.In.SortNone
import Derived.Shelf.Slices.In.SortNone2
import Derived.Test.YtpfihjkhgfoijaaGreatDoorQ05
namespace Go.Proofs
open Go.Shelf
def Tryz.lays278_ren : Go.Shelf.Ren := ⟨fun | 278 => 146 | n => n, fun | 37 => 32 | 21 => 21 | 51 => 84 | 4 => 4 | 46 => 66 | 5 => 5 | n => n, fun | n => n⟩
theorem Tryz.lays278 : Go.Proofs.Lays.n278 Tryz.prog Tryz.lays278_ren := {
  mixed := by kernel_rfl
  f278 := Tryz.func146.trans (congrArg some (by kernel_rfl))
  t4 := Tryz.underlying4
  a4 := Tryz.isAgg4
  z4 := Tryz.sizeOf4
  v4 := Tryz.zeroValue4
  t5 := Tryz.underlying5
  a5 := Tryz.isAgg5
  z5 := Tryz.sizeOf5
  v5 := Tryz.zeroValue5
  t21 := Tryz.underlying21
  a21 := Tryz.isAgg21
  z21 := Tryz.sizeOf21
  v21 := Tryz.zeroValue21
  t37 := Tryz.underlying32
  a37 := Tryz.isAgg32
  z37 := Tryz.sizeOf32
  v37 := Tryz.zeroValue32
  t46 := Tryz.underlying66
  a46 := Tryz.isAgg66
  z46 := Tryz.sizeOf66
  v46 := Tryz.zeroValue66
  t51 := Tryz.underlying84
  a51 := Tryz.isAgg84
  z51 := Tryz.sizeOf84
  v51 := Tryz.zeroValue84 }
open Go.RowKit in
/-- unicode/utf8.appendRuneNonASCII (what AppendRune calls for all but ASCII), ONTO A ROW OF BYTES THAT THE CALL OWNS: every int32 that is no ASCII rune: 'Lib.runeCells r' goes in behind what the row holds. (LAID: no walk: one application.) -/
theorem Tryz.utf8_appendRuneNonASCII_row (B : Nat) (v : Value) (n : Nat) (xs : List Value) (r : Int) (hr0 : -2147483648 ≤ r) (hr1 : r ≤ 2147483647) (hna : r < 0 ∨ 128 ≤ r) (w : World) (hown : w.ownsRowF B 5 1 v n xs) (hlen : n + 4 ≤ 140737488355328) (hBw : B ≤ w.heap.size) :
    Calls Tryz.prog 146 #[v, .int .i32 r] w fun e w' => ∃ v', e = .returned v' ∧ w'.ownsRowF B 5 1 v' (n + (Lib.runeCells r).length) (xs ++ Lib.runeCells r) ∧ ∃ o, (w.alloc o).grownBy w' v.ownBlock := Any.utf8_appendRuneNonASCII_row Tryz.lays278 (by kernel_rfl) B v n xs r hr0 hr1 hna w hown hlen hBw
def Tryz.lays242_ren : Go.Shelf.Ren := ⟨fun | 242 => 127 | 278 => 146 | n => n, fun | 37 => 32 | 21 => 21 | 51 => 84 | 4 => 4 | 5 => 5 | 46 => 66 | n => n, fun | n => n⟩
theorem Tryz.lays242 : Go.Proofs.Lays.n242 Tryz.prog Tryz.lays242_ren := {
  mixed := by kernel_rfl
  f242 := Tryz.func127.trans (congrArg some (by kernel_rfl))
  f278 := Tryz.func146.trans (congrArg some (by kernel_rfl))
  t4 := Tryz.underlying4
  a4 := Tryz.isAgg4
  z4 := Tryz.sizeOf4
  v4 := Tryz.zeroValue4
  t5 := Tryz.underlying5
  a5 := Tryz.isAgg5
  z5 := Tryz.sizeOf5
  v5 := Tryz.zeroValue5
  t21 := Tryz.underlying21
  a21 := Tryz.isAgg21
  z21 := Tryz.sizeOf21
  v21 := Tryz.zeroValue21
  t37 := Tryz.underlying32
  a37 := Tryz.isAgg32
  z37 := Tryz.sizeOf32
  v37 := Tryz.zeroValue32
  t46 := Tryz.underlying66
  a46 := Tryz.isAgg66
  z46 := Tryz.sizeOf66
  v46 := Tryz.zeroValue66
  t51 := Tryz.underlying84
  a51 := Tryz.isAgg84
  z51 := Tryz.sizeOf84
  v51 := Tryz.zeroValue84 }
open Go.RowKit in
/-- unicode/utf8.AppendRune: "AppendRune appends the UTF-8 encoding of r to the end of p and returns the extended buffer. If the rune is out of range, it appends the encoding of RuneError.": ONTO A ROW OF BYTES THAT THE CALL OWNS (its head frozen or not): EVERY int32: 'Lib.runeCells r' goes in behind what the row holds; the world: one new block (the bytes as the call's variadic argument), then what 'append' does to the row. (LAID: no walk: one application.) -/
theorem Tryz.utf8_AppendRune_row (B : Nat) (v : Value) (n : Nat) (xs : List Value) (r : Int) (hr0 : -2147483648 ≤ r) (hr1 : r ≤ 2147483647) (w : World) (hown : w.ownsRowF B 5 1 v n xs) (hlen : n + 4 ≤ 140737488355328) (hBw : B ≤ w.heap.size) :
    Calls Tryz.prog 127 #[v, .int .i32 r] w fun e w' => ∃ v', e = .returned v' ∧ w'.ownsRowF B 5 1 v' (n + (Lib.runeCells r).length) (xs ++ Lib.runeCells r) ∧ ∃ o, (w.alloc o).grownBy w' v.ownBlock := Any.utf8_AppendRune_row Tryz.lays242 (by kernel_rfl) B v n xs r hr0 hr1 w hown hlen hBw
def Tryz.lays345_ren : Go.Shelf.Ren := ⟨fun | 345 => 144 | n => n, fun | 234 => 194 | 49 => 259 | 3 => 3 | 4 => 4 | 46 => 66 | 0 => 0 | n => n, fun | n => n⟩
theorem Tryz.lays345 : Go.Proofs.Lays.n345 Tryz.prog Tryz.lays345_ren := {
  mixed := by kernel_rfl
  f345 := Tryz.func144.trans (congrArg some (by kernel_rfl))
  t0 := Tryz.underlying0
  a0 := Tryz.isAgg0
  z0 := Tryz.sizeOf0
  v0 := Tryz.zeroValue0
  t3 := Tryz.underlying3
  a3 := Tryz.isAgg3
  z3 := Tryz.sizeOf3
  v3 := Tryz.zeroValue3
  t4 := Tryz.underlying4
  a4 := Tryz.isAgg4
  z4 := Tryz.sizeOf4
  v4 := Tryz.zeroValue4
  t46 := Tryz.underlying66
  a46 := Tryz.isAgg66
  z46 := Tryz.sizeOf66
  v46 := Tryz.zeroValue66
  t49 := Tryz.underlying259
  a49 := Tryz.isAgg259
  z49 := Tryz.sizeOf259
  v49 := Tryz.zeroValue259
  t234 := Tryz.underlying194
  a234 := Tryz.isAgg194
  z234 := Tryz.sizeOf194
  v234 := Tryz.zeroValue194 }
open Go.RowKit in
/-- strconv.bsearch[[]uint16,uint16]: a table of whatever numbers (sorted or not: WHAT IS SAID IS WHAT THE LOOP COMPUTES: 'Lib.bsearchI', 'Lib.bsearchFound'), at least one of them; draws alone (the last statement's order); nothing else turns. (LAID: no walk: one application.) -/
theorem Tryz.strconv_bsearch16 (R o c : Nat) (t : List Nat) (v : Nat) (w : World) (h0 : 0 < t.length) (hn : t.length ≤ 4611686018427387904) (hc : ∀ j, j < t.length → w.cell? ⟨R, o + j, none⟩ = some (.int .u16 (t.getD j 0))) :
    Calls Tryz.prog 144 #[.slice (some ⟨R, o, none⟩) t.length c, .int .u16 v] w fun e w' => e = .returned (.tuple #[.int .i64 (Lib.bsearchI t v), .bool (Lib.bsearchFound t v)]) ∧ ∃ q, w' = w.drewN q := Any.strconv_bsearch16 Tryz.lays345 R o c t v w h0 hn hc
def Tryz.lays346_ren : Go.Shelf.Ren := ⟨fun | 346 => 145 | n => n, fun | 236 => 261 | 51 => 84 | 3 => 3 | 4 => 4 | 46 => 66 | 0 => 0 | n => n, fun | n => n⟩
theorem Tryz.lays346 : Go.Proofs.Lays.n346 Tryz.prog Tryz.lays346_ren := {
  mixed := by kernel_rfl
  f346 := Tryz.func145.trans (congrArg some (by kernel_rfl))
  t0 := Tryz.underlying0
  a0 := Tryz.isAgg0
  z0 := Tryz.sizeOf0
  v0 := Tryz.zeroValue0
  t3 := Tryz.underlying3
  a3 := Tryz.isAgg3
  z3 := Tryz.sizeOf3
  v3 := Tryz.zeroValue3
  t4 := Tryz.underlying4
  a4 := Tryz.isAgg4
  z4 := Tryz.sizeOf4
  v4 := Tryz.zeroValue4
  t46 := Tryz.underlying66
  a46 := Tryz.isAgg66
  z46 := Tryz.sizeOf66
  v46 := Tryz.zeroValue66
  t51 := Tryz.underlying84
  a51 := Tryz.isAgg84
  z51 := Tryz.sizeOf84
  v51 := Tryz.zeroValue84
  t236 := Tryz.underlying261
  a236 := Tryz.isAgg261
  z236 := Tryz.sizeOf261
  v236 := Tryz.zeroValue261 }
open Go.RowKit in
/-- strconv.bsearch[[]uint32,uint32]: a table of whatever numbers (sorted or not: WHAT IS SAID IS WHAT THE LOOP COMPUTES: 'Lib.bsearchI', 'Lib.bsearchFound'), at least one of them; draws alone (the last statement's order); nothing else turns. (LAID: no walk: one application.) -/
theorem Tryz.strconv_bsearch32 (R o c : Nat) (t : List Nat) (v : Nat) (w : World) (h0 : 0 < t.length) (hn : t.length ≤ 4611686018427387904) (hc : ∀ j, j < t.length → w.cell? ⟨R, o + j, none⟩ = some (.int .u32 (t.getD j 0))) :
    Calls Tryz.prog 145 #[.slice (some ⟨R, o, none⟩) t.length c, .int .u32 v] w fun e w' => e = .returned (.tuple #[.int .i64 (Lib.bsearchI t v), .bool (Lib.bsearchFound t v)]) ∧ ∃ q, w' = w.drewN q := Any.strconv_bsearch32 Tryz.lays346 R o c t v w h0 hn hc
def Tryz.lays339_ren : Go.Shelf.Ren := ⟨fun | 339 => 125 | 345 => 144 | 346 => 145 | n => n, fun | 21 => 21 | 4 => 4 | 49 => 259 | 234 => 194 | 131 => 106 | 3 => 3 | 0 => 0 | 51 => 84 | 236 => 261 | 46 => 66 | n => n, fun | 20 => 3 | 21 => 4 | 22 => 5 | 23 => 6 | n => n⟩
theorem Tryz.lays339 : Go.Proofs.Lays.n339 Tryz.prog Tryz.lays339_ren := {
  mixed := by kernel_rfl
  f339 := Tryz.func125.trans (congrArg some (by kernel_rfl))
  f345 := Tryz.func144.trans (congrArg some (by kernel_rfl))
  f346 := Tryz.func145.trans (congrArg some (by kernel_rfl))
  t0 := Tryz.underlying0
  a0 := Tryz.isAgg0
  z0 := Tryz.sizeOf0
  v0 := Tryz.zeroValue0
  t3 := Tryz.underlying3
  a3 := Tryz.isAgg3
  z3 := Tryz.sizeOf3
  v3 := Tryz.zeroValue3
  t4 := Tryz.underlying4
  a4 := Tryz.isAgg4
  z4 := Tryz.sizeOf4
  v4 := Tryz.zeroValue4
  t21 := Tryz.underlying21
  a21 := Tryz.isAgg21
  z21 := Tryz.sizeOf21
  v21 := Tryz.zeroValue21
  t46 := Tryz.underlying66
  a46 := Tryz.isAgg66
  z46 := Tryz.sizeOf66
  v46 := Tryz.zeroValue66
  t49 := Tryz.underlying259
  a49 := Tryz.isAgg259
  z49 := Tryz.sizeOf259
  v49 := Tryz.zeroValue259
  t51 := Tryz.underlying84
  a51 := Tryz.isAgg84
  z51 := Tryz.sizeOf84
  v51 := Tryz.zeroValue84
  t131 := Tryz.underlying106
  a131 := Tryz.isAgg106
  z131 := Tryz.sizeOf106
  v131 := Tryz.zeroValue106
  t234 := Tryz.underlying194
  a234 := Tryz.isAgg194
  z234 := Tryz.sizeOf194
  v234 := Tryz.zeroValue194
  t236 := Tryz.underlying261
  a236 := Tryz.isAgg261
  z236 := Tryz.sizeOf261
  v236 := Tryz.zeroValue261
  g20 := by kernel_rfl
  g21 := by kernel_rfl
  g22 := by kernel_rfl
  g23 := by kernel_rfl }
open Go.RowKit in
/-- strconv.IsPrint AT r ≤ 0xFF, negative ones too ('Fast check for Latin-1'): no table is read; nothing turns. (LAID: no walk: one application.) -/
theorem Tryz.strconv_IsPrint_latin (r : Int) (w : World) (hr : r ≤ 255) :
    Calls Tryz.prog 125 #[.int .i32 r] w fun e w' => e = .returned (.bool (Lib.isPrintLatin r)) ∧ w' = w := Any.strconv_IsPrint_latin Tryz.lays339 r w hr
open Go.RowKit in
/-- strconv.IsPrint AT 0xFF < r < 0x10000: two of the four tables are read. (LAID: no walk: one application.) -/
theorem Tryz.strconv_IsPrint_16 (T : Lib.PrintTabs) (r : Nat) (w : World) (h1 : 255 < r) (h2 : r < 65536) (hT : Lib.PrintTabsAt 3 4 5 6 T w) :
    Calls Tryz.prog 125 #[.int .i32 r] w fun e w' => e = .returned (.bool (Lib.isPrintR T r)) ∧ ∃ q, w' = w.drewN q := Any.strconv_IsPrint_16 Tryz.lays339 T r w h1 h2 hT
open Go.RowKit in
/-- strconv.IsPrint AT 0xFFFF < r (an int32): the two other tables are read. (LAID: no walk: one application.) -/
theorem Tryz.strconv_IsPrint_32 (T : Lib.PrintTabs) (r : Nat) (w : World) (h1 : 65535 < r) (h2 : r < 2147483648) (hT : Lib.PrintTabsAt 3 4 5 6 T w) :
    Calls Tryz.prog 125 #[.int .i32 r] w fun e w' => e = .returned (.bool (Lib.isPrintR T r)) ∧ ∃ q, w' = w.drewN q := Any.strconv_IsPrint_32 Tryz.lays339 T r w h1 h2 hT
open Go.RowKit in
/-- strconv.IsPrint AT EVERY int32: 'Lib.isPrintR T r', the four tables as 'Lib.PrintTabsAt' says; draws alone. (LAID: no walk: one application.) -/
theorem Tryz.strconv_IsPrint (T : Lib.PrintTabs) (r : Int) (w : World) (hlo : -2147483648 ≤ r) (hhi : r ≤ 2147483647) (hT : Lib.PrintTabsAt 3 4 5 6 T w) :
    Calls Tryz.prog 125 #[.int .i32 r] w fun e w' => e = .returned (.bool (Lib.isPrintR T r)) ∧ ∃ q, w' = w.drewN q := Any.strconv_IsPrint Tryz.lays339 T r w hlo hhi hT
def Tryz.lays323_ren : Go.Shelf.Ren := ⟨fun | 323 => 106 | 339 => 125 | 340 => 126 | 242 => 127 | 119 => 128 | 345 => 144 | 346 => 145 | 278 => 146 | n => n, fun | 37 => 32 | 21 => 21 | 5 => 5 | 4 => 4 | 9 => 9 | 46 => 66 | 3 => 3 | 49 => 259 | 234 => 194 | 131 => 106 | 0 => 0 | 51 => 84 | 236 => 261 | n => n, fun | 20 => 3 | 21 => 4 | 22 => 5 | 23 => 6 | 24 => 7 | n => n⟩
theorem Tryz.lays323 : Go.Proofs.Lays.n323 Tryz.prog Tryz.lays323_ren := {
  mixed := by kernel_rfl
  f119 := Tryz.func128.trans (congrArg some (by kernel_rfl))
  f242 := Tryz.func127.trans (congrArg some (by kernel_rfl))
  f278 := Tryz.func146.trans (congrArg some (by kernel_rfl))
  f323 := Tryz.func106.trans (congrArg some (by kernel_rfl))
  f339 := Tryz.func125.trans (congrArg some (by kernel_rfl))
  f340 := Tryz.func126.trans (congrArg some (by kernel_rfl))
  f345 := Tryz.func144.trans (congrArg some (by kernel_rfl))
  f346 := Tryz.func145.trans (congrArg some (by kernel_rfl))
  t0 := Tryz.underlying0
  a0 := Tryz.isAgg0
  z0 := Tryz.sizeOf0
  v0 := Tryz.zeroValue0
  t3 := Tryz.underlying3
  a3 := Tryz.isAgg3
  z3 := Tryz.sizeOf3
  v3 := Tryz.zeroValue3
  t4 := Tryz.underlying4
  a4 := Tryz.isAgg4
  z4 := Tryz.sizeOf4
  v4 := Tryz.zeroValue4
  t5 := Tryz.underlying5
  a5 := Tryz.isAgg5
  z5 := Tryz.sizeOf5
  v5 := Tryz.zeroValue5
  t9 := Tryz.underlying9
  a9 := Tryz.isAgg9
  z9 := Tryz.sizeOf9
  v9 := Tryz.zeroValue9
  t21 := Tryz.underlying21
  a21 := Tryz.isAgg21
  z21 := Tryz.sizeOf21
  v21 := Tryz.zeroValue21
  t37 := Tryz.underlying32
  a37 := Tryz.isAgg32
  z37 := Tryz.sizeOf32
  v37 := Tryz.zeroValue32
  t46 := Tryz.underlying66
  a46 := Tryz.isAgg66
  z46 := Tryz.sizeOf66
  v46 := Tryz.zeroValue66
  t49 := Tryz.underlying259
  a49 := Tryz.isAgg259
  z49 := Tryz.sizeOf259
  v49 := Tryz.zeroValue259
  t51 := Tryz.underlying84
  a51 := Tryz.isAgg84
  z51 := Tryz.sizeOf84
  v51 := Tryz.zeroValue84
  t131 := Tryz.underlying106
  a131 := Tryz.isAgg106
  z131 := Tryz.sizeOf106
  v131 := Tryz.zeroValue106
  t234 := Tryz.underlying194
  a234 := Tryz.isAgg194
  z234 := Tryz.sizeOf194
  v234 := Tryz.zeroValue194
  t236 := Tryz.underlying261
  a236 := Tryz.isAgg261
  z236 := Tryz.sizeOf261
  v236 := Tryz.zeroValue261
  g20 := by kernel_rfl
  g21 := by kernel_rfl
  g22 := by kernel_rfl
  g23 := by kernel_rfl
  g24 := by kernel_rfl }
open Go.RowKit in
/-- THE QUOTE ITSELF OR A BACKSLASH: 'always backslashed'. (LAID: no walk: one application.) -/
theorem Tryz.strconv_appendEscapedRune_quoted (T : Lib.PrintTabs) (B : Nat) (v : Value) (n : Nat) (xs : List Value) (r : Int) (W0 w : World) (hb : Lib.OwnBuf B 5 v n xs W0 w) (hlen : n + 10 ≤ 140737488355328) (hT : Lib.PrintTabsAt 3 4 5 6 T w) (hr0 : 0 ≤ r) (hr1 : r ≤ 2147483647) (hq : r = 34 ∨ r = 92) :
    Calls Tryz.prog 106 #[v, .int .i32 r, .int .u8 34, .bool false, .bool false] w fun e w' => ∃ v', e = .returned v' ∧ Lib.OwnBuf B 5 v' (n + (Lib.escRune T r).length) (xs ++ Lib.intCells (Lib.escRune T r)) W0 w' := Any.strconv_appendEscapedRune_quoted Tryz.lays323 (by kernel_rfl) T B v n xs r W0 w hb hlen hT hr0 hr1 hq
open Go.RowKit in
/-- A RUNE THAT strconv.IsPrint LETS BY (and is neither the quote nor a backslash): its UTF-8 encoding, by utf8.AppendRune. (LAID: no walk: one application.) -/
theorem Tryz.strconv_appendEscapedRune_printable (T : Lib.PrintTabs) (B : Nat) (v : Value) (n : Nat) (xs : List Value) (r : Int) (W0 w : World) (hb : Lib.OwnBuf B 5 v n xs W0 w) (hlen : n + 10 ≤ 140737488355328) (hT : Lib.PrintTabsAt 3 4 5 6 T w) (hr0 : 0 ≤ r) (hr1 : r ≤ 2147483647) (hq1 : r ≠ 34) (hq2 : r ≠ 92) (hp : Lib.isPrintR T r = true) :
    Calls Tryz.prog 106 #[v, .int .i32 r, .int .u8 34, .bool false, .bool false] w fun e w' => ∃ v', e = .returned v' ∧ Lib.OwnBuf B 5 v' (n + (Lib.escRune T r).length) (xs ++ Lib.intCells (Lib.escRune T r)) W0 w' := Any.strconv_appendEscapedRune_printable Tryz.lays323 (by kernel_rfl) T B v n xs r W0 w hb hlen hT hr0 hr1 hq1 hq2 hp
open Go.RowKit in
/-- THE SEVEN THAT HAVE A LETTER: \\a \\b \\f \\n \\r \\t \\v. (LAID: no walk: one application.) -/
theorem Tryz.strconv_appendEscapedRune_named (T : Lib.PrintTabs) (B : Nat) (v : Value) (n : Nat) (xs : List Value) (r : Int) (W0 w : World) (hb : Lib.OwnBuf B 5 v n xs W0 w) (hlen : n + 10 ≤ 140737488355328) (hT : Lib.PrintTabsAt 3 4 5 6 T w) (hr0 : 0 ≤ r) (hr1 : r ≤ 2147483647) (hn : r = 7 ∨ r = 8 ∨ r = 12 ∨ r = 10 ∨ r = 13 ∨ r = 9 ∨ r = 11) :
    Calls Tryz.prog 106 #[v, .int .i32 r, .int .u8 34, .bool false, .bool false] w fun e w' => ∃ v', e = .returned v' ∧ Lib.OwnBuf B 5 v' (n + (Lib.escRune T r).length) (xs ++ Lib.intCells (Lib.escRune T r)) W0 w' := Any.strconv_appendEscapedRune_named Tryz.lays323 (by kernel_rfl) T B v n xs r W0 w hb hlen hT hr0 hr1 hn
open Go.RowKit in
/-- A CONTROL CHARACTER WITHOUT A LETTER, AND 0x7f: '\\x' AND TWO DIGITS. (LAID: no walk: one application.) -/
theorem Tryz.strconv_appendEscapedRune_hex2 (T : Lib.PrintTabs) (B : Nat) (v : Value) (n : Nat) (xs : List Value) (r : Int) (W0 w : World) (hb : Lib.OwnBuf B 5 v n xs W0 w) (hlen : n + 10 ≤ 140737488355328) (hT : Lib.PrintTabsAt 3 4 5 6 T w) (hr0 : 0 ≤ r) (hr1 : r ≤ 2147483647) (hx : r < 32 ∨ r = 127) (hn : ¬ (r = 7 ∨ r = 8 ∨ r = 12 ∨ r = 10 ∨ r = 13 ∨ r = 9 ∨ r = 11)) :
    Calls Tryz.prog 106 #[v, .int .i32 r, .int .u8 34, .bool false, .bool false] w fun e w' => ∃ v', e = .returned v' ∧ Lib.OwnBuf B 5 v' (n + (Lib.escRune T r).length) (xs ++ Lib.intCells (Lib.escRune T r)) W0 w' := Any.strconv_appendEscapedRune_hex2 Tryz.lays323 (by kernel_rfl) T B v n xs r W0 w hb hlen hT hr0 hr1 hx hn
open Go.RowKit in
/-- NOT PRINTABLE, FROM 0x80 ON, BELOW 0x10000, NO SURROGATE: '\\u' AND FOUR DIGITS. (LAID: no walk: one application.) -/
theorem Tryz.strconv_appendEscapedRune_u4 (T : Lib.PrintTabs) (B : Nat) (v : Value) (n : Nat) (xs : List Value) (r : Int) (W0 w : World) (hb : Lib.OwnBuf B 5 v n xs W0 w) (hlen : n + 10 ≤ 140737488355328) (hT : Lib.PrintTabsAt 3 4 5 6 T w) (hr0 : 0 ≤ r) (hr1 : r ≤ 2147483647) (h80 : 128 ≤ r) (hlt : r < 65536) (hv : Lib.validRune r = true) (hp : Lib.isPrintR T r = false) :
    Calls Tryz.prog 106 #[v, .int .i32 r, .int .u8 34, .bool false, .bool false] w fun e w' => ∃ v', e = .returned v' ∧ Lib.OwnBuf B 5 v' (n + (Lib.escRune T r).length) (xs ++ Lib.intCells (Lib.escRune T r)) W0 w' := Any.strconv_appendEscapedRune_u4 Tryz.lays323 (by kernel_rfl) T B v n xs r W0 w hb hlen hT hr0 hr1 h80 hlt hv hp
open Go.RowKit in
/-- NOT PRINTABLE, FROM 0x10000 ON, AT MOST 0x10FFFF: '\\U' AND EIGHT DIGITS. (LAID: no walk: one application.) -/
theorem Tryz.strconv_appendEscapedRune_u8 (T : Lib.PrintTabs) (B : Nat) (v : Value) (n : Nat) (xs : List Value) (r : Int) (W0 w : World) (hb : Lib.OwnBuf B 5 v n xs W0 w) (hlen : n + 10 ≤ 140737488355328) (hT : Lib.PrintTabsAt 3 4 5 6 T w) (hr0 : 0 ≤ r) (hr1 : r ≤ 2147483647) (h80 : 65536 ≤ r) (hv : Lib.validRune r = true) (hp : Lib.isPrintR T r = false) :
    Calls Tryz.prog 106 #[v, .int .i32 r, .int .u8 34, .bool false, .bool false] w fun e w' => ∃ v', e = .returned v' ∧ Lib.OwnBuf B 5 v' (n + (Lib.escRune T r).length) (xs ++ Lib.intCells (Lib.escRune T r)) W0 w' := Any.strconv_appendEscapedRune_u8 Tryz.lays323 (by kernel_rfl) T B v n xs r W0 w hb hlen hT hr0 hr1 h80 hv hp
open Go.RowKit in
/-- strconv.appendEscapedRune(buf, r, '"', false, false) AT EVERY VALID RUNE (what utf8.DecodeRuneInString hands back is one): IT APPENDS 'Lib.escRune T r'. ✋ a surrogate, a number beyond 0x10FFFF, a negative one: not walked: strconv.Quote never hands one in. (LAID: no walk: one application.) -/
theorem Tryz.strconv_appendEscapedRune (T : Lib.PrintTabs) (B : Nat) (v : Value) (n : Nat) (xs : List Value) (r : Int) (W0 w : World) (hb : Lib.OwnBuf B 5 v n xs W0 w) (hlen : n + 10 ≤ 140737488355328) (hT : Lib.PrintTabsAt 3 4 5 6 T w) (hv : Lib.validRune r = true) :
    Calls Tryz.prog 106 #[v, .int .i32 r, .int .u8 34, .bool false, .bool false] w fun e w' => ∃ v', e = .returned v' ∧ Lib.OwnBuf B 5 v' (n + (Lib.escRune T r).length) (xs ++ Lib.intCells (Lib.escRune T r)) W0 w' := Any.strconv_appendEscapedRune Tryz.lays323 (by kernel_rfl) T B v n xs r W0 w hb hlen hT hv
def Tryz.lays289_ren : Go.Shelf.Ren := ⟨fun | 289 => 78 | 197 => 105 | 323 => 106 | 260 => 124 | 339 => 125 | 340 => 126 | 242 => 127 | 119 => 128 | 345 => 144 | 346 => 145 | 278 => 146 | n => n, fun | 37 => 32 | 9 => 9 | 5 => 5 | 4 => 4 | 3 => 3 | 21 => 21 | 105 => 217 | 46 => 66 | 119 => 255 | 0 => 0 | 139 => 258 | 138 => 257 | 49 => 259 | 234 => 194 | 131 => 106 | 51 => 84 | 236 => 261 | n => n, fun | 3 => 1 | 4 => 2 | 20 => 3 | 21 => 4 | 22 => 5 | 23 => 6 | 24 => 7 | n => n⟩
theorem Tryz.lays289 : Go.Proofs.Lays.n289 Tryz.prog Tryz.lays289_ren := {
  mixed := by kernel_rfl
  f119 := Tryz.func128.trans (congrArg some (by kernel_rfl))
  f197 := Tryz.func105.trans (congrArg some (by kernel_rfl))
  f242 := Tryz.func127.trans (congrArg some (by kernel_rfl))
  f260 := Tryz.func124.trans (congrArg some (by kernel_rfl))
  f278 := Tryz.func146.trans (congrArg some (by kernel_rfl))
  f289 := Tryz.func78.trans (congrArg some (by kernel_rfl))
  f323 := Tryz.func106.trans (congrArg some (by kernel_rfl))
  f339 := Tryz.func125.trans (congrArg some (by kernel_rfl))
  f340 := Tryz.func126.trans (congrArg some (by kernel_rfl))
  f345 := Tryz.func144.trans (congrArg some (by kernel_rfl))
  f346 := Tryz.func145.trans (congrArg some (by kernel_rfl))
  t0 := Tryz.underlying0
  a0 := Tryz.isAgg0
  z0 := Tryz.sizeOf0
  v0 := Tryz.zeroValue0
  t3 := Tryz.underlying3
  a3 := Tryz.isAgg3
  z3 := Tryz.sizeOf3
  v3 := Tryz.zeroValue3
  t4 := Tryz.underlying4
  a4 := Tryz.isAgg4
  z4 := Tryz.sizeOf4
  v4 := Tryz.zeroValue4
  t5 := Tryz.underlying5
  a5 := Tryz.isAgg5
  z5 := Tryz.sizeOf5
  v5 := Tryz.zeroValue5
  t9 := Tryz.underlying9
  a9 := Tryz.isAgg9
  z9 := Tryz.sizeOf9
  v9 := Tryz.zeroValue9
  t21 := Tryz.underlying21
  a21 := Tryz.isAgg21
  z21 := Tryz.sizeOf21
  v21 := Tryz.zeroValue21
  t37 := Tryz.underlying32
  a37 := Tryz.isAgg32
  z37 := Tryz.sizeOf32
  v37 := Tryz.zeroValue32
  t46 := Tryz.underlying66
  a46 := Tryz.isAgg66
  z46 := Tryz.sizeOf66
  v46 := Tryz.zeroValue66
  t49 := Tryz.underlying259
  a49 := Tryz.isAgg259
  z49 := Tryz.sizeOf259
  v49 := Tryz.zeroValue259
  t51 := Tryz.underlying84
  a51 := Tryz.isAgg84
  z51 := Tryz.sizeOf84
  v51 := Tryz.zeroValue84
  t105 := Tryz.underlying217
  a105 := Tryz.isAgg217
  z105 := Tryz.sizeOf217
  v105 := Tryz.zeroValue217
  t119 := Tryz.underlying255
  a119 := Tryz.isAgg255
  z119 := Tryz.sizeOf255
  t131 := Tryz.underlying106
  a131 := Tryz.isAgg106
  z131 := Tryz.sizeOf106
  v131 := Tryz.zeroValue106
  t138 := Tryz.underlying257
  a138 := Tryz.isAgg257
  z138 := Tryz.sizeOf257
  v138 := Tryz.zeroValue257
  t139 := Tryz.underlying258
  a139 := Tryz.isAgg258
  z139 := Tryz.sizeOf258
  v139 := Tryz.zeroValue258
  t234 := Tryz.underlying194
  a234 := Tryz.isAgg194
  z234 := Tryz.sizeOf194
  v234 := Tryz.zeroValue194
  t236 := Tryz.underlying261
  a236 := Tryz.isAgg261
  z236 := Tryz.sizeOf261
  v236 := Tryz.zeroValue261
  g3 := by kernel_rfl
  g4 := by kernel_rfl
  g20 := by kernel_rfl
  g21 := by kernel_rfl
  g22 := by kernel_rfl
  g23 := by kernel_rfl
  g24 := by kernel_rfl }
open Go.RowKit in
/-- strconv.appendQuotedWith(buf, s, '"', false, false), buf with room for s ('cap(buf)-len(buf) >= len(s)': as quoteWith makes it). (LAID: no walk: one application.) -/
theorem Tryz.strconv_appendQuotedWith (T : Lib.PrintTabs) (a : Option Addr) (n c : Nat) (xs : List Value) (s : ByteArray) (W0 w : World) (hb : Lib.OwnBuf W0.heap.size 5 (.slice a n c) n xs W0 w) (hroom : n + s.size ≤ c) (hc : c ≤ 9223372036854775807) (hlen : n + 10 * s.size + 12 ≤ 140737488355328) (hT : Lib.PrintTabsAt 3 4 5 6 T W0) (hU : Lib.Utf8Tabs 1 2 W0) :
    Calls Tryz.prog 78 #[.slice a n c, .string s, .int .u8 34, .bool false, .bool false] w fun e w' => ∃ v', e = .returned v' ∧ Lib.OwnBuf W0.heap.size 5 v' (n + (Lib.quoteZ T s).length) (xs ++ Lib.intCells (Lib.quoteZ T s)) W0 w' := Any.strconv_appendQuotedWith Tryz.lays289 (by kernel_rfl) T a n c xs s W0 w hb hroom hc hlen hT hU
def Tryz.lays250_ren : Go.Shelf.Ren := ⟨fun | 250 => 35 | 289 => 78 | 197 => 105 | 323 => 106 | 260 => 124 | 339 => 125 | 340 => 126 | 242 => 127 | 119 => 128 | 345 => 144 | 346 => 145 | 278 => 146 | n => n, fun | 9 => 9 | 5 => 5 | 4 => 4 | 3 => 3 | 37 => 32 | 21 => 21 | 105 => 217 | 46 => 66 | 119 => 255 | 0 => 0 | 139 => 258 | 138 => 257 | 49 => 259 | 234 => 194 | 131 => 106 | 51 => 84 | 236 => 261 | n => n, fun | 3 => 1 | 4 => 2 | 20 => 3 | 21 => 4 | 22 => 5 | 23 => 6 | 24 => 7 | n => n⟩
theorem Tryz.lays250 : Go.Proofs.Lays.n250 Tryz.prog Tryz.lays250_ren := {
  mixed := by kernel_rfl
  f119 := Tryz.func128.trans (congrArg some (by kernel_rfl))
  f197 := Tryz.func105.trans (congrArg some (by kernel_rfl))
  f242 := Tryz.func127.trans (congrArg some (by kernel_rfl))
  f250 := Tryz.func35.trans (congrArg some (by kernel_rfl))
  f260 := Tryz.func124.trans (congrArg some (by kernel_rfl))
  f278 := Tryz.func146.trans (congrArg some (by kernel_rfl))
  f289 := Tryz.func78.trans (congrArg some (by kernel_rfl))
  f323 := Tryz.func106.trans (congrArg some (by kernel_rfl))
  f339 := Tryz.func125.trans (congrArg some (by kernel_rfl))
  f340 := Tryz.func126.trans (congrArg some (by kernel_rfl))
  f345 := Tryz.func144.trans (congrArg some (by kernel_rfl))
  f346 := Tryz.func145.trans (congrArg some (by kernel_rfl))
  t0 := Tryz.underlying0
  a0 := Tryz.isAgg0
  z0 := Tryz.sizeOf0
  v0 := Tryz.zeroValue0
  t3 := Tryz.underlying3
  a3 := Tryz.isAgg3
  z3 := Tryz.sizeOf3
  v3 := Tryz.zeroValue3
  t4 := Tryz.underlying4
  a4 := Tryz.isAgg4
  z4 := Tryz.sizeOf4
  v4 := Tryz.zeroValue4
  t5 := Tryz.underlying5
  a5 := Tryz.isAgg5
  z5 := Tryz.sizeOf5
  v5 := Tryz.zeroValue5
  t9 := Tryz.underlying9
  a9 := Tryz.isAgg9
  z9 := Tryz.sizeOf9
  v9 := Tryz.zeroValue9
  t21 := Tryz.underlying21
  a21 := Tryz.isAgg21
  z21 := Tryz.sizeOf21
  v21 := Tryz.zeroValue21
  t37 := Tryz.underlying32
  a37 := Tryz.isAgg32
  z37 := Tryz.sizeOf32
  v37 := Tryz.zeroValue32
  t46 := Tryz.underlying66
  a46 := Tryz.isAgg66
  z46 := Tryz.sizeOf66
  v46 := Tryz.zeroValue66
  t49 := Tryz.underlying259
  a49 := Tryz.isAgg259
  z49 := Tryz.sizeOf259
  v49 := Tryz.zeroValue259
  t51 := Tryz.underlying84
  a51 := Tryz.isAgg84
  z51 := Tryz.sizeOf84
  v51 := Tryz.zeroValue84
  t105 := Tryz.underlying217
  a105 := Tryz.isAgg217
  z105 := Tryz.sizeOf217
  v105 := Tryz.zeroValue217
  t119 := Tryz.underlying255
  a119 := Tryz.isAgg255
  z119 := Tryz.sizeOf255
  t131 := Tryz.underlying106
  a131 := Tryz.isAgg106
  z131 := Tryz.sizeOf106
  v131 := Tryz.zeroValue106
  t138 := Tryz.underlying257
  a138 := Tryz.isAgg257
  z138 := Tryz.sizeOf257
  v138 := Tryz.zeroValue257
  t139 := Tryz.underlying258
  a139 := Tryz.isAgg258
  z139 := Tryz.sizeOf258
  v139 := Tryz.zeroValue258
  t234 := Tryz.underlying194
  a234 := Tryz.isAgg194
  z234 := Tryz.sizeOf194
  v234 := Tryz.zeroValue194
  t236 := Tryz.underlying261
  a236 := Tryz.isAgg261
  z236 := Tryz.sizeOf261
  v236 := Tryz.zeroValue261
  g3 := by kernel_rfl
  g4 := by kernel_rfl
  g20 := by kernel_rfl
  g21 := by kernel_rfl
  g22 := by kernel_rfl
  g23 := by kernel_rfl
  g24 := by kernel_rfl }
open Go.RowKit in
/-- strconv.quoteWith(s, '"', false, false). (LAID: no walk: one application.) -/
theorem Tryz.strconv_quoteWith (T : Lib.PrintTabs) (s : ByteArray) (w : World) (hlen : 10 * s.size + 12 ≤ 140737488355328) (hT : Lib.PrintTabsAt 3 4 5 6 T w) (hU : Lib.Utf8Tabs 1 2 w) :
    Calls Tryz.prog 35 #[.string s, .int .u8 34, .bool false, .bool false] w fun e w' => e = .returned (.string (strOfNums (Lib.quoteZ T s))) ∧ Below w.heap.size w w' := Any.strconv_quoteWith Tryz.lays250 (by kernel_rfl) T s w hlen hT hU
def Tryz.lays177_ren : Go.Shelf.Ren := ⟨fun | 177 => 13 | 250 => 35 | 289 => 78 | 197 => 105 | 323 => 106 | 260 => 124 | 339 => 125 | 340 => 126 | 242 => 127 | 119 => 128 | 345 => 144 | 346 => 145 | 278 => 146 | n => n, fun | 9 => 9 | 5 => 5 | 4 => 4 | 3 => 3 | 37 => 32 | 21 => 21 | 105 => 217 | 46 => 66 | 119 => 255 | 0 => 0 | 139 => 258 | 138 => 257 | 49 => 259 | 234 => 194 | 131 => 106 | 51 => 84 | 236 => 261 | n => n, fun | 3 => 1 | 4 => 2 | 20 => 3 | 21 => 4 | 22 => 5 | 23 => 6 | 24 => 7 | n => n⟩
theorem Tryz.lays177 : Go.Proofs.Lays.n177 Tryz.prog Tryz.lays177_ren := {
  mixed := by kernel_rfl
  f119 := Tryz.func128.trans (congrArg some (by kernel_rfl))
  f177 := Tryz.func13.trans (congrArg some (by kernel_rfl))
  f197 := Tryz.func105.trans (congrArg some (by kernel_rfl))
  f242 := Tryz.func127.trans (congrArg some (by kernel_rfl))
  f250 := Tryz.func35.trans (congrArg some (by kernel_rfl))
  f260 := Tryz.func124.trans (congrArg some (by kernel_rfl))
  f278 := Tryz.func146.trans (congrArg some (by kernel_rfl))
  f289 := Tryz.func78.trans (congrArg some (by kernel_rfl))
  f323 := Tryz.func106.trans (congrArg some (by kernel_rfl))
  f339 := Tryz.func125.trans (congrArg some (by kernel_rfl))
  f340 := Tryz.func126.trans (congrArg some (by kernel_rfl))
  f345 := Tryz.func144.trans (congrArg some (by kernel_rfl))
  f346 := Tryz.func145.trans (congrArg some (by kernel_rfl))
  t0 := Tryz.underlying0
  a0 := Tryz.isAgg0
  z0 := Tryz.sizeOf0
  v0 := Tryz.zeroValue0
  t3 := Tryz.underlying3
  a3 := Tryz.isAgg3
  z3 := Tryz.sizeOf3
  v3 := Tryz.zeroValue3
  t4 := Tryz.underlying4
  a4 := Tryz.isAgg4
  z4 := Tryz.sizeOf4
  v4 := Tryz.zeroValue4
  t5 := Tryz.underlying5
  a5 := Tryz.isAgg5
  z5 := Tryz.sizeOf5
  v5 := Tryz.zeroValue5
  t9 := Tryz.underlying9
  a9 := Tryz.isAgg9
  z9 := Tryz.sizeOf9
  v9 := Tryz.zeroValue9
  t21 := Tryz.underlying21
  a21 := Tryz.isAgg21
  z21 := Tryz.sizeOf21
  v21 := Tryz.zeroValue21
  t37 := Tryz.underlying32
  a37 := Tryz.isAgg32
  z37 := Tryz.sizeOf32
  v37 := Tryz.zeroValue32
  t46 := Tryz.underlying66
  a46 := Tryz.isAgg66
  z46 := Tryz.sizeOf66
  v46 := Tryz.zeroValue66
  t49 := Tryz.underlying259
  a49 := Tryz.isAgg259
  z49 := Tryz.sizeOf259
  v49 := Tryz.zeroValue259
  t51 := Tryz.underlying84
  a51 := Tryz.isAgg84
  z51 := Tryz.sizeOf84
  v51 := Tryz.zeroValue84
  t105 := Tryz.underlying217
  a105 := Tryz.isAgg217
  z105 := Tryz.sizeOf217
  v105 := Tryz.zeroValue217
  t119 := Tryz.underlying255
  a119 := Tryz.isAgg255
  z119 := Tryz.sizeOf255
  t131 := Tryz.underlying106
  a131 := Tryz.isAgg106
  z131 := Tryz.sizeOf106
  v131 := Tryz.zeroValue106
  t138 := Tryz.underlying257
  a138 := Tryz.isAgg257
  z138 := Tryz.sizeOf257
  v138 := Tryz.zeroValue257
  t139 := Tryz.underlying258
  a139 := Tryz.isAgg258
  z139 := Tryz.sizeOf258
  v139 := Tryz.zeroValue258
  t234 := Tryz.underlying194
  a234 := Tryz.isAgg194
  z234 := Tryz.sizeOf194
  v234 := Tryz.zeroValue194
  t236 := Tryz.underlying261
  a236 := Tryz.isAgg261
  z236 := Tryz.sizeOf261
  v236 := Tryz.zeroValue261
  g3 := by kernel_rfl
  g4 := by kernel_rfl
  g20 := by kernel_rfl
  g21 := by kernel_rfl
  g22 := by kernel_rfl
  g23 := by kernel_rfl
  g24 := by kernel_rfl }
open Go.RowKit in
/-- **strconv.Quote AT EVERY STRING, VALID UTF-8 OR NOT** (of at most some 2^43 bytes: ten bytes may come of one): 'strOfNums (Lib.quoteZ T s)': Derived/Lib/QuoteLoop.lean: a row of Lean a statement of Go. Of what was there nothing has turned. (LAID: no walk: one application.) -/
theorem Tryz.strconv_Quote (T : Lib.PrintTabs) (s : ByteArray) (w : World) (hlen : 10 * s.size + 12 ≤ 140737488355328) (hT : Lib.PrintTabsAt 3 4 5 6 T w) (hU : Lib.Utf8Tabs 1 2 w) :
    Calls Tryz.prog 13 #[.string s] w fun e w' => e = .returned (.string (strOfNums (Lib.quoteZ T s))) ∧ Below w.heap.size w w' := Any.strconv_Quote Tryz.lays177 (by kernel_rfl) T s w hlen hT hU
def Tryz.lays190_ren : Go.Shelf.Ren := ⟨fun | 190 => 118 | 125 => 24 | 258 => 142 | 128 => 53 | 129 => 54 | 302 => 155 | 303 => 156 | 304 => 157 | 305 => 158 | 306 => 159 | 307 => 160 | 308 => 161 | 309 => 162 | 310 => 163 | 333 => 172 | 329 => 173 | 330 => 174 | 334 => 175 | 335 => 176 | 336 => 177 | 344 => 185 | n => n, fun | 31 => 25 | 9 => 9 | 3 => 3 | 46 => 66 | 0 => 0 | 51 => 84 | 53 => 33 | 4 => 4 | 183 => 274 | 182 => 273 | 131 => 106 | 5 => 5 | 218 => 290 | 222 => 152 | 228 => 310 | 229 => 224 | n => n, fun | n => n⟩
theorem Tryz.lays190 : Go.Proofs.Lays.n190 Tryz.prog Tryz.lays190_ren := {
  mixed := by kernel_rfl
  f125 := Tryz.func24.trans (congrArg some (by kernel_rfl))
  f128 := Tryz.func53.trans (congrArg some (by kernel_rfl))
  f129 := Tryz.func54.trans (congrArg some (by kernel_rfl))
  f190 := Tryz.func118.trans (congrArg some (by kernel_rfl))
  f258 := Tryz.func142.trans (congrArg some (by kernel_rfl))
  f302 := Tryz.func155.trans (congrArg some (by kernel_rfl))
  f303 := Tryz.func156.trans (congrArg some (by kernel_rfl))
  f304 := Tryz.func157.trans (congrArg some (by kernel_rfl))
  f305 := Tryz.func158.trans (congrArg some (by kernel_rfl))
  f306 := Tryz.func159.trans (congrArg some (by kernel_rfl))
  f307 := Tryz.func160.trans (congrArg some (by kernel_rfl))
  f308 := Tryz.func161.trans (congrArg some (by kernel_rfl))
  f309 := Tryz.func162.trans (congrArg some (by kernel_rfl))
  f310 := Tryz.func163.trans (congrArg some (by kernel_rfl))
  f329 := Tryz.func173.trans (congrArg some (by kernel_rfl))
  f330 := Tryz.func174.trans (congrArg some (by kernel_rfl))
  f333 := Tryz.func172.trans (congrArg some (by kernel_rfl))
  f334 := Tryz.func175.trans (congrArg some (by kernel_rfl))
  f335 := Tryz.func176.trans (congrArg some (by kernel_rfl))
  f336 := Tryz.func177.trans (congrArg some (by kernel_rfl))
  f344 := Tryz.func185.trans (congrArg some (by kernel_rfl))
  t0 := Tryz.underlying0
  a0 := Tryz.isAgg0
  z0 := Tryz.sizeOf0
  v0 := Tryz.zeroValue0
  t3 := Tryz.underlying3
  a3 := Tryz.isAgg3
  z3 := Tryz.sizeOf3
  v3 := Tryz.zeroValue3
  t4 := Tryz.underlying4
  a4 := Tryz.isAgg4
  z4 := Tryz.sizeOf4
  v4 := Tryz.zeroValue4
  t5 := Tryz.underlying5
  a5 := Tryz.isAgg5
  z5 := Tryz.sizeOf5
  v5 := Tryz.zeroValue5
  t9 := Tryz.underlying9
  a9 := Tryz.isAgg9
  z9 := Tryz.sizeOf9
  v9 := Tryz.zeroValue9
  t31 := Tryz.underlying25
  a31 := Tryz.isAgg25
  z31 := Tryz.sizeOf25
  v31 := Tryz.zeroValue25
  t46 := Tryz.underlying66
  a46 := Tryz.isAgg66
  z46 := Tryz.sizeOf66
  v46 := Tryz.zeroValue66
  t51 := Tryz.underlying84
  a51 := Tryz.isAgg84
  z51 := Tryz.sizeOf84
  v51 := Tryz.zeroValue84
  t53 := Tryz.underlying33
  a53 := Tryz.isAgg33
  z53 := Tryz.sizeOf33
  v53 := Tryz.zeroValue33
  t131 := Tryz.underlying106
  a131 := Tryz.isAgg106
  z131 := Tryz.sizeOf106
  v131 := Tryz.zeroValue106
  t182 := Tryz.underlying273
  a182 := Tryz.isAgg273
  z182 := Tryz.sizeOf273
  v182 := Tryz.zeroValue273
  t183 := Tryz.underlying274
  a183 := Tryz.isAgg274
  z183 := Tryz.sizeOf274
  v183 := Tryz.zeroValue274
  t218 := Tryz.underlying290
  a218 := Tryz.isAgg290
  z218 := Tryz.sizeOf290
  v218 := Tryz.zeroValue290
  t222 := Tryz.underlying152
  a222 := Tryz.isAgg152
  z222 := Tryz.sizeOf152
  v222 := Tryz.zeroValue152
  t228 := Tryz.underlying310
  a228 := Tryz.isAgg310
  z228 := Tryz.sizeOf310
  v228 := Tryz.zeroValue310
  t229 := Tryz.underlying224
  a229 := Tryz.isAgg224
  z229 := Tryz.sizeOf224
  v229 := Tryz.zeroValue224 }
open Go.Sort Go.RowKit in
theorem Tryz.slices_Sort_string (blk off cap : Nat) (ss : List (List UInt8)) (w : World) (hH : Holds encStr w blk off ss.toArray) (hblk : blk < w.heap.size) (hsz : ss.length < 4611686018427387904) :
    Calls Tryz.prog 118 #[.slice (some ⟨blk, off, none⟩) ss.length cap] w fun e w' =>
      e = .returned (.tuple #[]) ∧ ∃ n os, w' = grow (putRow encStr (Sort.ahead w n) blk off (ss.mergeSort fun x y => decide (x ≤ y)).toArray) os := Any.slices_Sort_string Tryz.lays190 blk off cap ss w hH hblk hsz
def Tryz.lays192_ren : Go.Shelf.Ren := ⟨fun | 192 => 98 | 190 => 118 | 125 => 24 | 258 => 142 | 128 => 53 | 129 => 54 | 302 => 155 | 303 => 156 | 304 => 157 | 305 => 158 | 306 => 159 | 307 => 160 | 308 => 161 | 309 => 162 | 310 => 163 | 333 => 172 | 329 => 173 | 330 => 174 | 334 => 175 | 335 => 176 | 336 => 177 | 344 => 185 | n => n, fun | 31 => 25 | 0 => 0 | 9 => 9 | 3 => 3 | 46 => 66 | 51 => 84 | 53 => 33 | 4 => 4 | 183 => 274 | 182 => 273 | 131 => 106 | 5 => 5 | 218 => 290 | 222 => 152 | 228 => 310 | 229 => 224 | n => n, fun | n => n⟩
theorem Tryz.lays192 : Go.Proofs.Lays.n192 Tryz.prog Tryz.lays192_ren := {
  mixed := by kernel_rfl
  f125 := Tryz.func24.trans (congrArg some (by kernel_rfl))
  f128 := Tryz.func53.trans (congrArg some (by kernel_rfl))
  f129 := Tryz.func54.trans (congrArg some (by kernel_rfl))
  f190 := Tryz.func118.trans (congrArg some (by kernel_rfl))
  f192 := Tryz.func98.trans (congrArg some (by kernel_rfl))
  f258 := Tryz.func142.trans (congrArg some (by kernel_rfl))
  f302 := Tryz.func155.trans (congrArg some (by kernel_rfl))
  f303 := Tryz.func156.trans (congrArg some (by kernel_rfl))
  f304 := Tryz.func157.trans (congrArg some (by kernel_rfl))
  f305 := Tryz.func158.trans (congrArg some (by kernel_rfl))
  f306 := Tryz.func159.trans (congrArg some (by kernel_rfl))
  f307 := Tryz.func160.trans (congrArg some (by kernel_rfl))
  f308 := Tryz.func161.trans (congrArg some (by kernel_rfl))
  f309 := Tryz.func162.trans (congrArg some (by kernel_rfl))
  f310 := Tryz.func163.trans (congrArg some (by kernel_rfl))
  f329 := Tryz.func173.trans (congrArg some (by kernel_rfl))
  f330 := Tryz.func174.trans (congrArg some (by kernel_rfl))
  f333 := Tryz.func172.trans (congrArg some (by kernel_rfl))
  f334 := Tryz.func175.trans (congrArg some (by kernel_rfl))
  f335 := Tryz.func176.trans (congrArg some (by kernel_rfl))
  f336 := Tryz.func177.trans (congrArg some (by kernel_rfl))
  f344 := Tryz.func185.trans (congrArg some (by kernel_rfl))
  t0 := Tryz.underlying0
  a0 := Tryz.isAgg0
  z0 := Tryz.sizeOf0
  v0 := Tryz.zeroValue0
  t3 := Tryz.underlying3
  a3 := Tryz.isAgg3
  z3 := Tryz.sizeOf3
  v3 := Tryz.zeroValue3
  t4 := Tryz.underlying4
  a4 := Tryz.isAgg4
  z4 := Tryz.sizeOf4
  v4 := Tryz.zeroValue4
  t5 := Tryz.underlying5
  a5 := Tryz.isAgg5
  z5 := Tryz.sizeOf5
  v5 := Tryz.zeroValue5
  t9 := Tryz.underlying9
  a9 := Tryz.isAgg9
  z9 := Tryz.sizeOf9
  v9 := Tryz.zeroValue9
  t31 := Tryz.underlying25
  a31 := Tryz.isAgg25
  z31 := Tryz.sizeOf25
  v31 := Tryz.zeroValue25
  t46 := Tryz.underlying66
  a46 := Tryz.isAgg66
  z46 := Tryz.sizeOf66
  v46 := Tryz.zeroValue66
  t51 := Tryz.underlying84
  a51 := Tryz.isAgg84
  z51 := Tryz.sizeOf84
  v51 := Tryz.zeroValue84
  t53 := Tryz.underlying33
  a53 := Tryz.isAgg33
  z53 := Tryz.sizeOf33
  v53 := Tryz.zeroValue33
  t131 := Tryz.underlying106
  a131 := Tryz.isAgg106
  z131 := Tryz.sizeOf106
  v131 := Tryz.zeroValue106
  t182 := Tryz.underlying273
  a182 := Tryz.isAgg273
  z182 := Tryz.sizeOf273
  v182 := Tryz.zeroValue273
  t183 := Tryz.underlying274
  a183 := Tryz.isAgg274
  z183 := Tryz.sizeOf274
  v183 := Tryz.zeroValue274
  t218 := Tryz.underlying290
  a218 := Tryz.isAgg290
  z218 := Tryz.sizeOf290
  v218 := Tryz.zeroValue290
  t222 := Tryz.underlying152
  a222 := Tryz.isAgg152
  z222 := Tryz.sizeOf152
  v222 := Tryz.zeroValue152
  t228 := Tryz.underlying310
  a228 := Tryz.isAgg310
  z228 := Tryz.sizeOf310
  v228 := Tryz.zeroValue310
  t229 := Tryz.underlying224
  a229 := Tryz.isAgg224
  z229 := Tryz.sizeOf224
  v229 := Tryz.zeroValue224 }
open Go.Sort Go.RowKit in
theorem Tryz.sort_Strings (blk off cap : Nat) (ss : List (List UInt8)) (w : World) (hH : Holds encStr w blk off ss.toArray) (hblk : blk < w.heap.size) (hsz : ss.length < 4611686018427387904) :
    Calls Tryz.prog 98 #[.slice (some ⟨blk, off, none⟩) ss.length cap] w fun e w' =>
      e = .returned (.tuple #[]) ∧ ∃ n os, w' = grow (putRow encStr (Sort.ahead w n) blk off (ss.mergeSort fun x y => decide (x ≤ y)).toArray) os := Any.sort_Strings Tryz.lays192 blk off cap ss w hH hblk hsz
def Tryz.laysGg26_ren : Go.Shelf.Ren := ⟨fun | 26 => 55 | n => n, fun | 44 => 69 | 3 => 3 | 0 => 0 | 4 => 4 | 26 => 41 | 37 => 62 | n => n, fun | n => n⟩
theorem Tryz.laysGg26 : Go.Proofs.LaysGg.n26 Tryz.prog Tryz.laysGg26_ren := {
  mixed := by kernel_rfl
  f26 := Tryz.func55.trans (congrArg some (by kernel_rfl))
  t0 := Tryz.underlying0
  a0 := Tryz.isAgg0
  z0 := Tryz.sizeOf0
  v0 := Tryz.zeroValue0
  i0 := by kernel_rfl
  t3 := Tryz.underlying3
  a3 := Tryz.isAgg3
  z3 := Tryz.sizeOf3
  v3 := Tryz.zeroValue3
  i3 := by kernel_rfl
  t4 := Tryz.underlying4
  a4 := Tryz.isAgg4
  z4 := Tryz.sizeOf4
  v4 := Tryz.zeroValue4
  i4 := by kernel_rfl
  t26 := Tryz.underlying41
  a26 := Tryz.isAgg41
  z26 := Tryz.sizeOf41
  v26 := Tryz.zeroValue41
  i26 := by kernel_rfl
  t37 := Tryz.underlying62
  a37 := Tryz.isAgg62
  z37 := Tryz.sizeOf62
  v37 := Tryz.zeroValue62
  i37 := by kernel_rfl
  t44 := Tryz.underlying69
  a44 := Tryz.isAgg69
  z44 := Tryz.sizeOf69
  v44 := Tryz.zeroValue69
  i44 := by kernel_rfl }
open Go.RowKit Go.Lib Go.Sort in
theorem Tryz.insertionSort_func_one {α : Type} [Inhabited α] (enc : α → Value) (lt : α → α → Bool) (g : Nat) (lb : Array Value) (sf : Nat) (sb : Array Value) (blk off a b : Nat) (d : Array α) (w : World) (eg : ∀ args w, (callFunc g args).run Tryz.prog w = .ok (.enter g args) w) (hless : LessReads Tryz.prog g lb enc lt blk off d.size w) (hswap : SwapSwaps Tryz.prog sf sb enc blk off d.size) (hH : Holds enc w blk off d) (hblk : blk < w.heap.size) (hab : a ≤ b) (hb : b ≤ d.size) (hsz : d.size < 4611686018427387904) :
    Calls Tryz.prog 55 #[.agg #[.func (.func g) #[] lb, .func (.func sf) #[] sb], .int .i64 a, .int .i64 b] w fun e w' =>
      e = .returned (.tuple #[]) ∧ ∃ n, w' = putRow enc (Sort.ahead (w.alloc (.cells #[.func (.func g) #[] lb, .func (.func sf) #[] sb] 69)) n) blk off (Sort.insertionSort lt d a b) := Any.insertionSort_func_one Tryz.laysGg26 enc lt g lb sf sb blk off a b d w eg hless hswap hH hblk hab hb hsz
def Tryz.laysGg14_ren : Go.Shelf.Ren := ⟨fun | 14 => 25 | 26 => 55 | 27 => 56 | 28 => 57 | 29 => 58 | 30 => 59 | 31 => 60 | 32 => 61 | 33 => 62 | 34 => 87 | 35 => 88 | 36 => 89 | 37 => 90 | 38 => 91 | 13 => 24 | 39 => 113 | 24 => 53 | 25 => 54 | n => n, fun | 44 => 69 | 3 => 3 | 0 => 0 | 4 => 4 | 54 => 102 | 53 => 101 | 26 => 41 | 58 => 106 | 37 => 62 | 60 => 148 | 41 => 66 | 51 => 33 | 64 => 152 | 66 => 223 | 67 => 224 | 49 => 84 | 5 => 5 | 9 => 9 | n => n, fun | n => n⟩
theorem Tryz.laysGg14 : Go.Proofs.LaysGg.n14 Tryz.prog Tryz.laysGg14_ren := {
  mixed := by kernel_rfl
  f13 := Tryz.func24.trans (congrArg some (by kernel_rfl))
  f14 := Tryz.func25.trans (congrArg some (by kernel_rfl))
  f24 := Tryz.func53.trans (congrArg some (by kernel_rfl))
  f25 := Tryz.func54.trans (congrArg some (by kernel_rfl))
  f26 := Tryz.func55.trans (congrArg some (by kernel_rfl))
  f27 := Tryz.func56.trans (congrArg some (by kernel_rfl))
  f28 := Tryz.func57.trans (congrArg some (by kernel_rfl))
  f29 := Tryz.func58.trans (congrArg some (by kernel_rfl))
  f30 := Tryz.func59.trans (congrArg some (by kernel_rfl))
  f31 := Tryz.func60.trans (congrArg some (by kernel_rfl))
  f32 := Tryz.func61.trans (congrArg some (by kernel_rfl))
  f33 := Tryz.func62.trans (congrArg some (by kernel_rfl))
  f34 := Tryz.func87.trans (congrArg some (by kernel_rfl))
  f35 := Tryz.func88.trans (congrArg some (by kernel_rfl))
  f36 := Tryz.func89.trans (congrArg some (by kernel_rfl))
  f37 := Tryz.func90.trans (congrArg some (by kernel_rfl))
  f38 := Tryz.func91.trans (congrArg some (by kernel_rfl))
  f39 := Tryz.func113.trans (congrArg some (by kernel_rfl))
  t0 := Tryz.underlying0
  a0 := Tryz.isAgg0
  z0 := Tryz.sizeOf0
  v0 := Tryz.zeroValue0
  i0 := by kernel_rfl
  t3 := Tryz.underlying3
  a3 := Tryz.isAgg3
  z3 := Tryz.sizeOf3
  v3 := Tryz.zeroValue3
  i3 := by kernel_rfl
  t4 := Tryz.underlying4
  a4 := Tryz.isAgg4
  z4 := Tryz.sizeOf4
  v4 := Tryz.zeroValue4
  i4 := by kernel_rfl
  t5 := Tryz.underlying5
  a5 := Tryz.isAgg5
  z5 := Tryz.sizeOf5
  v5 := Tryz.zeroValue5
  i5 := by kernel_rfl
  t9 := Tryz.underlying9
  a9 := Tryz.isAgg9
  z9 := Tryz.sizeOf9
  v9 := Tryz.zeroValue9
  i9 := by kernel_rfl
  t26 := Tryz.underlying41
  a26 := Tryz.isAgg41
  z26 := Tryz.sizeOf41
  v26 := Tryz.zeroValue41
  i26 := by kernel_rfl
  t37 := Tryz.underlying62
  a37 := Tryz.isAgg62
  z37 := Tryz.sizeOf62
  v37 := Tryz.zeroValue62
  i37 := by kernel_rfl
  t41 := Tryz.underlying66
  a41 := Tryz.isAgg66
  z41 := Tryz.sizeOf66
  v41 := Tryz.zeroValue66
  i41 := by kernel_rfl
  t44 := Tryz.underlying69
  a44 := Tryz.isAgg69
  z44 := Tryz.sizeOf69
  v44 := Tryz.zeroValue69
  i44 := by kernel_rfl
  t49 := Tryz.underlying84
  a49 := Tryz.isAgg84
  z49 := Tryz.sizeOf84
  v49 := Tryz.zeroValue84
  i49 := by kernel_rfl
  t51 := Tryz.underlying33
  a51 := Tryz.isAgg33
  z51 := Tryz.sizeOf33
  v51 := Tryz.zeroValue33
  i51 := by kernel_rfl
  t53 := Tryz.underlying101
  a53 := Tryz.isAgg101
  z53 := Tryz.sizeOf101
  v53 := Tryz.zeroValue101
  i53 := by kernel_rfl
  t54 := Tryz.underlying102
  a54 := Tryz.isAgg102
  z54 := Tryz.sizeOf102
  v54 := Tryz.zeroValue102
  i54 := by kernel_rfl
  t58 := Tryz.underlying106
  a58 := Tryz.isAgg106
  z58 := Tryz.sizeOf106
  v58 := Tryz.zeroValue106
  i58 := by kernel_rfl
  t60 := Tryz.underlying148
  a60 := Tryz.isAgg148
  z60 := Tryz.sizeOf148
  v60 := Tryz.zeroValue148
  i60 := by kernel_rfl
  t64 := Tryz.underlying152
  a64 := Tryz.isAgg152
  z64 := Tryz.sizeOf152
  v64 := Tryz.zeroValue152
  i64 := by kernel_rfl
  t66 := Tryz.underlying223
  a66 := Tryz.isAgg223
  z66 := Tryz.sizeOf223
  v66 := Tryz.zeroValue223
  i66 := by kernel_rfl
  t67 := Tryz.underlying224
  a67 := Tryz.isAgg224
  z67 := Tryz.sizeOf224
  v67 := Tryz.zeroValue224
  i67 := by kernel_rfl }
open Go.RowKit Go.Lib Go.Sort in
/-- sort.pdqsort_func AT A RANGE OF AT MOST 12. (LAID: no walk: one application.) -/
theorem Tryz.pdqsort_func_small {α : Type} [Inhabited α] (enc : α → Value) (lt : α → α → Bool) (g : Nat) (lb : Array Value) (sf : Nat) (sb : Array Value) (blk off a b : Nat) (lim : Int) (d : Array α) (w : World) (eg : ∀ args w, (callFunc g args).run Tryz.prog w = .ok (.enter g args) w) (hless : LessReads Tryz.prog g lb enc lt blk off d.size w) (hswap : SwapSwaps Tryz.prog sf sb enc blk off d.size) (hH : Holds enc w blk off d) (hblk : blk < w.heap.size) (hab : a ≤ b) (hb : b ≤ d.size) (hsz : d.size < 4611686018427387904) (h12 : b - a ≤ 12) :
    Calls Tryz.prog 25 #[.agg #[.func (.func g) #[] lb, .func (.func sf) #[] sb], .int .i64 a, .int .i64 b, .int .i64 lim] w fun e w' =>
      e = .returned (.tuple #[]) ∧ ∃ n, w' = putRow enc (Sort.ahead ((w.alloc (.cells #[.func (.func g) #[] lb, .func (.func sf) #[] sb] 69)).alloc (.cells #[.func (.func g) #[] lb, .func (.func sf) #[] sb] 69)) n) blk off (Sort.insertionSort lt d a b) := Any.pdqsort_func_small Tryz.laysGg14 enc lt g lb sf sb blk off a b lim d w eg hless hswap hH hblk hab hb hsz h12
def Tryz.laysGg6_ren : Go.Shelf.Ren := ⟨fun | 6 => 9 | 10 => 21 | 11 => 22 | 12 => 23 | 13 => 24 | 14 => 25 | 24 => 53 | 25 => 54 | 26 => 55 | 27 => 56 | 28 => 57 | 29 => 58 | 30 => 59 | 31 => 60 | 32 => 61 | 33 => 62 | 34 => 87 | 35 => 88 | 36 => 89 | 37 => 90 | 38 => 91 | 39 => 113 | n => n, fun | 20 => 20 | 26 => 41 | 35 => 60 | 0 => 0 | 37 => 62 | 3 => 3 | 41 => 66 | 44 => 69 | 49 => 84 | 51 => 33 | 4 => 4 | 54 => 102 | 53 => 101 | 58 => 106 | 5 => 5 | 9 => 9 | 60 => 148 | 64 => 152 | 66 => 223 | 67 => 224 | 17 => 17 | 32 => 57 | 33 => 58 | 82 => 395 | 12 => 12 | 75 => 388 | 76 => 389 | 77 => 390 | 78 => 391 | 79 => 392 | 80 => 393 | n => n, fun | n => n⟩
theorem Tryz.laysGg6 : Go.Proofs.LaysGg.n6 Tryz.prog Tryz.laysGg6_ren := {
  mixed := by kernel_rfl
  f6 := Tryz.func9.trans (congrArg some (by kernel_rfl))
  f10 := Tryz.func21.trans (congrArg some (by kernel_rfl))
  f11 := Tryz.func22.trans (congrArg some (by kernel_rfl))
  f12 := Tryz.func23.trans (congrArg some (by kernel_rfl))
  f13 := Tryz.func24.trans (congrArg some (by kernel_rfl))
  f14 := Tryz.func25.trans (congrArg some (by kernel_rfl))
  f24 := Tryz.func53.trans (congrArg some (by kernel_rfl))
  f25 := Tryz.func54.trans (congrArg some (by kernel_rfl))
  f26 := Tryz.func55.trans (congrArg some (by kernel_rfl))
  f27 := Tryz.func56.trans (congrArg some (by kernel_rfl))
  f28 := Tryz.func57.trans (congrArg some (by kernel_rfl))
  f29 := Tryz.func58.trans (congrArg some (by kernel_rfl))
  f30 := Tryz.func59.trans (congrArg some (by kernel_rfl))
  f31 := Tryz.func60.trans (congrArg some (by kernel_rfl))
  f32 := Tryz.func61.trans (congrArg some (by kernel_rfl))
  f33 := Tryz.func62.trans (congrArg some (by kernel_rfl))
  f34 := Tryz.func87.trans (congrArg some (by kernel_rfl))
  f35 := Tryz.func88.trans (congrArg some (by kernel_rfl))
  f36 := Tryz.func89.trans (congrArg some (by kernel_rfl))
  f37 := Tryz.func90.trans (congrArg some (by kernel_rfl))
  f38 := Tryz.func91.trans (congrArg some (by kernel_rfl))
  f39 := Tryz.func113.trans (congrArg some (by kernel_rfl))
  t0 := Tryz.underlying0
  a0 := Tryz.isAgg0
  z0 := Tryz.sizeOf0
  v0 := Tryz.zeroValue0
  i0 := by kernel_rfl
  t3 := Tryz.underlying3
  a3 := Tryz.isAgg3
  z3 := Tryz.sizeOf3
  v3 := Tryz.zeroValue3
  i3 := by kernel_rfl
  t4 := Tryz.underlying4
  a4 := Tryz.isAgg4
  z4 := Tryz.sizeOf4
  v4 := Tryz.zeroValue4
  i4 := by kernel_rfl
  t5 := Tryz.underlying5
  a5 := Tryz.isAgg5
  z5 := Tryz.sizeOf5
  v5 := Tryz.zeroValue5
  i5 := by kernel_rfl
  t9 := Tryz.underlying9
  a9 := Tryz.isAgg9
  z9 := Tryz.sizeOf9
  v9 := Tryz.zeroValue9
  i9 := by kernel_rfl
  t12 := Tryz.underlying12
  a12 := Tryz.isAgg12
  z12 := Tryz.sizeOf12
  v12 := Tryz.zeroValue12
  i12 := by kernel_rfl
  t17 := Tryz.underlying17
  a17 := Tryz.isAgg17
  z17 := Tryz.sizeOf17
  v17 := Tryz.zeroValue17
  i17 := by kernel_rfl
  t20 := Tryz.underlying20
  a20 := Tryz.isAgg20
  z20 := Tryz.sizeOf20
  v20 := Tryz.zeroValue20
  i20 := by kernel_rfl
  t26 := Tryz.underlying41
  a26 := Tryz.isAgg41
  z26 := Tryz.sizeOf41
  v26 := Tryz.zeroValue41
  i26 := by kernel_rfl
  t32 := Tryz.underlying57
  a32 := Tryz.isAgg57
  z32 := Tryz.sizeOf57
  v32 := Tryz.zeroValue57
  i32 := by kernel_rfl
  t33 := Tryz.underlying58
  a33 := Tryz.isAgg58
  z33 := Tryz.sizeOf58
  v33 := Tryz.zeroValue58
  i33 := by kernel_rfl
  t35 := Tryz.underlying60
  a35 := Tryz.isAgg60
  z35 := Tryz.sizeOf60
  v35 := Tryz.zeroValue60
  i35 := by kernel_rfl
  t37 := Tryz.underlying62
  a37 := Tryz.isAgg62
  z37 := Tryz.sizeOf62
  v37 := Tryz.zeroValue62
  i37 := by kernel_rfl
  t41 := Tryz.underlying66
  a41 := Tryz.isAgg66
  z41 := Tryz.sizeOf66
  v41 := Tryz.zeroValue66
  i41 := by kernel_rfl
  t44 := Tryz.underlying69
  a44 := Tryz.isAgg69
  z44 := Tryz.sizeOf69
  v44 := Tryz.zeroValue69
  i44 := by kernel_rfl
  t49 := Tryz.underlying84
  a49 := Tryz.isAgg84
  z49 := Tryz.sizeOf84
  v49 := Tryz.zeroValue84
  i49 := by kernel_rfl
  t51 := Tryz.underlying33
  a51 := Tryz.isAgg33
  z51 := Tryz.sizeOf33
  v51 := Tryz.zeroValue33
  i51 := by kernel_rfl
  t53 := Tryz.underlying101
  a53 := Tryz.isAgg101
  z53 := Tryz.sizeOf101
  v53 := Tryz.zeroValue101
  i53 := by kernel_rfl
  t54 := Tryz.underlying102
  a54 := Tryz.isAgg102
  z54 := Tryz.sizeOf102
  v54 := Tryz.zeroValue102
  i54 := by kernel_rfl
  t58 := Tryz.underlying106
  a58 := Tryz.isAgg106
  z58 := Tryz.sizeOf106
  v58 := Tryz.zeroValue106
  i58 := by kernel_rfl
  t60 := Tryz.underlying148
  a60 := Tryz.isAgg148
  z60 := Tryz.sizeOf148
  v60 := Tryz.zeroValue148
  i60 := by kernel_rfl
  t64 := Tryz.underlying152
  a64 := Tryz.isAgg152
  z64 := Tryz.sizeOf152
  v64 := Tryz.zeroValue152
  i64 := by kernel_rfl
  t66 := Tryz.underlying223
  a66 := Tryz.isAgg223
  z66 := Tryz.sizeOf223
  v66 := Tryz.zeroValue223
  i66 := by kernel_rfl
  t67 := Tryz.underlying224
  a67 := Tryz.isAgg224
  z67 := Tryz.sizeOf224
  v67 := Tryz.zeroValue224
  i67 := by kernel_rfl
  t75 := Tryz.underlying388
  a75 := Tryz.isAgg388
  z75 := Tryz.sizeOf388
  v75 := Tryz.zeroValue388
  i75 := by kernel_rfl
  t76 := Tryz.underlying389
  a76 := Tryz.isAgg389
  z76 := Tryz.sizeOf389
  v76 := Tryz.zeroValue389
  i76 := by kernel_rfl
  t77 := Tryz.underlying390
  a77 := Tryz.isAgg390
  z77 := Tryz.sizeOf390
  v77 := Tryz.zeroValue390
  i77 := by kernel_rfl
  t78 := Tryz.underlying391
  a78 := Tryz.isAgg391
  z78 := Tryz.sizeOf391
  v78 := Tryz.zeroValue391
  i78 := by kernel_rfl
  t79 := Tryz.underlying392
  a79 := Tryz.isAgg392
  z79 := Tryz.sizeOf392
  v79 := Tryz.zeroValue392
  i79 := by kernel_rfl
  t80 := Tryz.underlying393
  a80 := Tryz.isAgg393
  z80 := Tryz.sizeOf393
  v80 := Tryz.zeroValue393
  i80 := by kernel_rfl
  t82 := Tryz.underlying395
  a82 := Tryz.isAgg395
  z82 := Tryz.sizeOf395
  v82 := Tryz.zeroValue395
  i82 := by kernel_rfl }
open Go.RowKit Go.Lib Go.Sort in
theorem Tryz.insertionSort_func_cells {α : Type} [Inhabited α] (enc : α → List Value) (k : Nat) (hk : ∀ x, (enc x).length = k) (lt : α → α → Bool) (g : Nat) (lb : Array Value) (sf : Nat) (sb : Array Value) (blk off a b : Nat) (d : Array α) (w : World) (eg : ∀ args w, (callFunc g args).run Tryz.prog w = .ok (.enter g args) w) (hless : LessReadsK Tryz.prog g lb enc k lt blk off d.size w) (hswap : SwapSwapsK Tryz.prog sf sb enc k blk off d.size) (hH : HoldsK enc k w blk off d) (hblk : blk < w.heap.size) (hab : a ≤ b) (hb : b ≤ d.size) (hsz : d.size < 4611686018427387904) :
    Calls Tryz.prog 55 #[.agg #[.func (.func g) #[] lb, .func (.func sf) #[] sb], .int .i64 a, .int .i64 b] w fun e w' =>
      e = .returned (.tuple #[]) ∧ ∃ n, w' = putRowK enc k (Sort.ahead (w.alloc (.cells #[.func (.func g) #[] lb, .func (.func sf) #[] sb] 69)) n) blk off (Sort.insertionSort lt d a b) := Any.insertionSort_func_cells Tryz.laysGg26 enc k hk lt g lb sf sb blk off a b d w eg hless hswap hH hblk hab hb hsz
open Go.RowKit Go.Lib Go.Sort in
/-- sort.pdqsort_func AT A RANGE OF AT MOST 12. (LAID: no walk: one application.) -/
theorem Tryz.pdqsort_func_small_cells {α : Type} [Inhabited α] (enc : α → List Value) (k : Nat) (hk : ∀ x, (enc x).length = k) (lt : α → α → Bool) (g : Nat) (lb : Array Value) (sf : Nat) (sb : Array Value) (blk off a b : Nat) (lim : Int) (d : Array α) (w : World) (eg : ∀ args w, (callFunc g args).run Tryz.prog w = .ok (.enter g args) w) (hless : LessReadsK Tryz.prog g lb enc k lt blk off d.size w) (hswap : SwapSwapsK Tryz.prog sf sb enc k blk off d.size) (hH : HoldsK enc k w blk off d) (hblk : blk < w.heap.size) (hab : a ≤ b) (hb : b ≤ d.size) (hsz : d.size < 4611686018427387904) (h12 : b - a ≤ 12) :
    Calls Tryz.prog 25 #[.agg #[.func (.func g) #[] lb, .func (.func sf) #[] sb], .int .i64 a, .int .i64 b, .int .i64 lim] w fun e w' =>
      e = .returned (.tuple #[]) ∧ ∃ n, w' = putRowK enc k (Sort.ahead ((w.alloc (.cells #[.func (.func g) #[] lb, .func (.func sf) #[] sb] 69)).alloc (.cells #[.func (.func g) #[] lb, .func (.func sf) #[] sb] 69)) n) blk off (Sort.insertionSort lt d a b) := Any.pdqsort_func_small_cells Tryz.laysGg14 enc k hk lt g lb sf sb blk off a b lim d w eg hless hswap hH hblk hab hb hsz h12
open Go.RowKit Go.Lib Go.Sort in
theorem Tryz.insertionSort_func_none (lf : Fn) (la lb : Array Value) (f : Nat) (sb : Array Value) (a b : Nat) (h : b ≤ a + 1) (ha : a < 4611686018427387904) (w : World) :
    Calls Tryz.prog 55 #[.agg #[.func lf la lb, .func (.func f) #[] sb], .int .i64 a, .int .i64 b] w fun e w' => e = .returned (.tuple #[]) ∧ w' = w.alloc (.cells #[.func lf la lb, .func (.func f) #[] sb] 69) := Any.insertionSort_func_none Tryz.laysGg26 lf la lb f sb a b h ha w
open Go.RowKit Go.Lib Go.Sort in
theorem Tryz.pdqsort_func_tiny (lf : Fn) (la lb : Array Value) (f : Nat) (sb : Array Value) (n : Nat) (h : n ≤ 1) (lim : Int) (w : World) :
    Calls Tryz.prog 25 #[.agg #[.func lf la lb, .func (.func f) #[] sb], .int .i64 0, .int .i64 n, .int .i64 lim] w fun e w' => e = .returned (.tuple #[]) ∧ w' = (w.alloc (.cells #[.func lf la lb, .func (.func f) #[] sb] 69)).alloc (.cells #[.func lf la lb, .func (.func f) #[] sb] 69) := Any.pdqsort_func_tiny Tryz.laysGg14 lf la lb f sb n h lim w
def Tryz.lays197_ren : Go.Shelf.Ren := ⟨fun | 197 => 105 | 260 => 124 | n => n, fun | 9 => 9 | 21 => 21 | 3 => 3 | 4 => 4 | 5 => 5 | 105 => 217 | 119 => 255 | 0 => 0 | 46 => 66 | 139 => 258 | 138 => 257 | n => n, fun | 3 => 1 | 4 => 2 | n => n⟩
theorem Tryz.lays197 : Go.Proofs.Lays.n197 Tryz.prog Tryz.lays197_ren := {
  mixed := by kernel_rfl
  f197 := Tryz.func105.trans (congrArg some (by kernel_rfl))
  f260 := Tryz.func124.trans (congrArg some (by kernel_rfl))
  t0 := Tryz.underlying0
  a0 := Tryz.isAgg0
  z0 := Tryz.sizeOf0
  v0 := Tryz.zeroValue0
  t3 := Tryz.underlying3
  a3 := Tryz.isAgg3
  z3 := Tryz.sizeOf3
  v3 := Tryz.zeroValue3
  t4 := Tryz.underlying4
  a4 := Tryz.isAgg4
  z4 := Tryz.sizeOf4
  v4 := Tryz.zeroValue4
  t5 := Tryz.underlying5
  a5 := Tryz.isAgg5
  z5 := Tryz.sizeOf5
  v5 := Tryz.zeroValue5
  t9 := Tryz.underlying9
  a9 := Tryz.isAgg9
  z9 := Tryz.sizeOf9
  v9 := Tryz.zeroValue9
  t21 := Tryz.underlying21
  a21 := Tryz.isAgg21
  z21 := Tryz.sizeOf21
  v21 := Tryz.zeroValue21
  t46 := Tryz.underlying66
  a46 := Tryz.isAgg66
  z46 := Tryz.sizeOf66
  v46 := Tryz.zeroValue66
  t105 := Tryz.underlying217
  a105 := Tryz.isAgg217
  z105 := Tryz.sizeOf217
  v105 := Tryz.zeroValue217
  t119 := Tryz.underlying255
  a119 := Tryz.isAgg255
  z119 := Tryz.sizeOf255
  t138 := Tryz.underlying257
  a138 := Tryz.isAgg257
  z138 := Tryz.sizeOf257
  v138 := Tryz.zeroValue257
  t139 := Tryz.underlying258
  a139 := Tryz.isAgg258
  z139 := Tryz.sizeOf258
  v139 := Tryz.zeroValue258
  g3 := by kernel_rfl
  g4 := by kernel_rfl }
open Go.RowKit Go.Lib in
/-- unicode/utf8.DecodeRuneInString: "DecodeRuneInString is like DecodeRune but its input is a string.": ("DecodeRune unpacks the first UTF-8 encoding in p and returns the rune and its width in bytes."): WHERE s BEGINS WITH AN ASCII BYTE x: (x, 1). (LAID: no walk: one application.) -/
theorem Tryz.utf8_DecodeRuneInString_ascii (s : ByteArray) (x : UInt8) (w : World) (h0 : s.data.toList[0]? = some x) (hx : x.toNat < 128) :
    Calls Tryz.prog 105 #[.string s] w fun e w' => e = .returned (.tuple #[.int .i32 x.toNat, .int .i64 1]) ∧ w' = w := Any.utf8_DecodeRuneInString_ascii Tryz.lays197 s x w h0 hx
def Tryz.lays260_ren : Go.Shelf.Ren := ⟨fun | 260 => 124 | n => n, fun | 9 => 9 | 21 => 21 | 3 => 3 | 4 => 4 | 5 => 5 | 119 => 255 | 0 => 0 | 46 => 66 | 139 => 258 | 138 => 257 | n => n, fun | 3 => 1 | 4 => 2 | n => n⟩
theorem Tryz.lays260 : Go.Proofs.Lays.n260 Tryz.prog Tryz.lays260_ren := {
  mixed := by kernel_rfl
  f260 := Tryz.func124.trans (congrArg some (by kernel_rfl))
  t0 := Tryz.underlying0
  a0 := Tryz.isAgg0
  z0 := Tryz.sizeOf0
  v0 := Tryz.zeroValue0
  t3 := Tryz.underlying3
  a3 := Tryz.isAgg3
  z3 := Tryz.sizeOf3
  v3 := Tryz.zeroValue3
  t4 := Tryz.underlying4
  a4 := Tryz.isAgg4
  z4 := Tryz.sizeOf4
  v4 := Tryz.zeroValue4
  t5 := Tryz.underlying5
  a5 := Tryz.isAgg5
  z5 := Tryz.sizeOf5
  v5 := Tryz.zeroValue5
  t9 := Tryz.underlying9
  a9 := Tryz.isAgg9
  z9 := Tryz.sizeOf9
  v9 := Tryz.zeroValue9
  t21 := Tryz.underlying21
  a21 := Tryz.isAgg21
  z21 := Tryz.sizeOf21
  v21 := Tryz.zeroValue21
  t46 := Tryz.underlying66
  a46 := Tryz.isAgg66
  z46 := Tryz.sizeOf66
  v46 := Tryz.zeroValue66
  t119 := Tryz.underlying255
  a119 := Tryz.isAgg255
  z119 := Tryz.sizeOf255
  t138 := Tryz.underlying257
  a138 := Tryz.isAgg257
  z138 := Tryz.sizeOf257
  v138 := Tryz.zeroValue257
  t139 := Tryz.underlying258
  a139 := Tryz.isAgg258
  z139 := Tryz.sizeOf258
  v139 := Tryz.zeroValue258
  g3 := by kernel_rfl
  g4 := by kernel_rfl }
open Go.RowKit Go.Lib in
theorem Tryz.utf8_decodeRuneInStringSlow (s : ByteArray) (w : World) (hT : Lib.Utf8Tabs 1 2 w) :
    Calls Tryz.prog 124 #[.string s] w fun e w' => e = .returned (.tuple #[.int .i32 (Lib.decodeGo s).1, .int .i64 (Lib.decodeGo s).2]) ∧ Below w.heap.size w w' := Any.utf8_decodeRuneInStringSlow Tryz.lays260 s w hT
open Go.RowKit Go.Lib in
/-- **unicode/utf8.DecodeRuneInString AT EVERY STRING.** (LAID: no walk: one application.) -/
theorem Tryz.utf8_DecodeRuneInString (s : ByteArray) (w : World) (hT : Lib.Utf8Tabs 1 2 w) :
    Calls Tryz.prog 105 #[.string s] w fun e w' => e = .returned (.tuple #[.int .i32 (Lib.decodeGo s).1, .int .i64 (Lib.decodeGo s).2]) ∧ Below w.heap.size w w' := Any.utf8_DecodeRuneInString Tryz.lays197 s w hT
open Go.RowKit Go.Sort in
/-- .. and plain. (LAID: no walk: one application.) -/
theorem Tryz.slices_Sort_string_none (p : Option Addr) (cap : Nat) (w : World) :
    Calls Tryz.prog 118 #[.slice p 0 cap] w fun e w' => e = .returned (.tuple #[]) ∧ w' = w := Any.slices_Sort_string_none Tryz.lays190 p cap w
open Go.RowKit Go.Sort in
/-- .. and plain. (LAID: no walk: one application.) -/
theorem Tryz.sort_Strings_none (p : Option Addr) (cap : Nat) (w : World) :
    Calls Tryz.prog 98 #[.slice p 0 cap] w fun e w' => e = .returned (.tuple #[]) ∧ w' = w := Any.sort_Strings_none Tryz.lays192 p cap w
end Go.Proofs
