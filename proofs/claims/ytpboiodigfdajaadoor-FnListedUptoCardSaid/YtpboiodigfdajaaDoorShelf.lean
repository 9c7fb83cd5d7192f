/-
  DERIVED: THE SHELF's CONTRACTS AT THIS DUMP, IN PLAIN WORDS (tools/lay-plain.mjs out of 'TrydShelf.lean', which tools/lay-shelf.mjs wrote): THE SAME DECLARATIONS UNDER THE SAME NAMES: 'import', 'namespace', 'open', 'def', 'theorem' AND NOTHING ELSE: no command of the shelf's: FOR A HAND-IN. Each laying: the table of numbers ('.._ren') and one theorem, a field a fact of the dump's own or the kernel's comparison; each contract: ONE APPLICATION.
-/
import Derived.Shelf.Small.Utf8
import Derived.Shelf.Utf8.AppendRune
import Derived.Shelf.Strconv.Bsearch
import Derived.Shelf.Strconv.IsPrint32
import Derived.Shelf.Unicode.DecodeAny
import Derived.Test.YtpboiodigfdajaaDoorProg
namespace Go.Proofs
open Go.Shelf
def Tryd.lays119_ren : Go.Shelf.Ren := ⟨fun | 119 => 66 | n => n, fun | 21 => 21 | 4 => 4 | n => n, fun | n => n⟩
theorem Tryd.lays119 : Go.Proofs.Lays.n119 Tryd.prog Tryd.lays119_ren := {
  mixed := by kernel_rfl
  f119 := Tryd.func66.trans (congrArg some (by kernel_rfl))
  t4 := Tryd.underlying4
  a4 := Tryd.isAgg4
  z4 := Tryd.sizeOf4
  v4 := Tryd.zeroValue4
  t21 := Tryd.underlying21
  a21 := Tryd.isAgg21
  z21 := Tryd.sizeOf21
  v21 := Tryd.zeroValue21 }
/-- utf8.ValidRune: "ValidRune reports whether r can be legally encoded as UTF-8. Code points that are out of range or a surrogate half are illegal.": IT RETURNS 'Lib.validRune r'; the world is as it was. (LAID: no walk: one application.) -/
theorem Tryd.utf8_ValidRune (r : Int) (w : World) :
    Calls Tryd.prog 66 #[.int .i32 r] w fun e w' => e = .returned (.bool (Lib.validRune r)) ∧ w' = w := Any.utf8_ValidRune Tryd.lays119 r w
def Tryd.lays242_ren : Go.Shelf.Ren := ⟨fun | 242 => 65 | 278 => 67 | n => n, fun | 37 => 30 | 21 => 21 | 51 => 61 | 4 => 4 | 5 => 5 | 46 => 64 | n => n, fun | n => n⟩
theorem Tryd.lays242 : Go.Proofs.Lays.n242 Tryd.prog Tryd.lays242_ren := {
  mixed := by kernel_rfl
  f242 := Tryd.func65.trans (congrArg some (by kernel_rfl))
  f278 := Tryd.func67.trans (congrArg some (by kernel_rfl))
  t4 := Tryd.underlying4
  a4 := Tryd.isAgg4
  z4 := Tryd.sizeOf4
  v4 := Tryd.zeroValue4
  t5 := Tryd.underlying5
  a5 := Tryd.isAgg5
  z5 := Tryd.sizeOf5
  v5 := Tryd.zeroValue5
  t21 := Tryd.underlying21
  a21 := Tryd.isAgg21
  z21 := Tryd.sizeOf21
  v21 := Tryd.zeroValue21
  t37 := Tryd.underlying30
  a37 := Tryd.isAgg30
  z37 := Tryd.sizeOf30
  v37 := Tryd.zeroValue30
  t46 := Tryd.underlying64
  a46 := Tryd.isAgg64
  z46 := Tryd.sizeOf64
  v46 := Tryd.zeroValue64
  t51 := Tryd.underlying61
  a51 := Tryd.isAgg61
  z51 := Tryd.sizeOf61
  v51 := Tryd.zeroValue61 }
open Go.RowKit in
/-- unicode/utf8.AppendRune: "AppendRune appends the UTF-8 encoding of r to the end of p and returns the extended buffer. If the rune is out of range, it appends the encoding of RuneError.": ONTO A ROW OF BYTES THAT THE CALL OWNS (its head frozen or not): EVERY int32: 'Lib.runeCells r' goes in behind what the row holds; the world: one new block (the bytes as the call's variadic argument), then what 'append' does to the row. (LAID: no walk: one application.) -/
theorem Tryd.utf8_AppendRune_row (B : Nat) (v : Value) (n : Nat) (xs : List Value) (r : Int) (hr0 : -2147483648 ≤ r) (hr1 : r ≤ 2147483647) (w : World) (hown : w.ownsRowF B 5 1 v n xs) (hlen : n + 4 ≤ 140737488355328) (hBw : B ≤ w.heap.size) :
    Calls Tryd.prog 65 #[v, .int .i32 r] w fun e w' => ∃ v', e = .returned v' ∧ w'.ownsRowF B 5 1 v' (n + (Lib.runeCells r).length) (xs ++ Lib.runeCells r) ∧ ∃ o, (w.alloc o).grownBy w' v.ownBlock := Any.utf8_AppendRune_row Tryd.lays242 (by kernel_rfl) B v n xs r hr0 hr1 w hown hlen hBw
def Tryd.lays345_ren : Go.Shelf.Ren := ⟨fun | 345 => 58 | n => n, fun | 234 => 58 | 49 => 57 | 3 => 3 | 4 => 4 | 46 => 64 | 0 => 0 | n => n, fun | n => n⟩
theorem Tryd.lays345 : Go.Proofs.Lays.n345 Tryd.prog Tryd.lays345_ren := {
  mixed := by kernel_rfl
  f345 := Tryd.func58.trans (congrArg some (by kernel_rfl))
  t0 := Tryd.underlying0
  a0 := Tryd.isAgg0
  z0 := Tryd.sizeOf0
  v0 := Tryd.zeroValue0
  t3 := Tryd.underlying3
  a3 := Tryd.isAgg3
  z3 := Tryd.sizeOf3
  v3 := Tryd.zeroValue3
  t4 := Tryd.underlying4
  a4 := Tryd.isAgg4
  z4 := Tryd.sizeOf4
  v4 := Tryd.zeroValue4
  t46 := Tryd.underlying64
  a46 := Tryd.isAgg64
  z46 := Tryd.sizeOf64
  v46 := Tryd.zeroValue64
  t49 := Tryd.underlying57
  a49 := Tryd.isAgg57
  z49 := Tryd.sizeOf57
  v49 := Tryd.zeroValue57
  t234 := Tryd.underlying58
  a234 := Tryd.isAgg58
  z234 := Tryd.sizeOf58
  v234 := Tryd.zeroValue58 }
open Go.RowKit in
/-- strconv.bsearch[[]uint16,uint16]: a table of whatever numbers (sorted or not: WHAT IS SAID IS WHAT THE LOOP COMPUTES: 'Lib.bsearchI', 'Lib.bsearchFound'), at least one of them; draws alone (the last statement's order); nothing else turns. (LAID: no walk: one application.) -/
theorem Tryd.strconv_bsearch16 (R o c : Nat) (t : List Nat) (v : Nat) (w : World) (h0 : 0 < t.length) (hn : t.length ≤ 4611686018427387904) (hc : ∀ j, j < t.length → w.cell? ⟨R, o + j, none⟩ = some (.int .u16 (t.getD j 0))) :
    Calls Tryd.prog 58 #[.slice (some ⟨R, o, none⟩) t.length c, .int .u16 v] w fun e w' => e = .returned (.tuple #[.int .i64 (Lib.bsearchI t v), .bool (Lib.bsearchFound t v)]) ∧ ∃ q, w' = w.drewN q := Any.strconv_bsearch16 Tryd.lays345 R o c t v w h0 hn hc
def Tryd.lays346_ren : Go.Shelf.Ren := ⟨fun | 346 => 59 | n => n, fun | 236 => 62 | 51 => 61 | 3 => 3 | 4 => 4 | 46 => 64 | 0 => 0 | n => n, fun | n => n⟩
theorem Tryd.lays346 : Go.Proofs.Lays.n346 Tryd.prog Tryd.lays346_ren := {
  mixed := by kernel_rfl
  f346 := Tryd.func59.trans (congrArg some (by kernel_rfl))
  t0 := Tryd.underlying0
  a0 := Tryd.isAgg0
  z0 := Tryd.sizeOf0
  v0 := Tryd.zeroValue0
  t3 := Tryd.underlying3
  a3 := Tryd.isAgg3
  z3 := Tryd.sizeOf3
  v3 := Tryd.zeroValue3
  t4 := Tryd.underlying4
  a4 := Tryd.isAgg4
  z4 := Tryd.sizeOf4
  v4 := Tryd.zeroValue4
  t46 := Tryd.underlying64
  a46 := Tryd.isAgg64
  z46 := Tryd.sizeOf64
  v46 := Tryd.zeroValue64
  t51 := Tryd.underlying61
  a51 := Tryd.isAgg61
  z51 := Tryd.sizeOf61
  v51 := Tryd.zeroValue61
  t236 := Tryd.underlying62
  a236 := Tryd.isAgg62
  z236 := Tryd.sizeOf62
  v236 := Tryd.zeroValue62 }
open Go.RowKit in
/-- strconv.bsearch[[]uint32,uint32]: a table of whatever numbers (sorted or not: WHAT IS SAID IS WHAT THE LOOP COMPUTES: 'Lib.bsearchI', 'Lib.bsearchFound'), at least one of them; draws alone (the last statement's order); nothing else turns. (LAID: no walk: one application.) -/
theorem Tryd.strconv_bsearch32 (R o c : Nat) (t : List Nat) (v : Nat) (w : World) (h0 : 0 < t.length) (hn : t.length ≤ 4611686018427387904) (hc : ∀ j, j < t.length → w.cell? ⟨R, o + j, none⟩ = some (.int .u32 (t.getD j 0))) :
    Calls Tryd.prog 59 #[.slice (some ⟨R, o, none⟩) t.length c, .int .u32 v] w fun e w' => e = .returned (.tuple #[.int .i64 (Lib.bsearchI t v), .bool (Lib.bsearchFound t v)]) ∧ ∃ q, w' = w.drewN q := Any.strconv_bsearch32 Tryd.lays346 R o c t v w h0 hn hc
def Tryd.lays339_ren : Go.Shelf.Ren := ⟨fun | 339 => 54 | 345 => 58 | 346 => 59 | n => n, fun | 21 => 21 | 4 => 4 | 49 => 57 | 234 => 58 | 131 => 59 | 3 => 3 | 0 => 0 | 51 => 61 | 236 => 62 | 46 => 64 | n => n, fun | 20 => 2 | 21 => 3 | 22 => 4 | 23 => 5 | n => n⟩
theorem Tryd.lays339 : Go.Proofs.Lays.n339 Tryd.prog Tryd.lays339_ren := {
  mixed := by kernel_rfl
  f339 := Tryd.func54.trans (congrArg some (by kernel_rfl))
  f345 := Tryd.func58.trans (congrArg some (by kernel_rfl))
  f346 := Tryd.func59.trans (congrArg some (by kernel_rfl))
  t0 := Tryd.underlying0
  a0 := Tryd.isAgg0
  z0 := Tryd.sizeOf0
  v0 := Tryd.zeroValue0
  t3 := Tryd.underlying3
  a3 := Tryd.isAgg3
  z3 := Tryd.sizeOf3
  v3 := Tryd.zeroValue3
  t4 := Tryd.underlying4
  a4 := Tryd.isAgg4
  z4 := Tryd.sizeOf4
  v4 := Tryd.zeroValue4
  t21 := Tryd.underlying21
  a21 := Tryd.isAgg21
  z21 := Tryd.sizeOf21
  v21 := Tryd.zeroValue21
  t46 := Tryd.underlying64
  a46 := Tryd.isAgg64
  z46 := Tryd.sizeOf64
  v46 := Tryd.zeroValue64
  t49 := Tryd.underlying57
  a49 := Tryd.isAgg57
  z49 := Tryd.sizeOf57
  v49 := Tryd.zeroValue57
  t51 := Tryd.underlying61
  a51 := Tryd.isAgg61
  z51 := Tryd.sizeOf61
  v51 := Tryd.zeroValue61
  t131 := Tryd.underlying59
  a131 := Tryd.isAgg59
  z131 := Tryd.sizeOf59
  v131 := Tryd.zeroValue59
  t234 := Tryd.underlying58
  a234 := Tryd.isAgg58
  z234 := Tryd.sizeOf58
  v234 := Tryd.zeroValue58
  t236 := Tryd.underlying62
  a236 := Tryd.isAgg62
  z236 := Tryd.sizeOf62
  v236 := Tryd.zeroValue62
  g20 := by kernel_rfl
  g21 := by kernel_rfl
  g22 := by kernel_rfl
  g23 := by kernel_rfl }
open Go.RowKit in
/-- strconv.IsPrint AT EVERY int32: 'Lib.isPrintR T r', the four tables as 'Lib.PrintTabsAt' says; draws alone. (LAID: no walk: one application.) -/
theorem Tryd.strconv_IsPrint (T : Lib.PrintTabs) (r : Int) (w : World) (hlo : -2147483648 ≤ r) (hhi : r ≤ 2147483647) (hT : Lib.PrintTabsAt 2 3 4 5 T w) :
    Calls Tryd.prog 54 #[.int .i32 r] w fun e w' => e = .returned (.bool (Lib.isPrintR T r)) ∧ ∃ q, w' = w.drewN q := Any.strconv_IsPrint Tryd.lays339 T r w hlo hhi hT
def Tryd.lays197_ren : Go.Shelf.Ren := ⟨fun | 197 => 61 | 260 => 64 | n => n, fun | 9 => 9 | 21 => 21 | 3 => 3 | 4 => 4 | 5 => 5 | 105 => 42 | 119 => 67 | 0 => 0 | 46 => 64 | 139 => 70 | 138 => 69 | n => n, fun | 3 => 7 | 4 => 8 | n => n⟩
theorem Tryd.lays197 : Go.Proofs.Lays.n197 Tryd.prog Tryd.lays197_ren := {
  mixed := by kernel_rfl
  f197 := Tryd.func61.trans (congrArg some (by kernel_rfl))
  f260 := Tryd.func64.trans (congrArg some (by kernel_rfl))
  t0 := Tryd.underlying0
  a0 := Tryd.isAgg0
  z0 := Tryd.sizeOf0
  v0 := Tryd.zeroValue0
  t3 := Tryd.underlying3
  a3 := Tryd.isAgg3
  z3 := Tryd.sizeOf3
  v3 := Tryd.zeroValue3
  t4 := Tryd.underlying4
  a4 := Tryd.isAgg4
  z4 := Tryd.sizeOf4
  v4 := Tryd.zeroValue4
  t5 := Tryd.underlying5
  a5 := Tryd.isAgg5
  z5 := Tryd.sizeOf5
  v5 := Tryd.zeroValue5
  t9 := Tryd.underlying9
  a9 := Tryd.isAgg9
  z9 := Tryd.sizeOf9
  v9 := Tryd.zeroValue9
  t21 := Tryd.underlying21
  a21 := Tryd.isAgg21
  z21 := Tryd.sizeOf21
  v21 := Tryd.zeroValue21
  t46 := Tryd.underlying64
  a46 := Tryd.isAgg64
  z46 := Tryd.sizeOf64
  v46 := Tryd.zeroValue64
  t105 := Tryd.underlying42
  a105 := Tryd.isAgg42
  z105 := Tryd.sizeOf42
  v105 := Tryd.zeroValue42
  t119 := Tryd.underlying67
  a119 := Tryd.isAgg67
  z119 := Tryd.sizeOf67
  t138 := Tryd.underlying69
  a138 := Tryd.isAgg69
  z138 := Tryd.sizeOf69
  v138 := Tryd.zeroValue69
  t139 := Tryd.underlying70
  a139 := Tryd.isAgg70
  z139 := Tryd.sizeOf70
  v139 := Tryd.zeroValue70
  g3 := by kernel_rfl
  g4 := by kernel_rfl }
open Go.RowKit Go.Lib in
/-- **unicode/utf8.DecodeRuneInString AT EVERY STRING.** (LAID: no walk: one application.) -/
theorem Tryd.utf8_DecodeRuneInString (s : ByteArray) (w : World) (hT : Lib.Utf8Tabs 7 8 w) :
    Calls Tryd.prog 61 #[.string s] w fun e w' => e = .returned (.tuple #[.int .i32 (Lib.decodeGo s).1, .int .i64 (Lib.decodeGo s).2]) ∧ Below w.heap.size w w' := Any.utf8_DecodeRuneInString Tryd.lays197 s w hT
end Go.Proofs
