/-
  DERIVED: THE SHELF's CONTRACTS AT THIS DUMP, IN PLAIN WORDS (tools/lay-plain.mjs out of 'YtcmeaogbfecjkaaGreatDoorSh.lean', which tools/lay-shelf.mjs wrote): THE SAME DECLARATIONS UNDER THE SAME NAMES: 'import', 'namespace', 'open', 'def', 'theorem' AND NOTHING ELSE: no command of the shelf's: FOR A HAND-IN. Each laying: the table of numbers ('.._ren') and one theorem, a field a fact of the dump's own or the kernel's comparison; each contract: ONE APPLICATION.
-/
import Derived.Shelf.Strings.Builder1
import Derived.Shelf.Strings.Builder2
import Derived.Shelf.Strings.OnBuilder
import Derived.Shelf.Strings.Prefix
import Derived.Shelf.Unicode.Decode
import Derived.Shelf.LaysM
import Derived.Ground.PaProg
import Derived.Shelf.Hex.Lens
import Derived.Shelf.Hex.Decode
import Derived.Shelf.Hex.DecodeOwns
import Derived.Test.YtcmeaogbfecjkaaGreatDoorProg
namespace Go.Proofs
open Go.Shelf
def Tryz.lays159_ren : Go.Shelf.Ren := ⟨fun | 159 => 52 | 165 => 75 | 166 => 76 | 167 => 77 | 169 => 78 | 230 => 79 | 204 => 80 | 240 => 95 | 241 => 96 | 197 => 74 | 118 => 97 | 168 => 98 | 270 => 99 | 262 => 100 | 276 => 110 | 277 => 111 | 260 => 94 | 242 => 112 | 313 => 113 | 278 => 121 | 274 => 122 | 275 => 123 | n => n, fun | 9 => 9 | 4 => 4 | 3 => 3 | 5 => 5 | 72 => 134 | 0 => 0 | 76 => 136 | 75 => 62 | 107 => 141 | 70 => 132 | 20 => 20 | 37 => 23 | 127 => 163 | 21 => 21 | 105 => 130 | 164 => 180 | 162 => 186 | 203 => 184 | 119 => 113 | 46 => 98 | 139 => 179 | 138 => 178 | 51 => 126 | 160 => 194 | 208 => 228 | 206 => 226 | 80 => 139 | n => n, fun | 13 => 4 | 3 => 2 | 4 => 3 | n => n⟩
theorem Tryz.lays159 : Go.Proofs.Lays.n159 Tryz.prog Tryz.lays159_ren := {
  mixed := by kernel_rfl
  f118 := Tryz.func97.trans (congrArg some (by kernel_rfl))
  f159 := Tryz.func52.trans (congrArg some (by kernel_rfl))
  f165 := Tryz.func75.trans (congrArg some (by kernel_rfl))
  f166 := Tryz.func76.trans (congrArg some (by kernel_rfl))
  f167 := Tryz.func77.trans (congrArg some (by kernel_rfl))
  f168 := Tryz.func98.trans (congrArg some (by kernel_rfl))
  f169 := Tryz.func78.trans (congrArg some (by kernel_rfl))
  f197 := Tryz.func74.trans (congrArg some (by kernel_rfl))
  f204 := Tryz.func80.trans (congrArg some (by kernel_rfl))
  f230 := Tryz.func79.trans (congrArg some (by kernel_rfl))
  f240 := Tryz.func95.trans (congrArg some (by kernel_rfl))
  f241 := Tryz.func96.trans (congrArg some (by kernel_rfl))
  f242 := Tryz.func112.trans (congrArg some (by kernel_rfl))
  f260 := Tryz.func94.trans (congrArg some (by kernel_rfl))
  f262 := Tryz.func100.trans (congrArg some (by kernel_rfl))
  f270 := Tryz.func99.trans (congrArg some (by kernel_rfl))
  f274 := Tryz.func122.trans (congrArg some (by kernel_rfl))
  f275 := Tryz.func123.trans (congrArg some (by kernel_rfl))
  f276 := Tryz.func110.trans (congrArg some (by kernel_rfl))
  f277 := Tryz.func111.trans (congrArg some (by kernel_rfl))
  f278 := Tryz.func121.trans (congrArg some (by kernel_rfl))
  f313 := Tryz.func113.trans (congrArg some (by kernel_rfl))
  t0 := Tryz.underlying0
  a0 := Tryz.isAgg0
  z0 := Tryz.sizeOf0
  v0 := Tryz.zeroValue0
  t3 := Tryz.underlying3
  a3 := Tryz.isAgg3
  z3 := Tryz.sizeOf3
  v3 := Tryz.zeroValue3
  t4 := Tryz.underlying4
  a4 := Tryz.isAgg4
  z4 := Tryz.sizeOf4
  v4 := Tryz.zeroValue4
  t5 := Tryz.underlying5
  a5 := Tryz.isAgg5
  z5 := Tryz.sizeOf5
  v5 := Tryz.zeroValue5
  t9 := Tryz.underlying9
  a9 := Tryz.isAgg9
  z9 := Tryz.sizeOf9
  v9 := Tryz.zeroValue9
  t20 := Tryz.underlying20
  a20 := Tryz.isAgg20
  z20 := Tryz.sizeOf20
  v20 := Tryz.zeroValue20
  t21 := Tryz.underlying21
  a21 := Tryz.isAgg21
  z21 := Tryz.sizeOf21
  v21 := Tryz.zeroValue21
  t37 := Tryz.underlying23
  a37 := Tryz.isAgg23
  z37 := Tryz.sizeOf23
  v37 := Tryz.zeroValue23
  t46 := Tryz.underlying98
  a46 := Tryz.isAgg98
  z46 := Tryz.sizeOf98
  v46 := Tryz.zeroValue98
  t51 := Tryz.underlying126
  a51 := Tryz.isAgg126
  z51 := Tryz.sizeOf126
  v51 := Tryz.zeroValue126
  t70 := Tryz.underlying132
  a70 := Tryz.isAgg132
  z70 := Tryz.sizeOf132
  v70 := Tryz.zeroValue132
  t72 := Tryz.underlying134
  a72 := Tryz.isAgg134
  z72 := Tryz.sizeOf134
  v72 := Tryz.zeroValue134
  t75 := Tryz.underlying62
  a75 := Tryz.isAgg62
  z75 := Tryz.sizeOf62
  v75 := Tryz.zeroValue62
  t76 := Tryz.underlying136
  a76 := Tryz.isAgg136
  z76 := Tryz.sizeOf136
  v76 := Tryz.zeroValue136
  t105 := Tryz.underlying130
  a105 := Tryz.isAgg130
  z105 := Tryz.sizeOf130
  v105 := Tryz.zeroValue130
  t107 := Tryz.underlying141
  a107 := Tryz.isAgg141
  z107 := Tryz.sizeOf141
  v107 := Tryz.zeroValue141
  t119 := Tryz.underlying113
  a119 := Tryz.isAgg113
  z119 := Tryz.sizeOf113
  t127 := Tryz.underlying163
  a127 := Tryz.isAgg163
  z127 := Tryz.sizeOf163
  v127 := Tryz.zeroValue163
  t138 := Tryz.underlying178
  a138 := Tryz.isAgg178
  z138 := Tryz.sizeOf178
  v138 := Tryz.zeroValue178
  t139 := Tryz.underlying179
  a139 := Tryz.isAgg179
  z139 := Tryz.sizeOf179
  v139 := Tryz.zeroValue179
  t160 := Tryz.underlying194
  a160 := Tryz.isAgg194
  z160 := Tryz.sizeOf194
  v160 := Tryz.zeroValue194
  t162 := Tryz.underlying186
  a162 := Tryz.isAgg186
  z162 := Tryz.sizeOf186
  v162 := Tryz.zeroValue186
  t164 := Tryz.underlying180
  a164 := Tryz.isAgg180
  z164 := Tryz.sizeOf180
  v164 := Tryz.zeroValue180
  t203 := Tryz.underlying184
  a203 := Tryz.isAgg184
  z203 := Tryz.sizeOf184
  v203 := Tryz.zeroValue184
  t206 := Tryz.underlying226
  a206 := Tryz.isAgg226
  z206 := Tryz.sizeOf226
  v206 := Tryz.zeroValue226
  t208 := Tryz.underlying228
  a208 := Tryz.isAgg228
  z208 := Tryz.sizeOf228
  v208 := Tryz.zeroValue228
  g3 := by kernel_rfl
  g4 := by kernel_rfl
  g13 := by kernel_rfl }
theorem Tryz.Builder_Extra_159 : Builder.Extra Tryz.prog Tryz.lays159_ren := {
  sizeBuilder := by kernel_rfl
  liesBuilder := by kernel_rfl
  t5 := Tryz.underlying5
  a5 := Tryz.isAgg5
  z5 := Tryz.sizeOf5
  v5 := Tryz.zeroValue5
  infoByte := by kernel_rfl
  cellsByte := by kernel_rfl
  sizeByte := by kernel_rfl
  neB5 := by decide }
open Go.RowKit in
/-- strings.ToLower: "ToLower returns s with all Unicode letters mapped to their lower case.": ON ASCII TEXT OF AT MOST 2^47 BYTES. Below the heap's end the world is as it was: where a letter turns, the call makes a builder and its buffer. (LAID: no walk: one application.) -/
theorem Tryz.strings_ToLower_ascii (s : ByteArray) (w : World) (hs : s.size ≤ 140737488355328) (hascii : ∀ (j : Nat) (b : UInt8), s.data.toList[j]? = some b → b.toNat < 128) :
    Calls Tryz.prog 52 #[.string s] w fun e w' => e = .returned (.string ⟨(Lib.toLowerA s.data.toList).toArray⟩) ∧ Below w.heap.size w w' := Any.strings_ToLower_ascii Tryz.lays159 Tryz.Builder_Extra_159 s w hs hascii
def Tryz.lays99_ren : Go.Shelf.Ren := ⟨fun | 99 => 44 | 206 => 64 | n => n, fun | 9 => 9 | 4 => 4 | 3 => 3 | n => n, fun | n => n⟩
theorem Tryz.lays99 : Go.Proofs.Lays.n99 Tryz.prog Tryz.lays99_ren := {
  mixed := by kernel_rfl
  f99 := Tryz.func44.trans (congrArg some (by kernel_rfl))
  f206 := Tryz.func64.trans (congrArg some (by kernel_rfl))
  t3 := Tryz.underlying3
  a3 := Tryz.isAgg3
  z3 := Tryz.sizeOf3
  v3 := Tryz.zeroValue3
  t4 := Tryz.underlying4
  a4 := Tryz.isAgg4
  z4 := Tryz.sizeOf4
  v4 := Tryz.zeroValue4
  t9 := Tryz.underlying9
  a9 := Tryz.isAgg9
  z9 := Tryz.sizeOf9
  v9 := Tryz.zeroValue9 }
open Go.RowKit Go.Lib in
/-- strings.HasPrefix: "HasPrefix reports whether the string s begins with prefix.": IT RETURNS 'Lib.hasPrefix s prefix'; the world is as it was. (LAID: no walk: one application.) -/
theorem Tryz.strings_HasPrefix (s p : ByteArray) (w : World) :
    Calls Tryz.prog 44 #[.string s, .string p] w fun e w' => e = .returned (.bool (Lib.hasPrefix s.data.toList p.data.toList)) ∧ w' = w := Any.strings_HasPrefix Tryz.lays99 s p w
def Tryz.lays197_ren : Go.Shelf.Ren := ⟨fun | 197 => 74 | 260 => 94 | n => n, fun | 9 => 9 | 21 => 21 | 3 => 3 | 4 => 4 | 5 => 5 | 105 => 130 | 119 => 113 | 0 => 0 | 46 => 98 | 139 => 179 | 138 => 178 | n => n, fun | 3 => 2 | 4 => 3 | n => n⟩
theorem Tryz.lays197 : Go.Proofs.Lays.n197 Tryz.prog Tryz.lays197_ren := {
  mixed := by kernel_rfl
  f197 := Tryz.func74.trans (congrArg some (by kernel_rfl))
  f260 := Tryz.func94.trans (congrArg some (by kernel_rfl))
  t0 := Tryz.underlying0
  a0 := Tryz.isAgg0
  z0 := Tryz.sizeOf0
  v0 := Tryz.zeroValue0
  t3 := Tryz.underlying3
  a3 := Tryz.isAgg3
  z3 := Tryz.sizeOf3
  v3 := Tryz.zeroValue3
  t4 := Tryz.underlying4
  a4 := Tryz.isAgg4
  z4 := Tryz.sizeOf4
  v4 := Tryz.zeroValue4
  t5 := Tryz.underlying5
  a5 := Tryz.isAgg5
  z5 := Tryz.sizeOf5
  v5 := Tryz.zeroValue5
  t9 := Tryz.underlying9
  a9 := Tryz.isAgg9
  z9 := Tryz.sizeOf9
  v9 := Tryz.zeroValue9
  t21 := Tryz.underlying21
  a21 := Tryz.isAgg21
  z21 := Tryz.sizeOf21
  v21 := Tryz.zeroValue21
  t46 := Tryz.underlying98
  a46 := Tryz.isAgg98
  z46 := Tryz.sizeOf98
  v46 := Tryz.zeroValue98
  t105 := Tryz.underlying130
  a105 := Tryz.isAgg130
  z105 := Tryz.sizeOf130
  v105 := Tryz.zeroValue130
  t119 := Tryz.underlying113
  a119 := Tryz.isAgg113
  z119 := Tryz.sizeOf113
  t138 := Tryz.underlying178
  a138 := Tryz.isAgg178
  z138 := Tryz.sizeOf178
  v138 := Tryz.zeroValue178
  t139 := Tryz.underlying179
  a139 := Tryz.isAgg179
  z139 := Tryz.sizeOf179
  v139 := Tryz.zeroValue179
  g3 := by kernel_rfl
  g4 := by kernel_rfl }
open Go.RowKit Go.Lib in
/-- unicode/utf8.DecodeRuneInString: "DecodeRuneInString is like DecodeRune but its input is a string.": ("DecodeRune unpacks the first UTF-8 encoding in p and returns the rune and its width in bytes."): WHERE s BEGINS WITH AN ASCII BYTE x: (x, 1). (LAID: no walk: one application.) -/
theorem Tryz.utf8_DecodeRuneInString_ascii (s : ByteArray) (x : UInt8) (w : World) (h0 : s.data.toList[0]? = some x) (hx : x.toNat < 128) :
    Calls Tryz.prog 74 #[.string s] w fun e w' => e = .returned (.tuple #[.int .i32 x.toNat, .int .i64 1]) ∧ w' = w := Any.utf8_DecodeRuneInString_ascii Tryz.lays197 s x w h0 hx
def Tryz.laysPah43_ren : Go.Shelf.Ren := ⟨fun | 43 => 115 | 42 => 124 | 44 => 125 | n => n, fun | 9 => 9 | 30 => 23 | 35 => 62 | 3 => 3 | 38 => 136 | 4 => 4 | 0 => 0 | 5 => 5 | 47 => 229 | 46 => 98 | 45 => 139 | n => n, fun | 0 => 20 | n => n⟩
theorem Tryz.laysPah43 : Go.Proofs.Lays.ph43 Tryz.prog Tryz.laysPah43_ren := {
  mixed := by kernel_rfl
  f42 := Tryz.func124.trans (congrArg some (by kernel_rfl))
  f43 := Tryz.func115.trans (congrArg some (by kernel_rfl))
  f44 := Tryz.func125.trans (congrArg some (by kernel_rfl))
  t0 := Tryz.underlying0
  a0 := Tryz.isAgg0
  z0 := Tryz.sizeOf0
  v0 := Tryz.zeroValue0
  t3 := Tryz.underlying3
  a3 := Tryz.isAgg3
  z3 := Tryz.sizeOf3
  v3 := Tryz.zeroValue3
  t4 := Tryz.underlying4
  a4 := Tryz.isAgg4
  z4 := Tryz.sizeOf4
  v4 := Tryz.zeroValue4
  t5 := Tryz.underlying5
  a5 := Tryz.isAgg5
  z5 := Tryz.sizeOf5
  v5 := Tryz.zeroValue5
  t9 := Tryz.underlying9
  a9 := Tryz.isAgg9
  z9 := Tryz.sizeOf9
  v9 := Tryz.zeroValue9
  t30 := Tryz.underlying23
  a30 := Tryz.isAgg23
  z30 := Tryz.sizeOf23
  v30 := Tryz.zeroValue23
  t35 := Tryz.underlying62
  a35 := Tryz.isAgg62
  z35 := Tryz.sizeOf62
  v35 := Tryz.zeroValue62
  t38 := Tryz.underlying136
  a38 := Tryz.isAgg136
  z38 := Tryz.sizeOf136
  v38 := Tryz.zeroValue136
  t45 := Tryz.underlying139
  a45 := Tryz.isAgg139
  z45 := Tryz.sizeOf139
  v45 := Tryz.zeroValue139
  t46 := Tryz.underlying98
  a46 := Tryz.isAgg98
  z46 := Tryz.sizeOf98
  v46 := Tryz.zeroValue98
  t47 := Tryz.underlying229
  a47 := Tryz.isAgg229
  z47 := Tryz.sizeOf229
  v47 := Tryz.zeroValue229
  g0 := by kernel_rfl
  info5 := by kernel_rfl }
open Go.RowKit Go.Lib in
/-- encoding/hex.DecodeString, FOR EVERY s: "DecodeString returns the bytes represented by the hexadecimal string s. DecodeString expects that src contains only hexadecimal characters and that src has even length. If the input is malformed, DecodeString returns the bytes decoded before the error.": 'ev': what the variable encoding/hex.ErrLength holds. IT RETURNS (a slice at the head of A NEW BLOCK, the first that the call lays, of as many bytes as 'Hx.decode s' gives, capacity len(s) / 2; the error by how the decoding ends: nil ¦ InvalidByteError(c) ¦ ErrLength's content); THAT BLOCK IS A ROW WHICH HOLDS THOSE BYTES ('Hx.rowP'); what was there before the call is as it was ('Below'). IT ASKS len(s) ≤ 2^48. (LAID: no walk: one application.) -/
theorem Tryz.hex_DecodeString (s : ByteArray) (w : World) (ev : Value) (hE : w.cell? ⟨20, 0, none⟩ = some ev) (hbig : s.size ≤ 281474976710656) :
    Calls Tryz.prog 115 #[.string s] w fun e w' =>
      e = .returned (.tuple #[.slice (some ⟨w.heap.size, 0, none⟩) (Hx.decode s.data.toList).1.length (s.size / 2), Hx.errVal 229 ev (Hx.decode s.data.toList).2]) ∧
      w'.rowIs w.heap.size 5 (s.size / 2) (Hx.rowP (fun _ => .int .u8 0) 0 (Hx.decode s.data.toList).1) ∧ Below w.heap.size w w' := Any.hex_DecodeString Tryz.laysPah43 s w ev hE hbig
open Go.RowKit Go.Lib in
/-- encoding/hex.DecodeString: the result slice OWNS the bytes decoded. (LAID: no walk: one application.) -/
theorem Tryz.hex_DecodeString_owns (s : ByteArray) (w : World) (ev : Value) (hE : w.cell? ⟨20, 0, none⟩ = some ev) (hbig : s.size ≤ 281474976710656) :
    Calls Tryz.prog 115 #[.string s] w fun e w' => ∃ v, e = .returned (.tuple #[v, Hx.errVal 229 ev (Hx.decode s.data.toList).2]) ∧
      w'.ownsRow w.heap.size 5 1 v (Hx.decode s.data.toList).1.length ((Hx.decode s.data.toList).1.map fun b => Value.int .u8 (b.toNat : Int)) ∧ Below w.heap.size w w' := Any.hex_DecodeString_owns Tryz.laysPah43 s w ev hE hbig
end Go.Proofs
