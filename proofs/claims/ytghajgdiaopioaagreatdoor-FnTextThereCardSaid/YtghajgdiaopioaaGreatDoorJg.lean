/- Walks and plain laws joined (Sh). Conditions: stand in each law. -/
import Derived.Shelf.Strconv.Itoa0
import Derived.Shelf.Strconv.Itoa1
import Derived.Shelf.LaysM
import Derived.Shelf.Strconv.Itoa2
import Derived.Shelf.Strconv.Itoa3
import Derived.Shelf.Bytes.Len
import Derived.Shelf.Bytes.TryGrow
import Derived.Shelf.Bytes.GrowSliceCatch
import Derived.Shelf.Bytes.GrowSlice
import Derived.Shelf.Bytes.GrowRow0
import Derived.Shelf.Bytes.GrowRow
import Derived.Shelf.Bytes.GrowNil
import Derived.Shelf.Bytes.Grow
import Derived.Shelf.Bytes.WriteByte
import Derived.Shelf.Bytes.WriteString
import Derived.Shelf.Bytes.String
import Derived.Shelf.Strconv.Lower
import Derived.Shelf.Bytes.GrowRow0Kept
import Derived.Shelf.Bytes.GrowRowKept
import Derived.Shelf.Bytes.GrowNilKept
import Derived.Shelf.Bytes.GrowKept
import Derived.Shelf.Bytes.WriteByteKept
import Derived.Shelf.Bytes.WriteStringKept
import Derived.Shelf.Bytes.ResetKept
import Derived.Shelf.Bytes.WriteKept
import Derived.Shelf.Bytes.BufferK
import Derived.Shelf.Bytes.GrowRow0Own
import Derived.Shelf.Bytes.GrowRowOwn
import Derived.Shelf.Bytes.GrowNilOwn
import Derived.Shelf.Bytes.GrowOwn
import Derived.Shelf.Bytes.WriteAny
import Derived.Shelf.Strings.Fold
import Derived.Shelf.Unicode.Decode
import Derived.Shelf.Bits.Mul64
import Derived.Shelf.Unicode.DecodeSlow
import Derived.Shelf.Unicode.DecodeAny
import Derived.Shelf.Unicode.CaseLookup
import Derived.Shelf.Unicode.CaseConvert
import Derived.Shelf.Bytes.Small
import Derived.Test.YtghajgdiaopioaaGreatDoorProg
set_option linter.unusedVariables false
set_option linter.unusedSimpArgs false
section
/-
  DERIVED: THE SHELF's CONTRACTS AT THIS DUMP, IN PLAIN WORDS (tools/lay-plain.mjs out of 'YtghajgdiaopioaaGreatDoorSh.lean', which tools/lay-shelf.mjs wrote): THE SAME DECLARATIONS UNDER THE SAME NAMES: 'import', 'namespace', 'open', 'def', 'theorem' AND NOTHING ELSE: no command of the shelf's: FOR A HAND-IN. Each laying: the table of numbers ('.._ren') and one theorem, a field a fact of the dump's own or the kernel's comparison; each contract: ONE APPLICATION.
-/
namespace Go.Proofs
open Go.Shelf
def Tryz.lays129_ren : Go.Shelf.Ren := ⟨fun | 129 => 138 | n => n, fun | 53 => 106 | 3 => 3 | 4 => 4 | 46 => 134 | 5 => 5 | 9 => 9 | n => n, fun | n => n⟩
theorem Tryz.lays129 : Go.Proofs.Lays.n129 Tryz.prog Tryz.lays129_ren := {
  mixed := by kernel_rfl
  f129 := Tryz.func138.trans (congrArg some (by kernel_rfl))
  t3 := Tryz.underlying3
  a3 := Tryz.isAgg3
  z3 := Tryz.sizeOf3
  v3 := Tryz.zeroValue3
  t4 := Tryz.underlying4
  a4 := Tryz.isAgg4
  z4 := Tryz.sizeOf4
  v4 := Tryz.zeroValue4
  t5 := Tryz.underlying5
  a5 := Tryz.isAgg5
  z5 := Tryz.sizeOf5
  v5 := Tryz.zeroValue5
  t9 := Tryz.underlying9
  a9 := Tryz.isAgg9
  z9 := Tryz.sizeOf9
  v9 := Tryz.zeroValue9
  t46 := Tryz.underlying134
  a46 := Tryz.isAgg134
  z46 := Tryz.sizeOf134
  v46 := Tryz.zeroValue134
  t53 := Tryz.underlying106
  a53 := Tryz.isAgg106
  z53 := Tryz.sizeOf106
  v53 := Tryz.zeroValue106 }
/-- bits.Len64: "Len64 returns the minimum number of bits required to represent x; the result is 0 for x == 0.": IT RETURNS 'Lib.bitLen x'; the world is as it was. ('h0', 'h1': x is a uint64.) (LAID: no walk: one application.) -/
theorem Tryz.bits_Len64 (x : Int) (w : World) (h0 : 0 ≤ x) (h1 : x ≤ 18446744073709551615) :
    Calls Tryz.prog 138 #[.int .u64 x] w fun e w' => e = .returned (.int .i64 (Lib.bitLen x.toNat)) ∧ w' = w := Any.bits_Len64 Tryz.lays129 x w h0 h1
def Tryz.laysM284_ren : Go.Shelf.Ren := ⟨fun | 284 => 125 | 129 => 138 | 317 => 137 | 318 => 139 | n => n, fun | 53 => 106 | 3 => 3 | 212 => 191 | 0 => 0 | 4 => 4 | 46 => 134 | 5 => 5 | 9 => 9 | n => n, fun | 17 => 11 | n => n⟩
theorem Tryz.laysM284 : Go.Proofs.LaysM.n284 Tryz.prog Tryz.laysM284_ren := {
  mixed := by kernel_rfl
  f129 := Tryz.func138.trans (congrArg some (by kernel_rfl))
  f284 := Tryz.func125.trans (congrArg some (by kernel_rfl))
  f317 := Tryz.func137.trans (congrArg some (by kernel_rfl))
  f318 := Tryz.func139.trans (congrArg some (by kernel_rfl))
  t0 := Tryz.underlying0
  a0 := Tryz.isAgg0
  z0 := Tryz.sizeOf0
  v0 := Tryz.zeroValue0
  t3 := Tryz.underlying3
  a3 := Tryz.isAgg3
  z3 := Tryz.sizeOf3
  v3 := Tryz.zeroValue3
  t4 := Tryz.underlying4
  a4 := Tryz.isAgg4
  z4 := Tryz.sizeOf4
  v4 := Tryz.zeroValue4
  t5 := Tryz.underlying5
  a5 := Tryz.isAgg5
  z5 := Tryz.sizeOf5
  v5 := Tryz.zeroValue5
  t9 := Tryz.underlying9
  a9 := Tryz.isAgg9
  z9 := Tryz.sizeOf9
  v9 := Tryz.zeroValue9
  t46 := Tryz.underlying134
  a46 := Tryz.isAgg134
  z46 := Tryz.sizeOf134
  v46 := Tryz.zeroValue134
  t53 := Tryz.underlying106
  a53 := Tryz.isAgg106
  z53 := Tryz.sizeOf106
  v53 := Tryz.zeroValue106
  t212 := Tryz.underlying191
  a212 := Tryz.isAgg191
  z212 := Tryz.sizeOf191
  v212 := Tryz.zeroValue191
  g17 := by kernel_rfl
  i0 := by kernel_rfl
  i3 := by kernel_rfl
  i4 := by kernel_rfl
  i5 := by kernel_rfl
  i9 := by kernel_rfl
  i46 := by kernel_rfl
  i53 := by kernel_rfl
  i212 := by kernel_rfl
  m17 := by kernel_rfl }
open Go.Lib in
/-- internal/strconv.numDigits, at a d that is not 0: THE NUMBER OF d's DECIMAL DIGITS. The world is as it was. (LAID: no walk: one application.) -/
theorem Tryz.internal_strconv_numDigits (u : Nat) (h1 : 1 ≤ u) (h2 : u < 18446744073709551616) (w : World) (htab : Lib.TabIs Tryz.prog w "internal/strconv.uint64pow10" .u64 Lib.pow10Tab) :
    Calls Tryz.prog 125 #[.int .u64 u] w fun e w' => e = .returned (.int .i64 (Lib.nDigits u)) ∧ w' = w := Any.internal_strconv_numDigits Tryz.laysM284 u h1 h2 w htab
def Tryz.lays285_ren : Go.Shelf.Ren := ⟨fun | 285 => 126 | n => n, fun | 37 => 92 | 53 => 106 | 3 => 3 | 4 => 4 | 51 => 181 | 9 => 9 | 5 => 5 | 0 => 0 | n => n, fun | n => n⟩
theorem Tryz.lays285 : Go.Proofs.Lays.n285 Tryz.prog Tryz.lays285_ren := {
  mixed := by kernel_rfl
  f285 := Tryz.func126.trans (congrArg some (by kernel_rfl))
  t0 := Tryz.underlying0
  a0 := Tryz.isAgg0
  z0 := Tryz.sizeOf0
  v0 := Tryz.zeroValue0
  t3 := Tryz.underlying3
  a3 := Tryz.isAgg3
  z3 := Tryz.sizeOf3
  v3 := Tryz.zeroValue3
  t4 := Tryz.underlying4
  a4 := Tryz.isAgg4
  z4 := Tryz.sizeOf4
  v4 := Tryz.zeroValue4
  t5 := Tryz.underlying5
  a5 := Tryz.isAgg5
  z5 := Tryz.sizeOf5
  v5 := Tryz.zeroValue5
  t9 := Tryz.underlying9
  a9 := Tryz.isAgg9
  z9 := Tryz.sizeOf9
  v9 := Tryz.zeroValue9
  t37 := Tryz.underlying92
  a37 := Tryz.isAgg92
  z37 := Tryz.sizeOf92
  v37 := Tryz.zeroValue92
  t51 := Tryz.underlying181
  a51 := Tryz.isAgg181
  z51 := Tryz.sizeOf181
  v51 := Tryz.zeroValue181
  t53 := Tryz.underlying106
  a53 := Tryz.isAgg106
  z53 := Tryz.sizeOf106
  v53 := Tryz.zeroValue106 }
open Go.RowKit Go.Sort Go.Lib in
/-- internal/strconv.formatBase10: "formatBase10 formats the decimal representation of u into a. The caller is responsible for ensuring that a is big enough to hold u. If a is too big, leading zeros will be filled in as needed.": THE ROW HOLDS u's DIGITS ('FmtInv .. 0 ..': every place t holds 'dg u (len - 1 - t)'); all else is as it was but for the count of draws. (LAID: no walk: one application.) -/
theorem Tryz.internal_strconv_formatBase10 (blk off cap : Nat) (u : Nat) (d : Array UInt8) (w : World) (hH : Holds (fun (b : UInt8) => Value.int .u8 (b.toNat : Int)) w blk off d) (hu : u < 10 ^ d.size) (hu64 : u < 18446744073709551616) (hsz : d.size < 4611686018427387904) :
    Calls Tryz.prog 126 #[.slice (some ⟨blk, off, none⟩) d.size cap, .int .u64 u] w fun e w' =>
      e = .returned (.tuple #[]) ∧ ∃ (n v' : Nat) (dk : Array UInt8), w' = (putRow (fun (b : UInt8) => Value.int .u8 (b.toNat : Int)) w blk off dk).drewN n ∧ FmtInv d.size u 0 v' dk := Any.internal_strconv_formatBase10 Tryz.lays285 blk off cap u d w hH hu hu64 hsz
def Tryz.laysM179_ren : Go.Shelf.Ren := ⟨fun | 179 => 98 | 251 => 108 | 252 => 109 | 181 => 120 | 184 => 121 | 290 => 122 | 324 => 134 | n => n, fun | 130 => 101 | 5 => 5 | 75 => 54 | 0 => 0 | 93 => 123 | 91 => 121 | 3 => 3 | 131 => 145 | 4 => 4 | 37 => 92 | 20 => 20 | 80 => 104 | 9 => 9 | n => n, fun | 14 => 8 | n => n⟩
theorem Tryz.laysM179 : Go.Proofs.LaysM.n179 Tryz.prog Tryz.laysM179_ren := {
  mixed := by kernel_rfl
  f179 := Tryz.func98.trans (congrArg some (by kernel_rfl))
  f181 := Tryz.func120.trans (congrArg some (by kernel_rfl))
  f184 := Tryz.func121.trans (congrArg some (by kernel_rfl))
  f251 := Tryz.func108.trans (congrArg some (by kernel_rfl))
  f252 := Tryz.func109.trans (congrArg some (by kernel_rfl))
  f290 := Tryz.func122.trans (congrArg some (by kernel_rfl))
  f324 := Tryz.func134.trans (congrArg some (by kernel_rfl))
  t0 := Tryz.underlying0
  a0 := Tryz.isAgg0
  z0 := Tryz.sizeOf0
  v0 := Tryz.zeroValue0
  t3 := Tryz.underlying3
  a3 := Tryz.isAgg3
  z3 := Tryz.sizeOf3
  v3 := Tryz.zeroValue3
  t4 := Tryz.underlying4
  a4 := Tryz.isAgg4
  z4 := Tryz.sizeOf4
  v4 := Tryz.zeroValue4
  t5 := Tryz.underlying5
  a5 := Tryz.isAgg5
  z5 := Tryz.sizeOf5
  v5 := Tryz.zeroValue5
  t20 := Tryz.underlying20
  a20 := Tryz.isAgg20
  z20 := Tryz.sizeOf20
  v20 := Tryz.zeroValue20
  t37 := Tryz.underlying92
  a37 := Tryz.isAgg92
  z37 := Tryz.sizeOf92
  v37 := Tryz.zeroValue92
  t75 := Tryz.underlying54
  a75 := Tryz.isAgg54
  z75 := Tryz.sizeOf54
  v75 := Tryz.zeroValue54
  t91 := Tryz.underlying121
  a91 := Tryz.isAgg121
  z91 := Tryz.sizeOf121
  v91 := Tryz.zeroValue121
  t93 := Tryz.underlying123
  a93 := Tryz.isAgg123
  z93 := Tryz.sizeOf123
  v93 := Tryz.zeroValue123
  t130 := Tryz.underlying101
  a130 := Tryz.isAgg101
  z130 := Tryz.sizeOf101
  v130 := Tryz.zeroValue101
  t131 := Tryz.underlying145
  a131 := Tryz.isAgg145
  z131 := Tryz.sizeOf145
  v131 := Tryz.zeroValue145
  g14 := by kernel_rfl
  t9 := Tryz.underlying9
  a9 := Tryz.isAgg9
  z9 := Tryz.sizeOf9
  v9 := Tryz.zeroValue9
  t80 := Tryz.underlying104
  a80 := Tryz.isAgg104
  z80 := Tryz.sizeOf104
  v80 := Tryz.zeroValue104
  i0 := by kernel_rfl
  i3 := by kernel_rfl
  i4 := by kernel_rfl
  i5 := by kernel_rfl
  i9 := by kernel_rfl
  i20 := by kernel_rfl
  i37 := by kernel_rfl
  i75 := by kernel_rfl
  i80 := by kernel_rfl
  i91 := by kernel_rfl
  i93 := by kernel_rfl
  i130 := by kernel_rfl
  i131 := by kernel_rfl
  m14 := by kernel_rfl }
def Tryz.laysM178_ren : Go.Shelf.Ren := ⟨fun | 178 => 95 | 251 => 108 | 252 => 109 | 181 => 120 | 184 => 121 | 290 => 122 | 324 => 134 | n => n, fun | 130 => 101 | 9 => 9 | 3 => 3 | 75 => 54 | 0 => 0 | 93 => 123 | 91 => 121 | 131 => 145 | 4 => 4 | 37 => 92 | 20 => 20 | 80 => 104 | 5 => 5 | n => n, fun | 14 => 8 | n => n⟩
theorem Tryz.laysM178 : Go.Proofs.LaysM.n178 Tryz.prog Tryz.laysM178_ren := {
  mixed := by kernel_rfl
  f178 := Tryz.func95.trans (congrArg some (by kernel_rfl))
  f181 := Tryz.func120.trans (congrArg some (by kernel_rfl))
  f184 := Tryz.func121.trans (congrArg some (by kernel_rfl))
  f251 := Tryz.func108.trans (congrArg some (by kernel_rfl))
  f252 := Tryz.func109.trans (congrArg some (by kernel_rfl))
  f290 := Tryz.func122.trans (congrArg some (by kernel_rfl))
  f324 := Tryz.func134.trans (congrArg some (by kernel_rfl))
  t0 := Tryz.underlying0
  a0 := Tryz.isAgg0
  z0 := Tryz.sizeOf0
  v0 := Tryz.zeroValue0
  t3 := Tryz.underlying3
  a3 := Tryz.isAgg3
  z3 := Tryz.sizeOf3
  v3 := Tryz.zeroValue3
  t4 := Tryz.underlying4
  a4 := Tryz.isAgg4
  z4 := Tryz.sizeOf4
  v4 := Tryz.zeroValue4
  t9 := Tryz.underlying9
  a9 := Tryz.isAgg9
  z9 := Tryz.sizeOf9
  v9 := Tryz.zeroValue9
  t20 := Tryz.underlying20
  a20 := Tryz.isAgg20
  z20 := Tryz.sizeOf20
  v20 := Tryz.zeroValue20
  t37 := Tryz.underlying92
  a37 := Tryz.isAgg92
  z37 := Tryz.sizeOf92
  v37 := Tryz.zeroValue92
  t75 := Tryz.underlying54
  a75 := Tryz.isAgg54
  z75 := Tryz.sizeOf54
  v75 := Tryz.zeroValue54
  t91 := Tryz.underlying121
  a91 := Tryz.isAgg121
  z91 := Tryz.sizeOf121
  v91 := Tryz.zeroValue121
  t93 := Tryz.underlying123
  a93 := Tryz.isAgg123
  z93 := Tryz.sizeOf123
  v93 := Tryz.zeroValue123
  t130 := Tryz.underlying101
  a130 := Tryz.isAgg101
  z130 := Tryz.sizeOf101
  v130 := Tryz.zeroValue101
  t131 := Tryz.underlying145
  a131 := Tryz.isAgg145
  z131 := Tryz.sizeOf145
  v131 := Tryz.zeroValue145
  g14 := by kernel_rfl
  t5 := Tryz.underlying5
  a5 := Tryz.isAgg5
  z5 := Tryz.sizeOf5
  v5 := Tryz.zeroValue5
  t80 := Tryz.underlying104
  a80 := Tryz.isAgg104
  z80 := Tryz.sizeOf104
  v80 := Tryz.zeroValue104
  i0 := by kernel_rfl
  i3 := by kernel_rfl
  i4 := by kernel_rfl
  i5 := by kernel_rfl
  i9 := by kernel_rfl
  i20 := by kernel_rfl
  i37 := by kernel_rfl
  i75 := by kernel_rfl
  i80 := by kernel_rfl
  i91 := by kernel_rfl
  i93 := by kernel_rfl
  i130 := by kernel_rfl
  i131 := by kernel_rfl
  m14 := by kernel_rfl }
def Tryz.laysM182_ren : Go.Shelf.Ren := ⟨fun | 182 => 67 | n => n, fun | 130 => 101 | 9 => 9 | 4 => 4 | 0 => 0 | 93 => 123 | 37 => 92 | 3 => 3 | 91 => 121 | 5 => 5 | n => n, fun | n => n⟩
theorem Tryz.laysM182 : Go.Proofs.LaysM.n182 Tryz.prog Tryz.laysM182_ren := {
  mixed := by kernel_rfl
  f182 := Tryz.func67.trans (congrArg some (by kernel_rfl))
  t0 := Tryz.underlying0
  a0 := Tryz.isAgg0
  z0 := Tryz.sizeOf0
  v0 := Tryz.zeroValue0
  t3 := Tryz.underlying3
  a3 := Tryz.isAgg3
  z3 := Tryz.sizeOf3
  v3 := Tryz.zeroValue3
  t4 := Tryz.underlying4
  a4 := Tryz.isAgg4
  z4 := Tryz.sizeOf4
  v4 := Tryz.zeroValue4
  t9 := Tryz.underlying9
  a9 := Tryz.isAgg9
  z9 := Tryz.sizeOf9
  v9 := Tryz.zeroValue9
  t37 := Tryz.underlying92
  a37 := Tryz.isAgg92
  z37 := Tryz.sizeOf92
  v37 := Tryz.zeroValue92
  t93 := Tryz.underlying123
  a93 := Tryz.isAgg123
  z93 := Tryz.sizeOf123
  v93 := Tryz.zeroValue123
  t130 := Tryz.underlying101
  a130 := Tryz.isAgg101
  z130 := Tryz.sizeOf101
  v130 := Tryz.zeroValue101
  t5 := Tryz.underlying5
  a5 := Tryz.isAgg5
  z5 := Tryz.sizeOf5
  v5 := Tryz.zeroValue5
  t91 := Tryz.underlying121
  a91 := Tryz.isAgg121
  z91 := Tryz.sizeOf121
  v91 := Tryz.zeroValue121
  i0 := by kernel_rfl
  i3 := by kernel_rfl
  i4 := by kernel_rfl
  i5 := by kernel_rfl
  i9 := by kernel_rfl
  i37 := by kernel_rfl
  i91 := by kernel_rfl
  i93 := by kernel_rfl
  i130 := by kernel_rfl }
open Go.RowKit in
/-- (*bytes.Buffer).String: "String returns the contents of the unread portion of the buffer as a string.": THE BYTES THAT WERE WRITTEN. The world is as it was but for the count of draws (the statement has two reads: its order is drawn). (LAID: no walk: one application.) -/
theorem Tryz.Buffer_String (B b : Nat) (l : List UInt8) (w : World) (h : Lib.IsBuffer 123 5 B b (Lib.byteCells l) w) :
    Calls Tryz.prog 67 #[.pointer (some ⟨b, 0, none⟩)] w fun e w' => e = .returned (.string ⟨l.toArray⟩) ∧ ∃ n, w' = w.drewN n := Any.Buffer_String Tryz.laysM182 B b l w h
def Tryz.lays321_ren : Go.Shelf.Ren := ⟨fun | 321 => 176 | n => n, fun | 5 => 5 | n => n, fun | n => n⟩
theorem Tryz.lays321 : Go.Proofs.Lays.n321 Tryz.prog Tryz.lays321_ren := {
  mixed := by kernel_rfl
  f321 := Tryz.func176.trans (congrArg some (by kernel_rfl))
  t5 := Tryz.underlying5
  a5 := Tryz.isAgg5
  z5 := Tryz.sizeOf5
  v5 := Tryz.zeroValue5 }
open Go.RowKit in
/-- internal/strconv.lower: 'c | ('x' - 'X')': the bit 32 set. The world is as it was. (LAID: no walk: one application.) -/
theorem Tryz.internal_strconv_lower (c : Int) (w : World) :
    Calls Tryz.prog 176 #[.int .u8 c] w fun e w' => e = .returned (.int .u8 (bits .or .u8 c 32)) ∧ w' = w := Any.internal_strconv_lower Tryz.lays321 c w
def Tryz.laysM180_ren : Go.Shelf.Ren := ⟨fun | 180 => 97 | 251 => 108 | 252 => 109 | 181 => 120 | 184 => 121 | 290 => 122 | 324 => 134 | n => n, fun | 130 => 101 | 37 => 92 | 3 => 3 | 75 => 54 | 0 => 0 | 93 => 123 | 91 => 121 | 131 => 145 | 4 => 4 | 20 => 20 | 5 => 5 | 80 => 104 | 9 => 9 | n => n, fun | 14 => 8 | n => n⟩
theorem Tryz.laysM180 : Go.Proofs.LaysM.n180 Tryz.prog Tryz.laysM180_ren := {
  mixed := by kernel_rfl
  f180 := Tryz.func97.trans (congrArg some (by kernel_rfl))
  f181 := Tryz.func120.trans (congrArg some (by kernel_rfl))
  f184 := Tryz.func121.trans (congrArg some (by kernel_rfl))
  f251 := Tryz.func108.trans (congrArg some (by kernel_rfl))
  f252 := Tryz.func109.trans (congrArg some (by kernel_rfl))
  f290 := Tryz.func122.trans (congrArg some (by kernel_rfl))
  f324 := Tryz.func134.trans (congrArg some (by kernel_rfl))
  t0 := Tryz.underlying0
  a0 := Tryz.isAgg0
  z0 := Tryz.sizeOf0
  v0 := Tryz.zeroValue0
  t3 := Tryz.underlying3
  a3 := Tryz.isAgg3
  z3 := Tryz.sizeOf3
  v3 := Tryz.zeroValue3
  t4 := Tryz.underlying4
  a4 := Tryz.isAgg4
  z4 := Tryz.sizeOf4
  v4 := Tryz.zeroValue4
  t20 := Tryz.underlying20
  a20 := Tryz.isAgg20
  z20 := Tryz.sizeOf20
  v20 := Tryz.zeroValue20
  t37 := Tryz.underlying92
  a37 := Tryz.isAgg92
  z37 := Tryz.sizeOf92
  v37 := Tryz.zeroValue92
  t75 := Tryz.underlying54
  a75 := Tryz.isAgg54
  z75 := Tryz.sizeOf54
  v75 := Tryz.zeroValue54
  t91 := Tryz.underlying121
  a91 := Tryz.isAgg121
  z91 := Tryz.sizeOf121
  v91 := Tryz.zeroValue121
  t93 := Tryz.underlying123
  a93 := Tryz.isAgg123
  z93 := Tryz.sizeOf123
  v93 := Tryz.zeroValue123
  t130 := Tryz.underlying101
  a130 := Tryz.isAgg101
  z130 := Tryz.sizeOf101
  v130 := Tryz.zeroValue101
  t131 := Tryz.underlying145
  a131 := Tryz.isAgg145
  z131 := Tryz.sizeOf145
  v131 := Tryz.zeroValue145
  g14 := by kernel_rfl
  t5 := Tryz.underlying5
  a5 := Tryz.isAgg5
  z5 := Tryz.sizeOf5
  v5 := Tryz.zeroValue5
  t9 := Tryz.underlying9
  a9 := Tryz.isAgg9
  z9 := Tryz.sizeOf9
  v9 := Tryz.zeroValue9
  t80 := Tryz.underlying104
  a80 := Tryz.isAgg104
  z80 := Tryz.sizeOf104
  v80 := Tryz.zeroValue104
  i0 := by kernel_rfl
  i3 := by kernel_rfl
  i4 := by kernel_rfl
  i5 := by kernel_rfl
  i9 := by kernel_rfl
  i20 := by kernel_rfl
  i37 := by kernel_rfl
  i75 := by kernel_rfl
  i80 := by kernel_rfl
  i91 := by kernel_rfl
  i93 := by kernel_rfl
  i130 := by kernel_rfl
  i131 := by kernel_rfl
  m14 := by kernel_rfl }
open Go.RowKit in
theorem Tryz.Buffer_WriteByte_k (B b : Nat) (bs : List Value) (c : Int) (w : World) (h : Lib.IsBuffer 123 5 B b bs w) (hBw : B ≤ w.heap.size) (h1 : ∀ v ∈ bs, v.oneCell' = true) (hlim : bs.length + 1 ≤ 140737488355328) :
    Calls Tryz.prog 98 #[.pointer (some ⟨b, 0, none⟩), .int .u8 c] w fun e w' => e = .returned .nilIface ∧ Lib.IsBuffer 123 5 B b (bs ++ [.int .u8 c]) w' ∧ Below B w w' ∧ Lib.OthersKept 5 (some b) w w' := Any.Buffer_WriteByte_k Tryz.laysM179 B b bs c w h hBw h1 hlim
open Go.RowKit in
theorem Tryz.Buffer_WriteString_k (B b : Nat) (bs : List Value) (s : ByteArray) (w : World) (h : Lib.IsBuffer 123 5 B b bs w) (hBw : B ≤ w.heap.size) (h1 : ∀ v ∈ bs, v.oneCell' = true) (hlim : bs.length + s.size ≤ 140737488355328) :
    Calls Tryz.prog 95 #[.pointer (some ⟨b, 0, none⟩), .string s] w fun e w' => e = .returned (.tuple #[.int .i64 s.size, .nilIface]) ∧ Lib.IsBuffer 123 5 B b (bs ++ Lib.byteCells s.data.toList) w' ∧ Below B w w' ∧ Lib.OthersKept 5 (some b) w w' := Any.Buffer_WriteString_k Tryz.laysM178 B b bs s w h hBw h1 hlim
open Go.RowKit in
/-- (*bytes.Buffer).Write: "Write appends the contents of p to the buffer, growing the buffer as needed. The return value n is the length of p; err is always nil." (LAID: no walk: one application.) -/
theorem Tryz.Buffer_Write_any (B b : Nat) (bs cs : List Value) (a : Addr) (n c : Nat) (w : World) (h : Lib.IsBuffer 123 5 B b bs w) (hBw : B ≤ w.heap.size) (h1 : ∀ v ∈ bs, v.oneCell' = true) (hn : cs.length = n) (hab : a.block ≠ b) (hsrc : ∀ j v, cs[j]? = some v → w.cell? (a.add j) = some v) (h1c : ∀ v ∈ cs, v.oneCell' = true) (hlim : bs.length + n ≤ 140737488355328) :
    Calls Tryz.prog 97 #[.pointer (some ⟨b, 0, none⟩), .slice (some a) n c] w fun e w' => e = .returned (.tuple #[.int .i64 n, .nilIface]) ∧ Lib.IsBuffer 123 5 B b (bs ++ cs) w' ∧ Below B w w' ∧ Lib.OthersKept 5 (some b) w w' := Any.Buffer_Write_any Tryz.laysM180 B b bs cs a n c w h hBw h1 hn hab hsrc h1c hlim
def Tryz.lays164_ren : Go.Shelf.Ren := ⟨fun | 164 => 77 | 197 => 105 | 239 => 106 | 260 => 116 | 274 => 117 | 275 => 118 | n => n, fun | 9 => 9 | 4 => 4 | 3 => 3 | 5 => 5 | 0 => 0 | 21 => 21 | 105 => 139 | 156 => 154 | 49 => 153 | 157 => 155 | 46 => 134 | 159 => 157 | 162 => 160 | 160 => 158 | 119 => 177 | 139 => 180 | 138 => 179 | 208 => 185 | 51 => 181 | 206 => 183 | n => n, fun | 11 => 5 | 12 => 6 | 13 => 7 | 3 => 9 | 4 => 10 | n => n⟩
theorem Tryz.lays164 : Go.Proofs.Lays.n164 Tryz.prog Tryz.lays164_ren := {
  mixed := by kernel_rfl
  f164 := Tryz.func77.trans (congrArg some (by kernel_rfl))
  f197 := Tryz.func105.trans (congrArg some (by kernel_rfl))
  f239 := Tryz.func106.trans (congrArg some (by kernel_rfl))
  f260 := Tryz.func116.trans (congrArg some (by kernel_rfl))
  f274 := Tryz.func117.trans (congrArg some (by kernel_rfl))
  f275 := Tryz.func118.trans (congrArg some (by kernel_rfl))
  t0 := Tryz.underlying0
  a0 := Tryz.isAgg0
  z0 := Tryz.sizeOf0
  v0 := Tryz.zeroValue0
  t3 := Tryz.underlying3
  a3 := Tryz.isAgg3
  z3 := Tryz.sizeOf3
  v3 := Tryz.zeroValue3
  t4 := Tryz.underlying4
  a4 := Tryz.isAgg4
  z4 := Tryz.sizeOf4
  v4 := Tryz.zeroValue4
  t5 := Tryz.underlying5
  a5 := Tryz.isAgg5
  z5 := Tryz.sizeOf5
  v5 := Tryz.zeroValue5
  t9 := Tryz.underlying9
  a9 := Tryz.isAgg9
  z9 := Tryz.sizeOf9
  v9 := Tryz.zeroValue9
  t21 := Tryz.underlying21
  a21 := Tryz.isAgg21
  z21 := Tryz.sizeOf21
  v21 := Tryz.zeroValue21
  t46 := Tryz.underlying134
  a46 := Tryz.isAgg134
  z46 := Tryz.sizeOf134
  v46 := Tryz.zeroValue134
  t49 := Tryz.underlying153
  a49 := Tryz.isAgg153
  z49 := Tryz.sizeOf153
  v49 := Tryz.zeroValue153
  t51 := Tryz.underlying181
  a51 := Tryz.isAgg181
  z51 := Tryz.sizeOf181
  v51 := Tryz.zeroValue181
  t105 := Tryz.underlying139
  a105 := Tryz.isAgg139
  z105 := Tryz.sizeOf139
  v105 := Tryz.zeroValue139
  t119 := Tryz.underlying177
  a119 := Tryz.isAgg177
  z119 := Tryz.sizeOf177
  t138 := Tryz.underlying179
  a138 := Tryz.isAgg179
  z138 := Tryz.sizeOf179
  v138 := Tryz.zeroValue179
  t139 := Tryz.underlying180
  a139 := Tryz.isAgg180
  z139 := Tryz.sizeOf180
  v139 := Tryz.zeroValue180
  t156 := Tryz.underlying154
  a156 := Tryz.isAgg154
  z156 := Tryz.sizeOf154
  t157 := Tryz.underlying155
  a157 := Tryz.isAgg155
  z157 := Tryz.sizeOf155
  v157 := Tryz.zeroValue155
  t159 := Tryz.underlying157
  a159 := Tryz.isAgg157
  z159 := Tryz.sizeOf157
  v159 := Tryz.zeroValue157
  t160 := Tryz.underlying158
  a160 := Tryz.isAgg158
  z160 := Tryz.sizeOf158
  v160 := Tryz.zeroValue158
  t162 := Tryz.underlying160
  a162 := Tryz.isAgg160
  z162 := Tryz.sizeOf160
  v162 := Tryz.zeroValue160
  t206 := Tryz.underlying183
  a206 := Tryz.isAgg183
  z206 := Tryz.sizeOf183
  v206 := Tryz.zeroValue183
  t208 := Tryz.underlying185
  a208 := Tryz.isAgg185
  z208 := Tryz.sizeOf185
  v208 := Tryz.zeroValue185
  g3 := by kernel_rfl
  g4 := by kernel_rfl
  g11 := by kernel_rfl
  g12 := by kernel_rfl
  g13 := by kernel_rfl }
open Go.RowKit Go.Lib in
theorem Tryz.strings_EqualFold (s t : ByteArray) (w : World) (hs : s.size < 4294967281) (has : ∀ (j : Nat) b, s.data.toList[j]? = some b → b.toNat < 128) (hat : ∀ (j : Nat) b, t.data.toList[j]? = some b → b.toNat < 128) :
    Calls Tryz.prog 77 #[.string s, .string t] w fun e w' => e = .returned (.bool (Lib.equalFold s.data.toList t.data.toList)) ∧ w' = w := Any.strings_EqualFold Tryz.lays164 s t w hs has hat
def Tryz.lays264_ren : Go.Shelf.Ren := ⟨fun | 264 => 200 | n => n, fun | 53 => 106 | 46 => 134 | n => n, fun | n => n⟩
theorem Tryz.lays264 : Go.Proofs.Lays.n264 Tryz.prog Tryz.lays264_ren := {
  mixed := by kernel_rfl
  f264 := Tryz.func200.trans (congrArg some (by kernel_rfl))
  t46 := Tryz.underlying134
  a46 := Tryz.isAgg134
  z46 := Tryz.sizeOf134
  v46 := Tryz.zeroValue134
  t53 := Tryz.underlying106
  a53 := Tryz.isAgg106
  z53 := Tryz.sizeOf106
  v53 := Tryz.zeroValue106 }
open Go.RowKit Go.Lib in
theorem Tryz.bits_Mul64 (x y : Nat) (hx : x < 18446744073709551616) (hy : y < 18446744073709551616) (w : World) :
    Calls Tryz.prog 200 #[.int .u64 x, .int .u64 y] w fun e w' => e = .returned (.tuple #[.int .u64 ((x * y / 18446744073709551616 : Nat) : Int), .int .u64 ((x * y % 18446744073709551616 : Nat) : Int)]) ∧ w' = w := Any.bits_Mul64 Tryz.lays264 x y hx hy w
def Tryz.laysnb116_ren : Go.Shelf.Ren := ⟨fun | 116 => 52 | 115 => 74 | n => n, fun | 37 => 92 | 4 => 4 | 3 => 3 | 9 => 9 | 5 => 5 | n => n, fun | n => n⟩
theorem Tryz.laysnb116 : Go.Proofs.Lays.nb116 Tryz.prog Tryz.laysnb116_ren := {
  mixed := by kernel_rfl
  f115 := Tryz.func74.trans (congrArg some (by kernel_rfl))
  f116 := Tryz.func52.trans (congrArg some (by kernel_rfl))
  t3 := Tryz.underlying3
  a3 := Tryz.isAgg3
  z3 := Tryz.sizeOf3
  v3 := Tryz.zeroValue3
  t4 := Tryz.underlying4
  a4 := Tryz.isAgg4
  z4 := Tryz.sizeOf4
  v4 := Tryz.zeroValue4
  t9 := Tryz.underlying9
  a9 := Tryz.isAgg9
  z9 := Tryz.sizeOf9
  v9 := Tryz.zeroValue9
  t37 := Tryz.underlying92
  a37 := Tryz.isAgg92
  z37 := Tryz.sizeOf92
  v37 := Tryz.zeroValue92
  t5 := Tryz.underlying5
  a5 := Tryz.isAgg5
  z5 := Tryz.sizeOf5
  v5 := Tryz.zeroValue5 }
/-- bytes.HasPrefix: "HasPrefix reports whether the byte slice s begins with prefix.": IT RETURNS 'Lib.hasPrefix (the bytes of s) (the bytes of prefix)'; the world is as it was. ITS CALLEE bytes.Equal IS MET BY ITS OWN CONTRACT OFF THE SHELF (lay that first). 'xs', 'ys': the numbers that the two slices' cells hold. (LAID: no walk: one application.) -/
theorem Tryz.bytes_HasPrefix (b1 o1 n c b2 o2 m d : Nat) (xs ys : List Int) (w : World) (hx : xs.length = n) (hy : ys.length = m) (hnc : n ≤ c) (hc1 : ∀ i, i < n → w.cell? ⟨b1, o1 + i, none⟩ = some (.int .u8 (xs.getD i 0))) (hc2 : ∀ i, i < m → w.cell? ⟨b2, o2 + i, none⟩ = some (.int .u8 (ys.getD i 0))) :
    Calls Tryz.prog 52 #[.slice (some ⟨b1, o1, none⟩) n c, .slice (some ⟨b2, o2, none⟩) m d] w fun e w' => e = .returned (.bool (Lib.hasPrefix (Lib.bytesOf xs) (Lib.bytesOf ys))) ∧ w' = w := Any.bytes_HasPrefix Tryz.laysnb116 b1 o1 n c b2 o2 m d xs ys w hx hy hnc hc1 hc2
end Go.Proofs
end
