/-
  DERIVED: THE SHELF's CONTRACTS AT THIS DUMP, IN PLAIN WORDS (tools/lay-plain.mjs out of 'TryShelf.lean', which tools/lay-shelf.mjs wrote): THE SAME DECLARATIONS UNDER THE SAME NAMES: 'import', 'namespace', 'open', 'def', 'theorem' AND NOTHING ELSE: no command of the shelf's: FOR A HAND-IN. Each laying: the table of numbers ('.._ren') and one theorem, a field a fact of the dump's own or the kernel's comparison; each contract: ONE APPLICATION.
-/
import Derived.Shelf.Small.Wraps
import Derived.Shelf.Strings.LastIndex
import Derived.Shelf.Strings.Prefix
import Derived.Ground.PaProg
import Derived.Shelf.Path.Small
import Derived.Shelf.Path.LazyBuf
import Derived.Shelf.Path.CleanRel
import Derived.Shelf.Path.CleanAbs
import Derived.Shelf.Path.Clean
import Derived.Shelf.Path.CleanRules
import Derived.Test.Qxb6002466aProg
namespace Go.Proofs
open Go.Shelf
def Try.lays210_ren : Go.Shelf.Ren := ⟨fun | 210 => 49 | 206 => 45 | n => n, fun | 9 => 9 | 4 => 4 | 3 => 3 | n => n, fun | n => n⟩
theorem Try.lays210 : Go.Proofs.Lays.n210 Try.prog Try.lays210_ren := {
  mixed := by kernel_rfl
  f206 := Try.func45.trans (congrArg some (by kernel_rfl))
  f210 := Try.func49.trans (congrArg some (by kernel_rfl))
  t3 := Try.underlying3
  a3 := Try.isAgg3
  z3 := Try.sizeOf3
  v3 := Try.zeroValue3
  t4 := Try.underlying4
  a4 := Try.isAgg4
  z4 := Try.sizeOf4
  v4 := Try.zeroValue4
  t9 := Try.underlying9
  a9 := Try.isAgg9
  z9 := Try.sizeOf9
  v9 := Try.zeroValue9 }
open Go.RowKit in
/-- internal/stringslite.CutPrefix (what strings.CutPrefix calls). (LAID: no walk: one application.) -/
theorem Try.stringslite_CutPrefix (s p : ByteArray) (w : World) :
    Calls Try.prog 49 #[.string s, .string p] w fun e w' => e = .returned (.tuple #[.string ⟨(Lib.trimPrefix s.data.toList p.data.toList).toArray⟩, .bool (Lib.hasPrefix s.data.toList p.data.toList)]) ∧ w' = w := Any.stringslite_CutPrefix Try.lays210 s p w
def Try.lays103_ren : Go.Shelf.Ren := ⟨fun | 103 => 42 | 210 => 49 | 206 => 45 | n => n, fun | 9 => 9 | 4 => 4 | 24 => 24 | 3 => 3 | n => n, fun | n => n⟩
theorem Try.lays103 : Go.Proofs.Lays.n103 Try.prog Try.lays103_ren := {
  mixed := by kernel_rfl
  f103 := Try.func42.trans (congrArg some (by kernel_rfl))
  f206 := Try.func45.trans (congrArg some (by kernel_rfl))
  f210 := Try.func49.trans (congrArg some (by kernel_rfl))
  t3 := Try.underlying3
  a3 := Try.isAgg3
  z3 := Try.sizeOf3
  v3 := Try.zeroValue3
  t4 := Try.underlying4
  a4 := Try.isAgg4
  z4 := Try.sizeOf4
  v4 := Try.zeroValue4
  t9 := Try.underlying9
  a9 := Try.isAgg9
  z9 := Try.sizeOf9
  v9 := Try.zeroValue9
  t24 := Try.underlying24
  a24 := Try.isAgg24
  z24 := Try.sizeOf24
  v24 := Try.zeroValue24 }
open Go.RowKit in
/-- strings.CutPrefix: "CutPrefix returns s without the provided leading prefix string and reports whether it found the prefix. If s doesn't start with prefix, CutPrefix returns s, false. If prefix is the empty string, CutPrefix returns s, true.": IT RETURNS '(Lib.trimPrefix s p, Lib.hasPrefix s p)'; the world is as it was. (LAID: no walk: one application.) -/
theorem Try.strings_CutPrefix (s p : ByteArray) (w : World) :
    Calls Try.prog 42 #[.string s, .string p] w fun e w' => e = .returned (.tuple #[.string ⟨(Lib.trimPrefix s.data.toList p.data.toList).toArray⟩, .bool (Lib.hasPrefix s.data.toList p.data.toList)]) ∧ w' = w := Any.strings_CutPrefix Try.lays103 s p w
def Try.lays222_ren : Go.Shelf.Ren := ⟨fun | 222 => 51 | n => n, fun | 9 => 9 | 5 => 5 | 3 => 3 | 4 => 4 | n => n, fun | n => n⟩
theorem Try.lays222 : Go.Proofs.Lays.n222 Try.prog Try.lays222_ren := {
  mixed := by kernel_rfl
  f222 := Try.func51.trans (congrArg some (by kernel_rfl))
  t3 := Try.underlying3
  a3 := Try.isAgg3
  z3 := Try.sizeOf3
  v3 := Try.zeroValue3
  t4 := Try.underlying4
  a4 := Try.isAgg4
  z4 := Try.sizeOf4
  v4 := Try.zeroValue4
  t5 := Try.underlying5
  a5 := Try.isAgg5
  z5 := Try.sizeOf5
  v5 := Try.zeroValue5
  t9 := Try.underlying9
  a9 := Try.isAgg9
  z9 := Try.sizeOf9
  v9 := Try.zeroValue9 }
open Go.RowKit Go.Lib in
/-- internal/bytealg.LastIndexByteString: 'for i := len(s) - 1; i >= 0; i-- { if s[i] == c { return i } }; return -1'. (LAID: no walk: one application.) -/
theorem Try.bytealg_LastIndexByteString_nm (s : ByteArray) (c : Int) (hs : s.size < 4611686018427387904) (w : World) :
    Calls Try.prog 51 #[.string s, .int .u8 c] w fun e w' => e = .returned (.int .i64 (Lib.lastIndexByte s c)) ∧ w' = w := Any.bytealg_LastIndexByteString_nm Try.lays222 s c hs w
def Try.lays149_ren : Go.Shelf.Ren := ⟨fun | 149 => 44 | 222 => 51 | n => n, fun | 9 => 9 | 5 => 5 | 3 => 3 | 4 => 4 | n => n, fun | n => n⟩
theorem Try.lays149 : Go.Proofs.Lays.n149 Try.prog Try.lays149_ren := {
  mixed := by kernel_rfl
  f149 := Try.func44.trans (congrArg some (by kernel_rfl))
  f222 := Try.func51.trans (congrArg some (by kernel_rfl))
  t3 := Try.underlying3
  a3 := Try.isAgg3
  z3 := Try.sizeOf3
  v3 := Try.zeroValue3
  t4 := Try.underlying4
  a4 := Try.isAgg4
  z4 := Try.sizeOf4
  v4 := Try.zeroValue4
  t5 := Try.underlying5
  a5 := Try.isAgg5
  z5 := Try.sizeOf5
  v5 := Try.zeroValue5
  t9 := Try.underlying9
  a9 := Try.isAgg9
  z9 := Try.sizeOf9
  v9 := Try.zeroValue9 }
open Go.RowKit Go.Lib in
/-- strings.LastIndexByte: "LastIndexByte returns the index of the last instance of c in s, or -1 if c is not present in s." (LAID: no walk: one application.) -/
theorem Try.strings_LastIndexByte (s : ByteArray) (c : Int) (hs : s.size < 4611686018427387904) (w : World) :
    Calls Try.prog 44 #[.string s, .int .u8 c] w fun e w' => e = .returned (.int .i64 (Lib.lastIndexByte s c)) ∧ w' = w := Any.strings_LastIndexByte Try.lays149 s c hs w
def Try.lays206_ren : Go.Shelf.Ren := ⟨fun | 206 => 45 | n => n, fun | 9 => 9 | 4 => 4 | 3 => 3 | n => n, fun | n => n⟩
theorem Try.lays206 : Go.Proofs.Lays.n206 Try.prog Try.lays206_ren := {
  mixed := by kernel_rfl
  f206 := Try.func45.trans (congrArg some (by kernel_rfl))
  t3 := Try.underlying3
  a3 := Try.isAgg3
  z3 := Try.sizeOf3
  v3 := Try.zeroValue3
  t4 := Try.underlying4
  a4 := Try.isAgg4
  z4 := Try.sizeOf4
  v4 := Try.zeroValue4
  t9 := Try.underlying9
  a9 := Try.isAgg9
  z9 := Try.sizeOf9
  v9 := Try.zeroValue9 }
open Go.RowKit Go.Lib in
/-- internal/stringslite.HasPrefix (what strings.HasPrefix calls). (LAID: no walk: one application.) -/
theorem Try.stringslite_HasPrefix (s p : ByteArray) (w : World) :
    Calls Try.prog 45 #[.string s, .string p] w fun e w' => e = .returned (.bool (Lib.hasPrefix s.data.toList p.data.toList)) ∧ w' = w := Any.stringslite_HasPrefix Try.lays206 s p w
def Try.lays99_ren : Go.Shelf.Ren := ⟨fun | 99 => 36 | 206 => 45 | n => n, fun | 9 => 9 | 4 => 4 | 3 => 3 | n => n, fun | n => n⟩
theorem Try.lays99 : Go.Proofs.Lays.n99 Try.prog Try.lays99_ren := {
  mixed := by kernel_rfl
  f99 := Try.func36.trans (congrArg some (by kernel_rfl))
  f206 := Try.func45.trans (congrArg some (by kernel_rfl))
  t3 := Try.underlying3
  a3 := Try.isAgg3
  z3 := Try.sizeOf3
  v3 := Try.zeroValue3
  t4 := Try.underlying4
  a4 := Try.isAgg4
  z4 := Try.sizeOf4
  v4 := Try.zeroValue4
  t9 := Try.underlying9
  a9 := Try.isAgg9
  z9 := Try.sizeOf9
  v9 := Try.zeroValue9 }
open Go.RowKit Go.Lib in
/-- strings.HasPrefix: "HasPrefix reports whether the string s begins with prefix.": IT RETURNS 'Lib.hasPrefix s prefix'; the world is as it was. (LAID: no walk: one application.) -/
theorem Try.strings_HasPrefix (s p : ByteArray) (w : World) :
    Calls Try.prog 36 #[.string s, .string p] w fun e w' => e = .returned (.bool (Lib.hasPrefix s.data.toList p.data.toList)) ∧ w' = w := Any.strings_HasPrefix Try.lays99 s p w
def Try.lays207_ren : Go.Shelf.Ren := ⟨fun | 207 => 52 | n => n, fun | 9 => 9 | 4 => 4 | 3 => 3 | n => n, fun | n => n⟩
theorem Try.lays207 : Go.Proofs.Lays.n207 Try.prog Try.lays207_ren := {
  mixed := by kernel_rfl
  f207 := Try.func52.trans (congrArg some (by kernel_rfl))
  t3 := Try.underlying3
  a3 := Try.isAgg3
  z3 := Try.sizeOf3
  v3 := Try.zeroValue3
  t4 := Try.underlying4
  a4 := Try.isAgg4
  z4 := Try.sizeOf4
  v4 := Try.zeroValue4
  t9 := Try.underlying9
  a9 := Try.isAgg9
  z9 := Try.sizeOf9
  v9 := Try.zeroValue9 }
open Go.RowKit Go.Lib in
/-- internal/stringslite.HasSuffix (what strings.HasSuffix calls). (LAID: no walk: one application.) -/
theorem Try.stringslite_HasSuffix (s p : ByteArray) (w : World) (hs : s.size ≤ 9223372036854775807) :
    Calls Try.prog 52 #[.string s, .string p] w fun e w' => e = .returned (.bool (Lib.hasSuffix s.data.toList p.data.toList)) ∧ w' = w := Any.stringslite_HasSuffix Try.lays207 s p w hs
def Try.lays209_ren : Go.Shelf.Ren := ⟨fun | 209 => 50 | 207 => 52 | n => n, fun | 9 => 9 | 4 => 4 | 3 => 3 | n => n, fun | n => n⟩
theorem Try.lays209 : Go.Proofs.Lays.n209 Try.prog Try.lays209_ren := {
  mixed := by kernel_rfl
  f207 := Try.func52.trans (congrArg some (by kernel_rfl))
  f209 := Try.func50.trans (congrArg some (by kernel_rfl))
  t3 := Try.underlying3
  a3 := Try.isAgg3
  z3 := Try.sizeOf3
  v3 := Try.zeroValue3
  t4 := Try.underlying4
  a4 := Try.isAgg4
  z4 := Try.sizeOf4
  v4 := Try.zeroValue4
  t9 := Try.underlying9
  a9 := Try.isAgg9
  z9 := Try.sizeOf9
  v9 := Try.zeroValue9 }
open Go.RowKit Go.Lib in
/-- internal/stringslite.TrimSuffix (what strings.TrimSuffix calls). (LAID: no walk: one application.) -/
theorem Try.stringslite_TrimSuffix (s p : ByteArray) (w : World) (hs : s.size ≤ 9223372036854775807) :
    Calls Try.prog 50 #[.string s, .string p] w fun e w' => e = .returned (.string ⟨(Lib.trimSuffix s.data.toList p.data.toList).toArray⟩) ∧ w' = w := Any.stringslite_TrimSuffix Try.lays209 s p w hs
def Try.lays102_ren : Go.Shelf.Ren := ⟨fun | 102 => 43 | 209 => 50 | 207 => 52 | n => n, fun | 9 => 9 | 4 => 4 | 3 => 3 | n => n, fun | n => n⟩
theorem Try.lays102 : Go.Proofs.Lays.n102 Try.prog Try.lays102_ren := {
  mixed := by kernel_rfl
  f102 := Try.func43.trans (congrArg some (by kernel_rfl))
  f207 := Try.func52.trans (congrArg some (by kernel_rfl))
  f209 := Try.func50.trans (congrArg some (by kernel_rfl))
  t3 := Try.underlying3
  a3 := Try.isAgg3
  z3 := Try.sizeOf3
  v3 := Try.zeroValue3
  t4 := Try.underlying4
  a4 := Try.isAgg4
  z4 := Try.sizeOf4
  v4 := Try.zeroValue4
  t9 := Try.underlying9
  a9 := Try.isAgg9
  z9 := Try.sizeOf9
  v9 := Try.zeroValue9 }
open Go.RowKit Go.Lib in
/-- strings.TrimSuffix: "TrimSuffix returns s without the provided trailing suffix string. If s doesn't end with suffix, s is returned unchanged.": IT RETURNS 'Lib.trimSuffix s suffix'; the world is as it was. (LAID: no walk: one application.) -/
theorem Try.strings_TrimSuffix (s p : ByteArray) (w : World) (hs : s.size ≤ 9223372036854775807) :
    Calls Try.prog 43 #[.string s, .string p] w fun e w' => e = .returned (.string ⟨(Lib.trimSuffix s.data.toList p.data.toList).toArray⟩) ∧ w' = w := Any.strings_TrimSuffix Try.lays102 s p w hs
def Try.laysPa45_ren : Go.Shelf.Ren := ⟨fun | 45 => 51 | n => n, fun | 9 => 9 | 5 => 5 | 3 => 3 | 4 => 4 | n => n, fun | n => n⟩
theorem Try.laysPa45 : Go.Proofs.Lays.p45 Try.prog Try.laysPa45_ren := {
  mixed := by kernel_rfl
  f45 := Try.func51.trans (congrArg some (by kernel_rfl))
  t3 := Try.underlying3
  a3 := Try.isAgg3
  z3 := Try.sizeOf3
  v3 := Try.zeroValue3
  t4 := Try.underlying4
  a4 := Try.isAgg4
  z4 := Try.sizeOf4
  v4 := Try.zeroValue4
  t5 := Try.underlying5
  a5 := Try.isAgg5
  z5 := Try.sizeOf5
  v5 := Try.zeroValue5
  t9 := Try.underlying9
  a9 := Try.isAgg9
  z9 := Try.sizeOf9
  v9 := Try.zeroValue9 }
open Go.RowKit Go.Lib in
/-- internal/bytealg.LastIndexByteString (what strings.LastIndexByte calls: "LastIndexByte returns the index of the last instance of c in s, or -1 if c is not present in s."): IT RETURNS 'Pa.lastIndexByte s c'; the world is as it was. (LAID: no walk: one application.) -/
theorem Try.bytealg_LastIndexByteString (s : ByteArray) (c : UInt8) (w : World) (hs : s.size ≤ 9223372036854775807) :
    Calls Try.prog 51 #[.string s, .int .u8 c.toNat] w fun e w' => e = .returned (.int .i64 (Pa.lastIndexByte s.data.toList c)) ∧ w' = w := Any.bytealg_LastIndexByteString Try.laysPa45 s c w hs
def Try.laysPa47_ren : Go.Shelf.Ren := ⟨fun | 47 => 47 | n => n, fun | 48 => 55 | 3 => 3 | 5 => 5 | 0 => 0 | 42 => 51 | 30 => 41 | 4 => 4 | 9 => 9 | n => n, fun | n => n⟩
theorem Try.laysPa47 : Go.Proofs.Lays.p47 Try.prog Try.laysPa47_ren := {
  mixed := by kernel_rfl
  f47 := Try.func47.trans (congrArg some (by kernel_rfl))
  t0 := Try.underlying0
  a0 := Try.isAgg0
  z0 := Try.sizeOf0
  v0 := Try.zeroValue0
  t3 := Try.underlying3
  a3 := Try.isAgg3
  z3 := Try.sizeOf3
  v3 := Try.zeroValue3
  t4 := Try.underlying4
  a4 := Try.isAgg4
  z4 := Try.sizeOf4
  v4 := Try.zeroValue4
  t5 := Try.underlying5
  a5 := Try.isAgg5
  z5 := Try.sizeOf5
  v5 := Try.zeroValue5
  t9 := Try.underlying9
  a9 := Try.isAgg9
  z9 := Try.sizeOf9
  v9 := Try.zeroValue9
  t30 := Try.underlying41
  a30 := Try.isAgg41
  z30 := Try.sizeOf41
  v30 := Try.zeroValue41
  t42 := Try.underlying51
  a42 := Try.isAgg51
  z42 := Try.sizeOf51
  v42 := Try.zeroValue51
  t48 := Try.underlying55
  a48 := Try.isAgg55
  z48 := Try.sizeOf55
  v48 := Try.zeroValue55 }
open Go.RowKit Go.Lib in
/-- (*path.lazybuf).index: the byte at place i of what the buffer reads ('c'); the world is as it was. (LAID: no walk: one application.) -/
theorem Try.lazybuf_index (B : Nat) (s : ByteArray) (c : List UInt8) (wv i : Nat) (w : World) (hz : Lz.Lazy 51 5 B s c wv w) (hi : i < s.size) :
    Calls Try.prog 47 #[.pointer (some ⟨B, 0, none⟩), .int .i64 i] w fun e w' => e = .returned (.int .u8 ((c[i]?.getD 0).toNat : Int)) ∧ w' = w := Any.lazybuf_index Try.laysPa47 B s c wv i w hz hi
def Try.laysPa48_ren : Go.Shelf.Ren := ⟨fun | 48 => 48 | n => n, fun | 48 => 55 | 9 => 9 | 0 => 0 | 42 => 51 | 30 => 41 | 4 => 4 | 3 => 3 | 5 => 5 | n => n, fun | n => n⟩
theorem Try.laysPa48 : Go.Proofs.Lays.p48 Try.prog Try.laysPa48_ren := {
  mixed := by kernel_rfl
  f48 := Try.func48.trans (congrArg some (by kernel_rfl))
  t0 := Try.underlying0
  a0 := Try.isAgg0
  z0 := Try.sizeOf0
  v0 := Try.zeroValue0
  t3 := Try.underlying3
  a3 := Try.isAgg3
  z3 := Try.sizeOf3
  v3 := Try.zeroValue3
  t4 := Try.underlying4
  a4 := Try.isAgg4
  z4 := Try.sizeOf4
  v4 := Try.zeroValue4
  t5 := Try.underlying5
  a5 := Try.isAgg5
  z5 := Try.sizeOf5
  v5 := Try.zeroValue5
  t9 := Try.underlying9
  a9 := Try.isAgg9
  z9 := Try.sizeOf9
  v9 := Try.zeroValue9
  t30 := Try.underlying41
  a30 := Try.isAgg41
  z30 := Try.sizeOf41
  v30 := Try.zeroValue41
  t42 := Try.underlying51
  a42 := Try.isAgg51
  z42 := Try.sizeOf51
  v42 := Try.zeroValue51
  t48 := Try.underlying55
  a48 := Try.isAgg55
  z48 := Try.sizeOf55
  v48 := Try.zeroValue55 }
open Go.RowKit Go.Lib in
/-- (*path.lazybuf).string: what has been appended, as a string; the world is as it was but for the count of draws. (LAID: no walk: one application.) -/
theorem Try.lazybuf_string (B : Nat) (s : ByteArray) (c : List UInt8) (wv : Nat) (w : World) (hz : Lz.Lazy 51 5 B s c wv w) (hw : wv ≤ s.size) :
    Calls Try.prog 48 #[.pointer (some ⟨B, 0, none⟩)] w fun e w' => e = .returned (.string ⟨(c.take wv).toArray⟩) ∧ ∃ n, w' = w.drewN n := Any.lazybuf_string Try.laysPa48 B s c wv w hz hw
def Try.laysPah46_ren : Go.Shelf.Ren := ⟨fun | 46 => 46 | n => n, fun | 48 => 55 | 5 => 5 | 0 => 0 | 42 => 51 | 30 => 41 | 4 => 4 | 3 => 3 | 9 => 9 | n => n, fun | n => n⟩
theorem Try.laysPah46 : Go.Proofs.Lays.ph46 Try.prog Try.laysPah46_ren := {
  mixed := by kernel_rfl
  f46 := Try.func46.trans (congrArg some (by kernel_rfl))
  t0 := Try.underlying0
  a0 := Try.isAgg0
  z0 := Try.sizeOf0
  v0 := Try.zeroValue0
  t3 := Try.underlying3
  a3 := Try.isAgg3
  z3 := Try.sizeOf3
  v3 := Try.zeroValue3
  t4 := Try.underlying4
  a4 := Try.isAgg4
  z4 := Try.sizeOf4
  v4 := Try.zeroValue4
  t5 := Try.underlying5
  a5 := Try.isAgg5
  z5 := Try.sizeOf5
  v5 := Try.zeroValue5
  t9 := Try.underlying9
  a9 := Try.isAgg9
  z9 := Try.sizeOf9
  v9 := Try.zeroValue9
  t30 := Try.underlying41
  a30 := Try.isAgg41
  z30 := Try.sizeOf41
  v30 := Try.zeroValue41
  t42 := Try.underlying51
  a42 := Try.isAgg51
  z42 := Try.sizeOf51
  v42 := Try.zeroValue51
  t48 := Try.underlying55
  a48 := Try.isAgg55
  z48 := Try.sizeOf55
  v48 := Try.zeroValue55
  info5 := by kernel_rfl }
open Go.RowKit Go.Lib in
/-- (*path.lazybuf).append, wherever there is room ('w < len(s)'): THE BUFFER THEN READS SOME c' WHOSE FIRST w + 1 BYTES ARE WHAT HAD BEEN APPENDED, AND x; below block B the world is as it was. (All three ways of the text: the byte is s's own next byte · the output parts from s here: 'make', 'copy' · the buffer is there already.) (LAID: no walk: one application.) -/
theorem Try.lazybuf_append (B : Nat) (s : ByteArray) (c : List UInt8) (wv : Nat) (x : UInt8) (w : World) (hz : Lz.Lazy 51 5 B s c wv w) (hw : wv < s.size) (hbig : s.size ≤ 281474976710656) :
    Calls Try.prog 46 #[.pointer (some ⟨B, 0, none⟩), .int .u8 (x.toNat : Int)] w fun e w' => e = .returned (.tuple #[]) ∧ ∃ c', Lz.Lazy 51 5 B s c' (wv + 1) w' ∧ c'.take (wv + 1) = c.take wv ++ [x] ∧ Below B w w' := Any.lazybuf_append Try.laysPah46 B s c wv x w hz hw hbig
open Go.RowKit Go.Lib in
/-- append at the slash and at the dot, as path.Clean calls it. (LAID: no walk: one application.) -/
theorem Try.lazybuf_append47 (B : Nat) (s : ByteArray) (c : List UInt8) (wv : Nat) (w : World) (hz : Lz.Lazy 51 5 B s c wv w) (hw : wv < s.size) (hbig : s.size ≤ 281474976710656) :
    Calls Try.prog 46 #[.pointer (some ⟨B, 0, none⟩), .int .u8 47] w fun e w' => e = .returned (.tuple #[]) ∧ ∃ c', Lz.Lazy 51 5 B s c' (wv + 1) w' ∧ c'.take (wv + 1) = c.take wv ++ [47] ∧ Below B w w' := Any.lazybuf_append47 Try.laysPah46 B s c wv w hz hw hbig
open Go.RowKit Go.Lib in
theorem Try.lazybuf_append46 (B : Nat) (s : ByteArray) (c : List UInt8) (wv : Nat) (w : World) (hz : Lz.Lazy 51 5 B s c wv w) (hw : wv < s.size) (hbig : s.size ≤ 281474976710656) :
    Calls Try.prog 46 #[.pointer (some ⟨B, 0, none⟩), .int .u8 46] w fun e w' => e = .returned (.tuple #[]) ∧ ∃ c', Lz.Lazy 51 5 B s c' (wv + 1) w' ∧ c'.take (wv + 1) = c.take wv ++ [46] ∧ Below B w w' := Any.lazybuf_append46 Try.laysPah46 B s c wv w hz hw hbig
def Try.laysPah30_ren : Go.Shelf.Ren := ⟨fun | 30 => 37 | 46 => 46 | 47 => 47 | 48 => 48 | n => n, fun | 9 => 9 | 4 => 4 | 5 => 5 | 3 => 3 | 42 => 51 | 0 => 0 | 48 => 55 | 30 => 41 | n => n, fun | n => n⟩
theorem Try.laysPah30 : Go.Proofs.Lays.ph30 Try.prog Try.laysPah30_ren := {
  mixed := by kernel_rfl
  f30 := Try.func37.trans (congrArg some (by kernel_rfl))
  f46 := Try.func46.trans (congrArg some (by kernel_rfl))
  f47 := Try.func47.trans (congrArg some (by kernel_rfl))
  f48 := Try.func48.trans (congrArg some (by kernel_rfl))
  t0 := Try.underlying0
  a0 := Try.isAgg0
  z0 := Try.sizeOf0
  v0 := Try.zeroValue0
  t3 := Try.underlying3
  a3 := Try.isAgg3
  z3 := Try.sizeOf3
  v3 := Try.zeroValue3
  t4 := Try.underlying4
  a4 := Try.isAgg4
  z4 := Try.sizeOf4
  v4 := Try.zeroValue4
  t5 := Try.underlying5
  a5 := Try.isAgg5
  z5 := Try.sizeOf5
  v5 := Try.zeroValue5
  t9 := Try.underlying9
  a9 := Try.isAgg9
  z9 := Try.sizeOf9
  v9 := Try.zeroValue9
  t30 := Try.underlying41
  a30 := Try.isAgg41
  z30 := Try.sizeOf41
  v30 := Try.zeroValue41
  t42 := Try.underlying51
  a42 := Try.isAgg51
  z42 := Try.sizeOf51
  v42 := Try.zeroValue51
  t48 := Try.underlying55
  a48 := Try.isAgg55
  z48 := Try.sizeOf55
  v48 := Try.zeroValue55
  info5 := by kernel_rfl }
open Go.RowKit Go.Lib in
theorem Try.path_Clean_rel (s : ByteArray) (w : World) (hbig : s.size ≤ 281474976710656) (h0 : 0 < s.size) (hro : (s[0]'h0) ≠ 47) (R RR : List UInt8) (hR : Pa.cleanLoop s.data.toList false s.data.toList.length [] 0 0 = R) (hRR : (if R = [] then [46] else R) = RR) :
    Calls Try.prog 37 #[.string s] w fun e w' => e = .returned (.string ⟨RR.toArray⟩) ∧ Below w.heap.size w w' := Any.path_Clean_rel Try.laysPah30 s w hbig h0 hro R RR hR hRR
open Go.RowKit Go.Lib in
theorem Try.path_Clean_abs (s : ByteArray) (w : World) (hbig : s.size ≤ 281474976710656) (h0 : 0 < s.size) (hro : (s[0]'h0) = 47) (R RR : List UInt8) (hR : Pa.cleanLoop s.data.toList true s.data.toList.length [47] 1 1 = R) (hRR : (if R = [] then [46] else R) = RR) :
    Calls Try.prog 37 #[.string s] w fun e w' => e = .returned (.string ⟨RR.toArray⟩) ∧ Below w.heap.size w w' := Any.path_Clean_abs Try.laysPah30 s w hbig h0 hro R RR hR hRR
open Go.RowKit Go.Lib in
/-- path.Clean: "Clean returns the shortest path name equivalent to path by purely lexical processing. It applies the following rules iteratively until no further processing can be done: 1. Replace multiple slashes with a single slash. 2. Eliminate each . path name element (the current directory). 3. Eliminate each inner .. path name element (the parent directory) along with the non-.. element that precedes it. 4. Eliminate .. elements that begin a rooted path: that is, replace "/.." by "/" at the beginning of a path. The returned path ends in a slash only if it is the root "/". If the result of this process is an empty string, Clean returns the string ".".": IT RETURNS 'Pa.clean path'. (LAID: no walk: one application.) -/
theorem Try.path_Clean (s : ByteArray) (w : World) (hbig : s.size ≤ 281474976710656) :
    Calls Try.prog 37 #[.string s] w fun e w' => e = .returned (.string ⟨(Pa.clean s.data.toList).toArray⟩) ∧ Below w.heap.size w w' := Any.path_Clean Try.laysPah30 s w hbig
open Go.RowKit Go.Lib in
theorem Try.path_Clean_rules (s : ByteArray) (w : World) (hbig : s.size ≤ 281474976710656) :
    Calls Try.prog 37 #[.string s] w fun e w' => e = .returned (.string ⟨(Pa.cleanEls s.data.toList).toArray⟩) ∧ Below w.heap.size w w' := Any.path_Clean_rules Try.laysPah30 s w hbig
end Go.Proofs
