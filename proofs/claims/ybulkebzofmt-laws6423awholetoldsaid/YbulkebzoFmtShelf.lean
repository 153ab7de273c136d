/-
  DERIVED: THE SHELF's CONTRACTS AT THIS DUMP, IN PLAIN WORDS (tools/lay-plain.mjs out of 'YbafShelf.lean', which tools/lay-shelf.mjs wrote): THE SAME DECLARATIONS UNDER THE SAME NAMES: 'import', 'namespace', 'open', 'def', 'theorem' AND NOTHING ELSE: no command of the shelf's: FOR A HAND-IN. Each laying: the table of numbers ('.._ren') and one theorem, a field a fact of the dump's own or the kernel's comparison; each contract: ONE APPLICATION.
-/
import Derived.Ground.PaProg
import Derived.Shelf.Hex.Tagged
import Derived.Shelf.Strings.Prefix
import Derived.Shelf.Hex.Lens
import Derived.Shelf.Hex.Decode
import Derived.Shelf.Hex.More
import Derived.Test.YbulkebzoFmtProg
namespace Go.Proofs
open Go.Shelf
def Ybaf.laysPa44_ren : Go.Shelf.Ren := ⟨fun | 44 => 17 | n => n, fun | 30 => 22 | 3 => 3 | 35 => 25 | 4 => 4 | 0 => 0 | 5 => 5 | 9 => 9 | 47 => 76 | 46 => 37 | 45 => 79 | n => n, fun | 0 => 1 | n => n⟩
theorem Ybaf.laysPa44 : Go.Proofs.Lays.p44 Ybaf.prog Ybaf.laysPa44_ren := {
  mixed := by kernel_rfl
  f44 := Ybaf.func17.trans (congrArg some (by kernel_rfl))
  t0 := Ybaf.underlying0
  a0 := Ybaf.isAgg0
  z0 := Ybaf.sizeOf0
  v0 := Ybaf.zeroValue0
  t3 := Ybaf.underlying3
  a3 := Ybaf.isAgg3
  z3 := Ybaf.sizeOf3
  v3 := Ybaf.zeroValue3
  t4 := Ybaf.underlying4
  a4 := Ybaf.isAgg4
  z4 := Ybaf.sizeOf4
  v4 := Ybaf.zeroValue4
  t5 := Ybaf.underlying5
  a5 := Ybaf.isAgg5
  z5 := Ybaf.sizeOf5
  v5 := Ybaf.zeroValue5
  t9 := Ybaf.underlying9
  a9 := Ybaf.isAgg9
  z9 := Ybaf.sizeOf9
  v9 := Ybaf.zeroValue9
  t30 := Ybaf.underlying22
  a30 := Ybaf.isAgg22
  z30 := Ybaf.sizeOf22
  v30 := Ybaf.zeroValue22
  t35 := Ybaf.underlying25
  a35 := Ybaf.isAgg25
  z35 := Ybaf.sizeOf25
  v35 := Ybaf.zeroValue25
  t45 := Ybaf.underlying79
  a45 := Ybaf.isAgg79
  z45 := Ybaf.sizeOf79
  v45 := Ybaf.zeroValue79
  t46 := Ybaf.underlying37
  a46 := Ybaf.isAgg37
  z46 := Ybaf.sizeOf37
  v46 := Ybaf.zeroValue37
  t47 := Ybaf.underlying76
  a47 := Ybaf.isAgg76
  z47 := Ybaf.sizeOf76
  v47 := Ybaf.zeroValue76
  g0 := by kernel_rfl }
open Go.RowKit Go.Lib in
/-- encoding/hex.Decode, FOR EVERY src THAT IS NOT nil: "Decode decodes src into DecodedLen(len(src)) bytes, returning the actual number of bytes written to dst. Decode expects that src contains only hexadecimal characters and that src has even length. If the input is malformed, Decode returns the number of bytes decoded before the error.": dst: nd places from place od on of a row (block bd), with room for len(src) / 2 bytes; src: n cells of ANOTHER block, holding the numbers xs, each a byte's; 'ev': what the variable encoding/hex.ErrLength holds. IT RETURNS (how many bytes 'Hx.decode' gives, the error by how it ends: nil ¦ InvalidByteError(c) ¦ ErrLength's content); THE ROW THEN HOLDS those bytes from place od on ('Hx.rowP'); nothing else has turned. THE FORM '_tag': THE DESTINATION's BLOCK MAY BEAR WHATEVER TYPE's NUMBER 'T' (the elder form asks uint8's own: true of 'make([]byte, n)', false of 'var buf [3]byte; ..(buf[:], ..)': an array variable's block bears THE ARRAY's number). (LAID: no walk: one application.) -/
theorem Ybaf.hex_Decode_tag (T : TypeId) (bd od nd cd N : Nat) (f : Nat → Value) (bs os n cs : Nat) (xs : List Int) (w : World) (ev : Value) (hx : xs.length = n) (hr : ∀ i, i < n → 0 ≤ xs.getD i 0 ∧ xs.getD i 0 < 256) (hsrc : ∀ i, i < n → w.cell? ⟨bs, os + i, none⟩ = some (.int .u8 (xs.getD i 0))) (hrow : w.rowIs bd T N f) (hfit : od + nd ≤ N) (hlen : n / 2 ≤ nd) (hne : bd ≠ bs) (hbig : n ≤ 4611686018427387903) (hE : w.cell? ⟨1, 0, none⟩ = some ev) (hgb : 1 ≠ bd) :
    Calls Ybaf.prog 17 #[.slice (some ⟨bd, od, none⟩) nd cd, .slice (some ⟨bs, os, none⟩) n cs] w fun e w' =>
      e = .returned (.tuple #[.int .i64 ((Hx.decode (Lib.bytesOf xs)).1.length : Int), Hx.errVal 76 ev (Hx.decode (Lib.bytesOf xs)).2]) ∧ w'.rowIs bd T N (Hx.rowP f od (Hx.decode (Lib.bytesOf xs)).1) ∧ w.grownBy w' (some bd) := Any.hex_Decode_tag Ybaf.laysPa44 T bd od nd cd N f bs os n cs xs w ev hx hr hsrc hrow hfit hlen hne hbig hE hgb
def Ybaf.lays207_ren : Go.Shelf.Ren := ⟨fun | 207 => 19 | n => n, fun | 9 => 9 | 4 => 4 | 3 => 3 | n => n, fun | n => n⟩
theorem Ybaf.lays207 : Go.Proofs.Lays.n207 Ybaf.prog Ybaf.lays207_ren := {
  mixed := by kernel_rfl
  f207 := Ybaf.func19.trans (congrArg some (by kernel_rfl))
  t3 := Ybaf.underlying3
  a3 := Ybaf.isAgg3
  z3 := Ybaf.sizeOf3
  v3 := Ybaf.zeroValue3
  t4 := Ybaf.underlying4
  a4 := Ybaf.isAgg4
  z4 := Ybaf.sizeOf4
  v4 := Ybaf.zeroValue4
  t9 := Ybaf.underlying9
  a9 := Ybaf.isAgg9
  z9 := Ybaf.sizeOf9
  v9 := Ybaf.zeroValue9 }
open Go.RowKit Go.Lib in
/-- internal/stringslite.HasSuffix (what strings.HasSuffix calls). (LAID: no walk: one application.) -/
theorem Ybaf.stringslite_HasSuffix (s p : ByteArray) (w : World) (hs : s.size ≤ 9223372036854775807) :
    Calls Ybaf.prog 19 #[.string s, .string p] w fun e w' => e = .returned (.bool (Lib.hasSuffix s.data.toList p.data.toList)) ∧ w' = w := Any.stringslite_HasSuffix Ybaf.lays207 s p w hs
def Ybaf.lays209_ren : Go.Shelf.Ren := ⟨fun | 209 => 18 | 207 => 19 | n => n, fun | 9 => 9 | 4 => 4 | 3 => 3 | n => n, fun | n => n⟩
theorem Ybaf.lays209 : Go.Proofs.Lays.n209 Ybaf.prog Ybaf.lays209_ren := {
  mixed := by kernel_rfl
  f207 := Ybaf.func19.trans (congrArg some (by kernel_rfl))
  f209 := Ybaf.func18.trans (congrArg some (by kernel_rfl))
  t3 := Ybaf.underlying3
  a3 := Ybaf.isAgg3
  z3 := Ybaf.sizeOf3
  v3 := Ybaf.zeroValue3
  t4 := Ybaf.underlying4
  a4 := Ybaf.isAgg4
  z4 := Ybaf.sizeOf4
  v4 := Ybaf.zeroValue4
  t9 := Ybaf.underlying9
  a9 := Ybaf.isAgg9
  z9 := Ybaf.sizeOf9
  v9 := Ybaf.zeroValue9 }
open Go.RowKit Go.Lib in
/-- internal/stringslite.TrimSuffix (what strings.TrimSuffix calls). (LAID: no walk: one application.) -/
theorem Ybaf.stringslite_TrimSuffix (s p : ByteArray) (w : World) (hs : s.size ≤ 9223372036854775807) :
    Calls Ybaf.prog 18 #[.string s, .string p] w fun e w' => e = .returned (.string ⟨(Lib.trimSuffix s.data.toList p.data.toList).toArray⟩) ∧ w' = w := Any.stringslite_TrimSuffix Ybaf.lays209 s p w hs
def Ybaf.lays102_ren : Go.Shelf.Ren := ⟨fun | 102 => 13 | 209 => 18 | 207 => 19 | n => n, fun | 9 => 9 | 4 => 4 | 3 => 3 | n => n, fun | n => n⟩
theorem Ybaf.lays102 : Go.Proofs.Lays.n102 Ybaf.prog Ybaf.lays102_ren := {
  mixed := by kernel_rfl
  f102 := Ybaf.func13.trans (congrArg some (by kernel_rfl))
  f207 := Ybaf.func19.trans (congrArg some (by kernel_rfl))
  f209 := Ybaf.func18.trans (congrArg some (by kernel_rfl))
  t3 := Ybaf.underlying3
  a3 := Ybaf.isAgg3
  z3 := Ybaf.sizeOf3
  v3 := Ybaf.zeroValue3
  t4 := Ybaf.underlying4
  a4 := Ybaf.isAgg4
  z4 := Ybaf.sizeOf4
  v4 := Ybaf.zeroValue4
  t9 := Ybaf.underlying9
  a9 := Ybaf.isAgg9
  z9 := Ybaf.sizeOf9
  v9 := Ybaf.zeroValue9 }
open Go.RowKit Go.Lib in
/-- strings.TrimSuffix: "TrimSuffix returns s without the provided trailing suffix string. If s doesn't end with suffix, s is returned unchanged.": IT RETURNS 'Lib.trimSuffix s suffix'; the world is as it was. (LAID: no walk: one application.) -/
theorem Ybaf.strings_TrimSuffix (s p : ByteArray) (w : World) (hs : s.size ≤ 9223372036854775807) :
    Calls Ybaf.prog 13 #[.string s, .string p] w fun e w' => e = .returned (.string ⟨(Lib.trimSuffix s.data.toList p.data.toList).toArray⟩) ∧ w' = w := Any.strings_TrimSuffix Ybaf.lays102 s p w hs
def Ybaf.laysPa41_ren : Go.Shelf.Ren := ⟨fun | 41 => 8 | n => n, fun | 3 => 3 | n => n, fun | n => n⟩
theorem Ybaf.laysPa41 : Go.Proofs.Lays.p41 Ybaf.prog Ybaf.laysPa41_ren := {
  mixed := by kernel_rfl
  f41 := Ybaf.func8.trans (congrArg some (by kernel_rfl))
  t3 := Ybaf.underlying3
  a3 := Ybaf.isAgg3
  z3 := Ybaf.sizeOf3
  v3 := Ybaf.zeroValue3 }
open Go.RowKit Go.Lib in
/-- encoding/hex.EncodedLen: "EncodedLen returns the length of an encoding of n source bytes. Specifically, it returns n * 2.": for 0 ≤ n < 2^62 (beyond it int's product wraps). (LAID: no walk: one application.) -/
theorem Ybaf.hex_EncodedLen (n : Int) (h0 : 0 ≤ n) (h1 : n < 4611686018427387904) (w : World) :
    Calls Ybaf.prog 8 #[.int .i64 n] w fun e w' => e = .returned (.int .i64 (n * 2)) ∧ w' = w := Any.hex_EncodedLen Ybaf.laysPa41 n h0 h1 w
open Go.RowKit Go.Lib in
/-- encoding/hex.Decode, FOR EVERY src THAT IS NOT nil: "Decode decodes src into DecodedLen(len(src)) bytes, returning the actual number of bytes written to dst. Decode expects that src contains only hexadecimal characters and that src has even length. If the input is malformed, Decode returns the number of bytes decoded before the error.": dst: nd places from place od on of a row (block bd), with room for len(src) / 2 bytes; src: n cells of ANOTHER block, holding the numbers xs, each a byte's; 'ev': what the variable encoding/hex.ErrLength holds. IT RETURNS (how many bytes 'Hx.decode' gives, the error by how it ends: nil ¦ InvalidByteError(c) ¦ ErrLength's content); THE ROW THEN HOLDS those bytes from place od on ('Hx.rowP'); nothing else has turned. (LAID: no walk: one application.) -/
theorem Ybaf.hex_Decode (bd od nd cd N : Nat) (f : Nat → Value) (bs os n cs : Nat) (xs : List Int) (w : World) (ev : Value) (hx : xs.length = n) (hr : ∀ i, i < n → 0 ≤ xs.getD i 0 ∧ xs.getD i 0 < 256) (hsrc : ∀ i, i < n → w.cell? ⟨bs, os + i, none⟩ = some (.int .u8 (xs.getD i 0))) (hrow : w.rowIs bd 5 N f) (hfit : od + nd ≤ N) (hlen : n / 2 ≤ nd) (hne : bd ≠ bs) (hbig : n ≤ 4611686018427387903) (hE : w.cell? ⟨1, 0, none⟩ = some ev) (hgb : 1 ≠ bd) :
    Calls Ybaf.prog 17 #[.slice (some ⟨bd, od, none⟩) nd cd, .slice (some ⟨bs, os, none⟩) n cs] w fun e w' =>
      e = .returned (.tuple #[.int .i64 ((Hx.decode (Lib.bytesOf xs)).1.length : Int), Hx.errVal 76 ev (Hx.decode (Lib.bytesOf xs)).2]) ∧ w'.rowIs bd 5 N (Hx.rowP f od (Hx.decode (Lib.bytesOf xs)).1) ∧ w.grownBy w' (some bd) := Any.hex_Decode Ybaf.laysPa44 bd od nd cd N f bs os n cs xs w ev hx hr hsrc hrow hfit hlen hne hbig hE hgb
open Go.RowKit Go.Lib in
/-- encoding/hex.Decode AT A src THAT IS nil: nothing is written; it returns (0, nil). (dst: whatever value.) (LAID: no walk: one application.) -/
theorem Ybaf.hex_Decode_nil (dst : Value) (w : World) :
    Calls Ybaf.prog 17 #[dst, .slice none 0 0] w fun e w' => e = .returned (.tuple #[.int .i64 0, .nilIface]) ∧ w' = w := Any.hex_Decode_nil Ybaf.laysPa44 dst w
end Go.Proofs
