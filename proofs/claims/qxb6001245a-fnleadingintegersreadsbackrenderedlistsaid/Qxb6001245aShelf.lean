/-
  DERIVED: THE SHELF's CONTRACTS AT THIS DUMP, IN PLAIN WORDS (tools/lay-plain.mjs out of 'TryShelf.lean', which tools/lay-shelf.mjs wrote): THE SAME DECLARATIONS UNDER THE SAME NAMES: 'import', 'namespace', 'open', 'def', 'theorem' AND NOTHING ELSE: no command of the shelf's: FOR A HAND-IN. Each laying: the table of numbers ('.._ren') and one theorem, a field a fact of the dump's own or the kernel's comparison; each contract: ONE APPLICATION.
-/
import Derived.Shelf.Utf8.RuneCount
import Derived.Shelf.Strings.Search1
import Derived.Shelf.Strings.RuneCount
import Derived.Shelf.Bytes.SlIndexSmall
import Derived.Ground.SlbNamesProg
import Derived.Shelf.Bytes.SlCountOne
import Derived.Shelf.Bytes.SlIndexAt
import Derived.Shelf.Bytes.Small
import Derived.Shelf.Bytes.IndexByte
import Derived.Test.Qxb6001245aProg
namespace Go.Proofs
open Go.Shelf
def Try.lays195_ren : Go.Shelf.Ren := ⟨fun | 195 => 31 | n => n, fun | 9 => 9 | 3 => 3 | 0 => 0 | 4 => 4 | n => n, fun | n => n⟩
theorem Try.lays195 : Go.Proofs.Lays.n195 Try.prog Try.lays195_ren := {
  mixed := by kernel_rfl
  f195 := Try.func31.trans (congrArg some (by kernel_rfl))
  t0 := Try.underlying0
  a0 := Try.isAgg0
  z0 := Try.sizeOf0
  v0 := Try.zeroValue0
  t3 := Try.underlying3
  a3 := Try.isAgg3
  z3 := Try.sizeOf3
  v3 := Try.zeroValue3
  t4 := Try.underlying4
  a4 := Try.isAgg4
  z4 := Try.sizeOf4
  v4 := Try.zeroValue4
  t9 := Try.underlying9
  a9 := Try.isAgg9
  z9 := Try.sizeOf9
  v9 := Try.zeroValue9 }
open Go.RowKit in
/-- unicode/utf8.RuneCountInString: "RuneCountInString is like RuneCount but its input is a string." ("RuneCount returns the number of runes in p. Erroneous and short encodings are treated as single runes of width 1 byte."): EVERY STRING, valid UTF-8 or not: 'Lib.runeCount s' (plain words over the model's own 'Utf8.decode'; 'Lib.runeCount_le': at most len(s); 'Lib.runeCount_ascii': on ASCII: len(s)). THE ONE CONDITION: len(s) below 2^63 - 1 (the counter does not wrap): the form's reach pays it. THE WORLD BEHIND THE CALL: ONE BLOCK MORE: the model's iterator over s, at its end: all else as it was. (LAID: no walk: one application.) -/
theorem Try.utf8_RuneCountInString (s : ByteArray) (w : World) (hs : s.size < 9223372036854775807) :
    Calls Try.prog 31 #[.string s] w fun e w' => e = .returned (.int .i64 (Lib.runeCount s)) ∧ ∃ pos, w' = w.iter s pos := Any.utf8_RuneCountInString Try.lays195 s w hs
def Try.lays224_ren : Go.Shelf.Ren := ⟨fun | 224 => 34 | n => n, fun | 3 => 3 | n => n, fun | n => n⟩
theorem Try.lays224 : Go.Proofs.Lays.n224 Try.prog Try.lays224_ren := {
  mixed := by kernel_rfl
  f224 := Try.func34.trans (congrArg some (by kernel_rfl))
  t3 := Try.underlying3
  a3 := Try.isAgg3
  z3 := Try.sizeOf3
  v3 := Try.zeroValue3 }
open Go.RowKit Go.Lib in
/-- internal/bytealg.Cutover: "Cutover reports the number of failures of IndexByte we should tolerate before switching over to Index. n is the number of bytes processed so far.": on amd64: (n + 16) / 8. (LAID: no walk: one application.) -/
theorem Try.bytealg_Cutover (n : Int) (h0 : 0 ≤ n) (h1 : n < 4611686018427387904) (w : World) :
    Calls Try.prog 34 #[.int .i64 n] w fun e w' => e = .returned (.int .i64 ((n + 16) / 8)) ∧ w' = w := Any.bytealg_Cutover Try.lays224 n h0 h1 w
open Go.RowKit Go.Lib in
theorem Try.utf8_RuneCountInString_ascii (s : ByteArray) (w : World) (hs : s.size < 4294967281) (hascii : ∀ (j : Nat) b, s.data.toList[j]? = some b → b.toNat < 128) :
    Calls Try.prog 31 #[.string s] w fun e w' => e = .returned (.int .i64 s.size) ∧ w' = w.iter s s.size := Any.utf8_RuneCountInString_ascii Try.lays195 s w hs hascii
def Try.lays185_ren : Go.Shelf.Ren := ⟨fun | 185 => 30 | 187 => 24 | 115 => 32 | 253 => 33 | 224 => 34 | 254 => 35 | 255 => 27 | 291 => 36 | n => n, fun | 37 => 22 | 3 => 3 | 4 => 4 | 0 => 0 | 5 => 5 | 46 => 46 | 9 => 9 | 146 => 48 | 51 => 47 | n => n, fun | 1 => 0 | n => n⟩
theorem Try.lays185 : Go.Proofs.Lays.n185 Try.prog Try.lays185_ren := {
  mixed := by kernel_rfl
  f115 := Try.func32.trans (congrArg some (by kernel_rfl))
  f185 := Try.func30.trans (congrArg some (by kernel_rfl))
  f187 := Try.func24.trans (congrArg some (by kernel_rfl))
  f224 := Try.func34.trans (congrArg some (by kernel_rfl))
  f253 := Try.func33.trans (congrArg some (by kernel_rfl))
  f254 := Try.func35.trans (congrArg some (by kernel_rfl))
  f255 := Try.func27.trans (congrArg some (by kernel_rfl))
  f291 := Try.func36.trans (congrArg some (by kernel_rfl))
  t0 := Try.underlying0
  a0 := Try.isAgg0
  z0 := Try.sizeOf0
  v0 := Try.zeroValue0
  t3 := Try.underlying3
  a3 := Try.isAgg3
  z3 := Try.sizeOf3
  v3 := Try.zeroValue3
  t4 := Try.underlying4
  a4 := Try.isAgg4
  z4 := Try.sizeOf4
  v4 := Try.zeroValue4
  t5 := Try.underlying5
  a5 := Try.isAgg5
  z5 := Try.sizeOf5
  v5 := Try.zeroValue5
  t9 := Try.underlying9
  a9 := Try.isAgg9
  z9 := Try.sizeOf9
  v9 := Try.zeroValue9
  t37 := Try.underlying22
  a37 := Try.isAgg22
  z37 := Try.sizeOf22
  v37 := Try.zeroValue22
  t46 := Try.underlying46
  a46 := Try.isAgg46
  z46 := Try.sizeOf46
  v46 := Try.zeroValue46
  t51 := Try.underlying47
  a51 := Try.isAgg47
  z51 := Try.sizeOf47
  v51 := Try.zeroValue47
  t146 := Try.underlying48
  a146 := Try.isAgg48
  z146 := Try.sizeOf48
  v146 := Try.zeroValue48
  g1 := by kernel_rfl }
open Go.RowKit Go.Lib in
/-- bytes.Index at a separator of one byte: "Index returns the index of the first instance of sep in s, or -1 if sep is not present in s.": 'Lib.indexByte' of s's bytes and that byte; the world is as it was. 'xs': s's elements; 'cv': the separator's one byte. (LAID: no walk: one application.) -/
theorem Try.bytes_Index_one (b o n c b2 o2 d : Nat) (xs : List Int) (cv : Int) (w : World) (hx : xs.length = n) (hc : ∀ i, i < n → w.cell? ⟨b, o + i, none⟩ = some (.int .u8 (xs.getD i 0))) (hc2 : w.cell? ⟨b2, o2, none⟩ = some (.int .u8 cv)) :
    Calls Try.prog 30 #[.slice (some ⟨b, o, none⟩) n c, .slice (some ⟨b2, o2, none⟩) 1 d] w fun e w' => e = .returned (.int .i64 (Lib.indexByte (Lib.bytesOf xs) cv.toNat.toUInt8)) ∧ w' = w := Any.bytes_Index_one Try.lays185 b o n c b2 o2 d xs cv w hx hc hc2
open Go.RowKit Go.Lib in
/-- The same where s is nil: -1. (LAID: no walk: one application.) -/
theorem Try.bytes_Index_one_nil (b2 o2 d : Nat) (cv : Int) (w : World) (hc2 : w.cell? ⟨b2, o2, none⟩ = some (.int .u8 cv)) :
    Calls Try.prog 30 #[.slice none 0 0, .slice (some ⟨b2, o2, none⟩) 1 d] w fun e w' => e = .returned (.int .i64 (-1)) ∧ w' = w := Any.bytes_Index_one_nil Try.lays185 b2 o2 d cv w hc2
open Go.RowKit Go.Lib in
/-- bytes.Index at a separator of no byte (nil too): 0, whatever s. (LAID: no walk: one application.) -/
theorem Try.bytes_Index_none (p q : Option Addr) (n c d : Nat) (w : World) :
    Calls Try.prog 30 #[.slice p n c, .slice q 0 d] w fun e w' => e = .returned (.int .i64 0) ∧ w' = w := Any.bytes_Index_none Try.lays185 p q n c d w
open Go.RowKit Go.Lib in
/-- bytes.Index at a separator of two bytes or more that is longer than s: -1; no cell is read. (LAID: no walk: one application.) -/
theorem Try.bytes_Index_longer (p q : Option Addr) (n c m d : Nat) (w : World) (h2 : 2 ≤ m) (hnm : n < m) (hm : m ≤ 9223372036854775807) :
    Calls Try.prog 30 #[.slice p n c, .slice q m d] w fun e w' => e = .returned (.int .i64 (-1)) ∧ w' = w := Any.bytes_Index_longer Try.lays185 p q n c m d w h2 hnm hm
open Go.RowKit Go.Lib in
/-- bytes.Index at a separator of two bytes or more that is JUST AS LONG as s: 0 where the two hold the same bytes, else -1. (LAID: no walk: one application.) -/
theorem Try.bytes_Index_same (b o c b2 o2 d n : Nat) (xs ys : List Int) (w : World) (h2 : 2 ≤ n) (hm : n ≤ 9223372036854775807) (hx : xs.length = n) (hy : ys.length = n) (hc : ∀ i, i < n → w.cell? ⟨b, o + i, none⟩ = some (.int .u8 (xs.getD i 0))) (hc2 : ∀ i, i < n → w.cell? ⟨b2, o2 + i, none⟩ = some (.int .u8 (ys.getD i 0))) :
    Calls Try.prog 30 #[.slice (some ⟨b, o, none⟩) n c, .slice (some ⟨b2, o2, none⟩) n d] w fun e w' => e = .returned (.int .i64 (if Lib.bytesOf ys == Lib.bytesOf xs then 0 else -1)) ∧ w' = w := Any.bytes_Index_same Try.lays185 b o c b2 o2 d n xs ys w h2 hm hx hy hc hc2
def Try.laysSlB13_ren : Go.Shelf.Ren := ⟨fun | 13 => 25 | 24 => 28 | 25 => 29 | 12 => 30 | 31 => 31 | 19 => 24 | 20 => 32 | 21 => 33 | 22 => 34 | 23 => 35 | 29 => 27 | 30 => 36 | n => n, fun | 22 => 22 | 3 => 3 | 4 => 4 | 0 => 0 | 5 => 5 | 9 => 9 | 33 => 46 | 40 => 48 | 39 => 47 | n => n, fun | 0 => 0 | n => n⟩
theorem Try.laysSlB13 : Go.Proofs.SlLaysB.n13 Try.prog Try.laysSlB13_ren := {
  mixed := by kernel_rfl
  f13 := Try.func25.trans (congrArg some (by kernel_rfl))
  f25 := Try.func29.trans (congrArg some (by kernel_rfl))
  t0 := Try.underlying0
  a0 := Try.isAgg0
  z0 := Try.sizeOf0
  v0 := Try.zeroValue0
  t3 := Try.underlying3
  a3 := Try.isAgg3
  z3 := Try.sizeOf3
  v3 := Try.zeroValue3
  t4 := Try.underlying4
  a4 := Try.isAgg4
  z4 := Try.sizeOf4
  v4 := Try.zeroValue4
  t5 := Try.underlying5
  a5 := Try.isAgg5
  z5 := Try.sizeOf5
  v5 := Try.zeroValue5
  t22 := Try.underlying22
  a22 := Try.isAgg22
  z22 := Try.sizeOf22
  v22 := Try.zeroValue22 }
open Go.RowKit Go.Lib in
/-- bytes.Count at a separator of one byte: "Count counts the number of non-overlapping instances of sep in s.": how often that byte stands among s's ('Lib.countByte': 'List.count'); the world is as it was. 'xs': s's elements; 'cv': the separator's one byte. (LAID: no walk: one application.) -/
theorem Try.bytes_Count_one (b o n c b2 o2 d : Nat) (xs : List Int) (cv : Int) (w : World) (hx : xs.length = n) (hc : ∀ i, i < n → w.cell? ⟨b, o + i, none⟩ = some (.int .u8 (xs.getD i 0))) (hc2 : w.cell? ⟨b2, o2, none⟩ = some (.int .u8 cv)) :
    Calls Try.prog 25 #[.slice (some ⟨b, o, none⟩) n c, .slice (some ⟨b2, o2, none⟩) 1 d] w fun e w' => e = .returned (.int .i64 (Lib.countByte (Lib.bytesOf xs) cv.toNat.toUInt8)) ∧ w' = w := Any.bytes_Count_one Try.laysSlB13 b o n c b2 o2 d xs cv w hx hc hc2
open Go.RowKit Go.Lib in
/-- The same, s AT WHATEVER ADDRESS, its cells as 'open_ints' hands them ('a.add i'). (LAID: no walk: one application.) -/
theorem Try.bytes_Count_one_at (a : Addr) (n c b2 o2 d : Nat) (xs : List Int) (cv : Int) (w : World) (hx : xs.length = n) (hc : ∀ i, i < n → w.cell? (a.add i) = some (.int .u8 (xs.getD i 0))) (hc2 : w.cell? ⟨b2, o2, none⟩ = some (.int .u8 cv)) :
    Calls Try.prog 25 #[.slice (some a) n c, .slice (some ⟨b2, o2, none⟩) 1 d] w fun e w' => e = .returned (.int .i64 (Lib.countByte (Lib.bytesOf xs) cv.toNat.toUInt8)) ∧ w' = w := Any.bytes_Count_one_at Try.laysSlB13 a n c b2 o2 d xs cv w hx hc hc2
open Go.RowKit Go.Lib in
/-- The same where s is nil: 0. (LAID: no walk: one application.) -/
theorem Try.bytes_Count_one_nil (b2 o2 d : Nat) (cv : Int) (w : World) (hc2 : w.cell? ⟨b2, o2, none⟩ = some (.int .u8 cv)) :
    Calls Try.prog 25 #[.slice none 0 0, .slice (some ⟨b2, o2, none⟩) 1 d] w fun e w' => e = .returned (.int .i64 0) ∧ w' = w := Any.bytes_Count_one_nil Try.laysSlB13 b2 o2 d cv w hc2
def Try.lays187_ren : Go.Shelf.Ren := ⟨fun | 187 => 24 | 255 => 27 | n => n, fun | 37 => 22 | 5 => 5 | 3 => 3 | n => n, fun | n => n⟩
theorem Try.lays187 : Go.Proofs.Lays.n187 Try.prog Try.lays187_ren := {
  mixed := by kernel_rfl
  f187 := Try.func24.trans (congrArg some (by kernel_rfl))
  f255 := Try.func27.trans (congrArg some (by kernel_rfl))
  t3 := Try.underlying3
  a3 := Try.isAgg3
  z3 := Try.sizeOf3
  v3 := Try.zeroValue3
  t5 := Try.underlying5
  a5 := Try.isAgg5
  z5 := Try.sizeOf5
  v5 := Try.zeroValue5
  t37 := Try.underlying22
  a37 := Try.isAgg22
  z37 := Try.sizeOf22
  v37 := Try.zeroValue22 }
open Go.RowKit Go.Lib in
/-- bytes.IndexByte, b at whatever address: "IndexByte returns the index of the first instance of c in b, or -1 if c is not present in b." (LAID: no walk: one application.) -/
theorem Try.bytes_IndexByte_at (a : Addr) (n c : Nat) (xs : List Int) (cv : Int) (w : World) (hx : xs.length = n) (hc : ∀ i, i < n → w.cell? (a.add i) = some (.int .u8 (xs.getD i 0))) :
    Calls Try.prog 24 #[.slice (some a) n c, .int .u8 cv] w fun e w' => e = .returned (.int .i64 (Lib.indexByte (Lib.bytesOf xs) cv.toNat.toUInt8)) ∧ w' = w := Any.bytes_IndexByte_at Try.lays187 a n c xs cv w hx hc
open Go.RowKit Go.Lib in
/-- bytes.Index at a separator of one byte, s at whatever address. (LAID: no walk: one application.) -/
theorem Try.bytes_Index_one_at (a : Addr) (n c b2 o2 d : Nat) (xs : List Int) (cv : Int) (w : World) (hx : xs.length = n) (hc : ∀ i, i < n → w.cell? (a.add i) = some (.int .u8 (xs.getD i 0))) (hc2 : w.cell? ⟨b2, o2, none⟩ = some (.int .u8 cv)) :
    Calls Try.prog 30 #[.slice (some a) n c, .slice (some ⟨b2, o2, none⟩) 1 d] w fun e w' => e = .returned (.int .i64 (Lib.indexByte (Lib.bytesOf xs) cv.toNat.toUInt8)) ∧ w' = w := Any.bytes_Index_one_at Try.lays185 a n c b2 o2 d xs cv w hx hc hc2
def Try.lays115_ren : Go.Shelf.Ren := ⟨fun | 115 => 32 | n => n, fun | 37 => 22 | 4 => 4 | 9 => 9 | 5 => 5 | n => n, fun | n => n⟩
theorem Try.lays115 : Go.Proofs.Lays.n115 Try.prog Try.lays115_ren := {
  mixed := by kernel_rfl
  f115 := Try.func32.trans (congrArg some (by kernel_rfl))
  t4 := Try.underlying4
  a4 := Try.isAgg4
  z4 := Try.sizeOf4
  v4 := Try.zeroValue4
  t9 := Try.underlying9
  a9 := Try.isAgg9
  z9 := Try.sizeOf9
  v9 := Try.zeroValue9
  t37 := Try.underlying22
  a37 := Try.isAgg22
  z37 := Try.sizeOf22
  v37 := Try.zeroValue22 }
/-- bytes.Equal: "Equal reports whether a and b are the same length and contain the same bytes. A nil argument is equivalent to an empty slice.": IT RETURNS 'the bytes of the one == the bytes of the other'; the world is as it was. THE TWO ARGUMENTS COME AS WHATEVER VALUES, each with the one fact that the walk wants of it: what 'string(..)' of it gives: for a slice whose cells you know: 'run_convert_bytes_arg' (Derived/Laws/BytesArg.lean) hands that fact; for a nil one: 'run_convert_bytes_nil' (with xs := []). (LAID: no walk: one application.) -/
theorem Try.bytes_Equal (v1 v2 : Value) (xs ys : List Int) (w : World) (h1 : (convert 22 9 v1).run Try.prog w = .ok (.string (strOfNums xs)) w) (h2 : (convert 22 9 v2).run Try.prog w = .ok (.string (strOfNums ys)) w) :
    Calls Try.prog 32 #[v1, v2] w fun e w' => e = .returned (.bool (Lib.bytesOf xs == Lib.bytesOf ys)) ∧ w' = w := Any.bytes_Equal Try.lays115 v1 v2 xs ys w h1 h2
/-- bytes.IndexByte: "IndexByte returns the index of the first instance of c in b, or -1 if c is not present in b.": IT RETURNS 'Lib.indexByte (the bytes of b) c'; the world is as it was. 'xs': the numbers that the slice's cells hold. (LAID: no walk: one application.) -/
theorem Try.bytes_IndexByte (b o n c : Nat) (xs : List Int) (cv : Int) (w : World) (hx : xs.length = n) (hc : ∀ i, i < n → w.cell? ⟨b, o + i, none⟩ = some (.int .u8 (xs.getD i 0))) :
    Calls Try.prog 24 #[.slice (some ⟨b, o, none⟩) n c, .int .u8 cv] w fun e w' => e = .returned (.int .i64 (Lib.indexByte (Lib.bytesOf xs) cv.toNat.toUInt8)) ∧ w' = w := Any.bytes_IndexByte Try.lays187 b o n c xs cv w hx hc
/-- bytes.IndexByte AT nil: -1. (LAID: no walk: one application.) -/
theorem Try.bytes_IndexByte_nil (cv : Int) (w : World) :
    Calls Try.prog 24 #[.slice none 0 0, .int .u8 cv] w fun e w' => e = .returned (.int .i64 (-1)) ∧ w' = w := Any.bytes_IndexByte_nil Try.lays187 cv w
end Go.Proofs
